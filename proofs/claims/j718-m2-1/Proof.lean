import JvmDerived
import JvmDerived.Pilot.@@N@@Statement
import JvmDerived.Pilot.@@N@@Code
set_option linter.unusedVariables false
set_option linter.unusedSimpArgs false
namespace Jvm.RoadKit
open Sem ClassFile Op Lib Jvm.Stand Jvm.Free Jvm.LawKit
section New
variable {p : Program} {l : Launch} {e : Env} {R : Room} {s : State} {m : MethodId} {args : Array Value} {below : List Frame} {meth : Method} {c : Code} {T : State} {locs : List Loc} {cells slots : Nat}
theorem retI (X : Stand p l e R s m args below meth c T locs cells slots) (hx : p.tables.exec = Jvm.exec) {pc : Nat} {Ls : Array Slot} {z : Int32} {rest : List Value} (hret : meth.sig.returnType = some .int) (hd : decode c.code pc = .ok (.ireturn, 1)) {fs : List Frame}
    (hl : ∀ (f : JFrame) (acts : List Action), f.method = m → f.locked = none → f.entered = [] → (doReturn e (T.setTop f) acts (some (.int z))).1 = T.setFrames fs) : Steps p.tables e below (T.setTop (mkF m pc Ls (.int z :: rest))) (T.setFrames fs) := by
  have hm' : T.vm.method? m = some meth := X.method'
  have hn : narrow .int (.int z) = .int z := rfl
  show Steps p.tables e below (T.setTop { method := m, pc := pc, locals := Ls, stack := _ :: rest, locked := none }) _
  jvm_step X.here [X.here.top, hx, hd, hm', hret, hn]
  first | (intro acts; rw [hl _ acts rfl rfl rfl]) | rw [hl _ _ rfl rfl rfl]
  exact Steps.refl _
theorem own_lremM {g : JFrame} {target : State} (X : Stand p l e R s m args below meth c T locs cells slots) (hx : p.tables.exec = Jvm.exec) (hg : g.method = m) {x y : Int64} {rest : List Value} (hd : decode c.code g.pc = .ok (.lrem, 1)) (hs : g.stack = .long y :: .long x :: rest) (hy : y ≠ 0)
    (hr : Steps p.tables e below (T.setTop { g with pc := g.pc + 1, stack := .long (x % y) :: rest }) target) : Steps p.tables e below (T.setTop g) target := by
  have q : x - x / y * y = x % y := lrem_mod x y
  exact XS.lrem X.here hx hg hd hs hy (by rw [q]; exact hr)
end New
end Jvm.RoadKit
namespace Jvm.RoadKit
open Sem ClassFile Op Lib Jvm.Stand Jvm.Free Jvm.LawKit
section OwnA
variable {p : Program} {l : Launch} {e : Env} {R : Room} {s : State} {m : MethodId} {args : Array Value} {below : List Frame} {meth : Method} {c : Code} {T : State} {locs : List Loc} {cells slots : Nat} {Z : State} {a0 : Array Value} {h h' : Heap} {a b : Addr} {ty : FieldType} {n : Nat} {G : Nat → Value}
def own_upd {α : Type} (g : Nat → α) (k : Nat) (x : α) (i : Nat) : α := if i = k then x else g i
def own_zI (_ : Nat) : Int32 := 0
def own_zJ (_ : Nat) : Int64 := 0
def own_A (Z : State) (h : Heap) (a : Addr) (ty : FieldType) (n : Nat) (G : Nat → Value) : Prop := ∃ c : Cell, Arr Z h a c ty ∧ c.slots.size = n ∧ ∀ i, i < n → c.slots[i]? = some (G i) ∧ fits ty (G i) = true
theorem own_A.lt (F : own_A Z h a ty n G) : a < h.size := by obtain ⟨c, A, -⟩ := F; exact A.lt
theorem own_A.ext (F : own_A Z h a ty n G) (E : Ext h h') : own_A Z h' a ty n G := by obtain ⟨c, A, r⟩ := F; exact ⟨c, A.ext E, r⟩
theorem own_A.other {sl : Nat} {v : Value} (F : own_A Z h b ty n G) (W : Wr h h' a sl v) (q : b ≠ a) : own_A Z h' b ty n G := by obtain ⟨c, A, r⟩ := F; exact ⟨c, A.other W q, r⟩
theorem own_A.keep {ws : List Addr} (F : own_A Z h a ty n G) (K : Keep h h' ws) (q : a ∉ ws) : own_A Z h' a ty n G := by obtain ⟨c, A, r⟩ := F; exact ⟨c, ⟨K.2.1 a c A.1 q, A.2⟩, r⟩
theorem own_A.new {k : ClassId} {z : Int32} (A : Arr Z h a (newA k ty z) ty) (q : z.toNatClampNeg = n) (hG : ∀ i, G i = defaultValue ty) : own_A Z h a ty n G :=
  ⟨_, A, by rw [sz_new, q], fun i hi => ⟨by rw [hG]; rw [← q] at hi; simp [newA, hi], by rw [hG]; cases ty <;> rfl⟩⟩
theorem own_A.set {k : Nat} {v : Value} (F : own_A Z h a ty n G) (W : Wr h h' a k v) (hk : k < n) (hf : fits ty v = true) : own_A Z h' a ty n (own_upd G k v) := by
  obtain ⟨c, A, q, r⟩ := F
  refine ⟨c.setSlot k v, A.same W, by rw [sz_set, q], fun i hi => ?_⟩
  by_cases e : i = k
  · subst e
    exact ⟨by simp [Cell.setSlot, own_upd, q, hk], by simpa [own_upd] using hf⟩
  · have r1 := r i hi
    have r2 : (c.setSlot k v).slots[i]? = c.slots[i]? := Array.getElem?_setIfInBounds_ne (Ne.symm e)
    have r3 : own_upd G k v i = G i := if_neg e
    rw [r2, r3]; exact r1
theorem own_upd_int (g : Nat → Int32) (k : Nat) (x : Int32) : own_upd (fun i => Value.int (g i)) k (.int x) = fun i => Value.int (own_upd g k x i) := by funext i; unfold own_upd; split <;> rfl
theorem own_upd_long (g : Nat → Int64) (k : Nat) (x : Int64) : own_upd (fun i => Value.long (g i)) k (.long x) = fun i => Value.long (own_upd g k x i) := by funext i; unfold own_upd; split <;> rfl
theorem own_inb {c : Cell} {j : Int32} {k : Nat} (q : c.slots.size = n) (hj0 : ¬ j < 0) (hk : j.toNatClampNeg = k) (hkn : k < n) : ¬ (j < 0 ∨ c.slots.size ≤ j.toNatClampNeg) := fun y => y.elim hj0 fun z => by rw [q, hk] at z; exact absurd hkn (Nat.not_lt.mpr z)
theorem own_stI {g0 : Nat → Int32} (X : Stand p l e R s m args below meth c T locs cells slots) (hx : p.tables.exec = Jvm.exec) (hZ : Z.Warmed39 s.vm) (eT : T.heap = h) (F : own_A Z h a .int n (fun i => .int (g0 i))) {j x : Int32} {k : Nat} (hj0 : ¬ j < 0) (hk : j.toNatClampNeg = k) (hkn : k < n) {g : JFrame} (hg : g.method = m) {rest : List Value} (hs : g.stack = .int x :: .int j :: .ref a :: rest) (hd : decode c.code g.pc = .ok (.iastore, 1)) :
    ∃ T' h', Stand p l e R s m args below meth c T' (locs ++ [⟨a, j.toNatClampNeg⟩]) cells slots ∧ T'.heap = h' ∧ Wr h h' a j.toNatClampNeg (.int x) ∧ own_A Z h' a .int n (fun i => .int (own_upd g0 k x i)) ∧ ∀ target, Steps p.tables e below (T'.setTop { g with pc := g.pc + 1, stack := rest }) target → Steps p.tables e below (T.setTop g) target := by
  obtain ⟨cl, A, q, r⟩ := id F
  obtain ⟨T', h', X', e', W, st⟩ := stI X hx hZ eT A (j := j) (x := x) (own_inb q hj0 hk hkn) hg hs hd
  exact ⟨T', h', X', e', W, own_upd_int g0 k x ▸ hk ▸ F.set W (by rw [hk]; exact hkn) rfl, st⟩
theorem own_stJ {g0 : Nat → Int64} (X : Stand p l e R s m args below meth c T locs cells slots) (hx : p.tables.exec = Jvm.exec) (hZ : Z.Warmed39 s.vm) (eT : T.heap = h) (F : own_A Z h a .long n (fun i => .long (g0 i))) {j : Int32} {x : Int64} {k : Nat} (hj0 : ¬ j < 0) (hk : j.toNatClampNeg = k) (hkn : k < n) {g : JFrame} (hg : g.method = m) {rest : List Value} (hs : g.stack = .long x :: .int j :: .ref a :: rest) (hd : decode c.code g.pc = .ok (.lastore, 1)) :
    ∃ T' h', Stand p l e R s m args below meth c T' (locs ++ [⟨a, j.toNatClampNeg⟩]) cells slots ∧ T'.heap = h' ∧ Wr h h' a j.toNatClampNeg (.long x) ∧ own_A Z h' a .long n (fun i => .long (own_upd g0 k x i)) ∧ ∀ target, Steps p.tables e below (T'.setTop { g with pc := g.pc + 1, stack := rest }) target → Steps p.tables e below (T.setTop g) target := by
  obtain ⟨cl, A, q, r⟩ := id F
  obtain ⟨T', h', X', e', W, st⟩ := stJ X hx hZ eT A (j := j) (x := x) (own_inb q hj0 hk hkn) hg hs hd
  exact ⟨T', h', X', e', W, own_upd_long g0 k x ▸ hk ▸ F.set W (by rw [hk]; exact hkn) rfl, st⟩
theorem own_stB {g0 : Nat → Int32} (X : Stand p l e R s m args below meth c T locs cells slots) (hx : p.tables.exec = Jvm.exec) (hZ : Z.Warmed39 s.vm) (eT : T.heap = h) (F : own_A Z h a .byte n (fun i => .int (g0 i))) {j x : Int32} {k : Nat} (hj0 : ¬ j < 0) (hk : j.toNatClampNeg = k) (hkn : k < n) {g : JFrame} (hg : g.method = m) {rest : List Value} (hs : g.stack = .int x :: .int j :: .ref a :: rest) (hd : decode c.code g.pc = .ok (.bastore, 1)) :
    ∃ T' h', Stand p l e R s m args below meth c T' (locs ++ [⟨a, j.toNatClampNeg⟩]) cells slots ∧ T'.heap = h' ∧ Wr h h' a j.toNatClampNeg (.int x.toInt8.toInt32) ∧ own_A Z h' a .byte n (fun i => .int (own_upd g0 k x.toInt8.toInt32 i)) ∧ ∀ target, Steps p.tables e below (T'.setTop { g with pc := g.pc + 1, stack := rest }) target → Steps p.tables e below (T.setTop g) target := by
  obtain ⟨cl, A, q, r⟩ := id F
  obtain ⟨T', h', X', e', W, st⟩ := stB X hx hZ eT A (j := j) (x := x) (own_inb q hj0 hk hkn) hg hs hd
  have hfb : fits .byte (.int (nar .byte x)) = true := fits_nar_byte x
  exact ⟨T', h', X', e', W, own_upd_int g0 k _ ▸ hk ▸ F.set W (by rw [hk]; exact hkn) hfb, st⟩
theorem own_ldI {g0 : Nat → Int32} (X : Stand p l e R s m args below meth c T locs cells slots) (hx : p.tables.exec = Jvm.exec) (hZ : Z.Warmed39 s.vm) (eT : T.heap = h) (F : own_A Z h a .int n (fun i => .int (g0 i))) {j : Int32} {k : Nat} (hj0 : ¬ j < 0) (hk : j.toNatClampNeg = k) (hkn : k < n) {g : JFrame} (hg : g.method = m) {rest : List Value} (hs : g.stack = .int j :: .ref a :: rest) (hd : decode c.code g.pc = .ok (.iaload, 1)) {target : State}
    (hr : Steps p.tables e below (T.setTop { g with pc := g.pc + 1, stack := .int (g0 k) :: rest }) target) : Steps p.tables e below (T.setTop g) target := by
  obtain ⟨cl, A, q, r⟩ := F
  exact X.iaload hx (j := j) (v := .int (g0 k)) (by rw [eT]; exact A.1) (State.isArrayOf_alike hZ.alike A.2.1) A.2.2 (own_inb q hj0 hk hkn) (by rw [hk]; exact (r k hkn).1) hg hs hd _ hr
theorem own_ldJ {g0 : Nat → Int64} (X : Stand p l e R s m args below meth c T locs cells slots) (hx : p.tables.exec = Jvm.exec) (hZ : Z.Warmed39 s.vm) (eT : T.heap = h) (F : own_A Z h a .long n (fun i => .long (g0 i))) {j : Int32} {k : Nat} (hj0 : ¬ j < 0) (hk : j.toNatClampNeg = k) (hkn : k < n) {g : JFrame} (hg : g.method = m) {rest : List Value} (hs : g.stack = .int j :: .ref a :: rest) (hd : decode c.code g.pc = .ok (.laload, 1)) {target : State}
    (hr : Steps p.tables e below (T.setTop { g with pc := g.pc + 1, stack := .long (g0 k) :: rest }) target) : Steps p.tables e below (T.setTop g) target := by
  obtain ⟨cl, A, q, r⟩ := F
  exact X.laload hx (j := j) (v := .long (g0 k)) (by rw [eT]; exact A.1) (State.isArrayOf_alike hZ.alike A.2.1) A.2.2 (own_inb q hj0 hk hkn) (by rw [hk]; exact (r k hkn).1) hg hs hd _ hr
theorem own_ldB {g0 : Nat → Int32} (X : Stand p l e R s m args below meth c T locs cells slots) (hx : p.tables.exec = Jvm.exec) (hZ : Z.Warmed39 s.vm) (eT : T.heap = h) (F : own_A Z h a .byte n (fun i => .int (g0 i))) {j : Int32} {k : Nat} (hj0 : ¬ j < 0) (hk : j.toNatClampNeg = k) (hkn : k < n) {g : JFrame} (hg : g.method = m) {rest : List Value} (hs : g.stack = .int j :: .ref a :: rest) (hd : decode c.code g.pc = .ok (.baload, 1)) {target : State}
    (hr : Steps p.tables e below (T.setTop { g with pc := g.pc + 1, stack := .int (g0 k) :: rest }) target) : Steps p.tables e below (T.setTop g) target := by
  obtain ⟨cl, A, q, r⟩ := F
  exact X.baloadBytes hx (j := j) (v := .int (g0 k)) (by rw [eT]; exact A.1) (State.isArrayOf_alike hZ.alike A.2.1) A.2.2 (own_inb q hj0 hk hkn) (by rw [hk]; exact (r k hkn).1) hg hs hd _ hr
theorem own_ldR {G : Nat → Value} (X : Stand p l e R s m args below meth c T locs cells slots) (hx : p.tables.exec = Jvm.exec) (hZ : Z.Warmed39 s.vm) (eT : T.heap = h) (F : own_A Z h a ty n G) (hty : ty.isReference = true) {j : Int32} {k : Nat} {v : Value} (hv : G k = v) (hj0 : ¬ j < 0) (hk : j.toNatClampNeg = k) (hkn : k < n) {g : JFrame} (hg : g.method = m) {rest : List Value} (hs : g.stack = .int j :: .ref a :: rest) (hd : decode c.code g.pc = .ok (.aaload, 1)) {target : State}
    (hr : Steps p.tables e below (T.setTop { g with pc := g.pc + 1, stack := v :: rest }) target) : Steps p.tables e below (T.setTop g) target := by
  obtain ⟨cl, A, q, r⟩ := F
  exact X.aaload hx (j := j) (v := v) (by rw [eT]; exact A.1) (State.isArrayOf_alike hZ.alike A.2.1) hty A.2.2 (own_inb q hj0 hk hkn) (by rw [hk, ← hv]; exact (r k hkn).1) hg hs hd _ hr
theorem own_len (X : Stand p l e R s m args below meth c T locs cells slots) (hx : p.tables.exec = Jvm.exec) (hZ : Z.Warmed39 s.vm) (eT : T.heap = h) (F : own_A Z h a ty n G) {z : Int32} (hz : n.toInt32 = z) {g : JFrame} (hg : g.method = m) {rest : List Value} (hs : g.stack = .ref a :: rest) (hd : decode c.code g.pc = .ok (.arraylength, 1)) {target : State}
    (hr : Steps p.tables e below (T.setTop { g with pc := g.pc + 1, stack := .int z :: rest }) target) : Steps p.tables e below (T.setTop g) target := by
  obtain ⟨cl, A, q, r⟩ := F
  exact X.arraylength hx (by rw [eT]; exact A.1) (State.isArrayOf_alike hZ.alike A.2.1) hg hs hd _ (by rw [q, hz]; exact hr)
theorem own_newP {aty : ArrayType} (X : Stand p l e R s m args below meth c T locs cells slots) (hx : p.tables.exec = Jvm.exec) (hZ : Z.Warmed39 s.vm) (w : (Cond.arrayClass (newarray.typeOf aty)).before a0 Z = true) (eT : T.heap = h) {g : JFrame} (hg : g.method = m) (hd : decode c.code g.pc = .ok (.newarray aty, 2)) {z : Int32} {rest : List Value} (hs : g.stack = .int z :: rest)
    (hn : ¬ z < 0) (hzn : z.toNatClampNeg = n) {G : Nat → Value} (hG : ∀ i, G i = defaultValue (newarray.typeOf aty)) {cap : Nat} (hcap : n ≤ cap) (hb : cap * 8 ≤ 536870912) (hc : cells + 1 ≤ R.cells) (hl : slots + cap ≤ R.slots) :
    ∃ (T' : State) (h' : Heap) (b : Addr), b = h.size ∧ Stand p l e R s m args below meth c T' locs (cells + 1) (slots + cap) ∧ T'.heap = h' ∧ Ext h h' ∧ own_A Z h' b (newarray.typeOf aty) n G ∧
      ∀ target, Steps p.tables e below (T'.setTop { g with pc := g.pc + 2, stack := .ref b :: rest }) target → Steps p.tables e below (T.setTop g) target := by
  obtain ⟨T', h', cA, X', e', E', A', st⟩ := newP X hx hZ w eT hg hd hs hn (cap := cap) (by rw [hzn]; exact hcap) hb hc hl
  exact ⟨T', h', _, rfl, X', e', E', own_A.new A' hzn hG, st⟩
theorem own_newPE {aty : ArrayType} (X : Stand p l e R s m args below meth c T locs cells slots) (hx : p.tables.exec = Jvm.exec) (hZ : Z.Warmed39 s.vm) (w : (Cond.arrayClass (newarray.typeOf aty)).before a0 Z = true) (eT : T.heap = h) {g : JFrame} (hg : g.method = m) (hd : decode c.code g.pc = .ok (.newarray aty, 2)) {z : Int32} {rest : List Value} (hs : g.stack = .int z :: rest)
    (hn : ¬ z < 0) (hzn : z.toNatClampNeg = n) {G : Nat → Value} (hG : ∀ i, G i = defaultValue (newarray.typeOf aty)) {cap : Nat} (hcap : n ≤ cap) (hb : cap * 8 ≤ 536870912) (hc : cells + 1 ≤ R.cells) (hl : slots + cap ≤ R.slots) {ad : String} (had : "[" ++ (newarray.typeOf aty).toString = ad) :
    ∃ (T' : State) (h' : Heap) (b : Addr), b = h.size ∧ Stand p l e R s m args below meth c T' locs (cells + 1) (slots + cap) ∧ T'.heap = h' ∧ Ext h h' ∧ own_A Z h' b (newarray.typeOf aty) n G ∧ Exa Z h' b ad ∧
      ∀ target, Steps p.tables e below (T'.setTop { g with pc := g.pc + 2, stack := .ref b :: rest }) target → Steps p.tables e below (T.setTop g) target := by
  obtain ⟨T', h', cA, X', e', E', A', B', st⟩ := newPE X hx hZ w eT hg hd hs hn (cap := cap) (by rw [hzn]; exact hcap) hb hc hl had
  exact ⟨T', h', _, rfl, X', e', E', own_A.new A' hzn hG, B', st⟩
theorem own_clone (X : Stand p l e R s m args below meth c T locs cells slots) (hx : p.tables.exec = Jvm.exec) (hZ : Z.Warmed39 s.vm) {own ad : String} {index : Nat} (hown : s.vm.findClass own = some m.cls)
    (w1 : (Cond.methodLink own index ⟨ad, "clone", "()Ljava/lang/Object;"⟩).before a0 Z = true) (w2 : (Cond.sameMethod ad "java/lang/Object" "clone" "()Ljava/lang/Object;").before a0 Z = true) (w3 : (Cond.native ⟨"java/lang/Object", "clone", "()Ljava/lang/Object;"⟩).before a0 Z = true)
    (w4 : (Cond.instanceMethod ⟨"java/lang/Object", "clone", "()Ljava/lang/Object;"⟩).before a0 Z = true) (w5 : (Cond.selects ad ⟨ad, "clone", "()Ljava/lang/Object;"⟩ ⟨"java/lang/Object", "clone", "()Ljava/lang/Object;"⟩).before a0 Z = true) (w6 : (Cond.castable ad "java/lang/Cloneable").before a0 Z = true)
    (eT : T.heap = h) (F : own_A Z h a ty n G) (E : Exa Z h a ad) {g : JFrame} (hg : g.method = m) (hsize : g.locals.size = c.maxLocals) {rest : List Value} (hs : g.stack = .ref a :: rest) (hd : decode c.code g.pc = .ok (.invokevirtual index, 3))
    (hf : 1 ≤ R.frames) {W cap : Nat} (hW : 2 * g.monitorRoom + (rest.map fun v => v.category).sum ≤ W) (hl : W + 14 ≤ R.locals) (hcap : n ≤ cap) (hc : cells + 1 ≤ R.cells) (hsl : slots + cap ≤ R.slots) :
    ∃ (T' : State) (h' : Heap) (b : Addr), b = h.size ∧ Stand p l e R s m args below meth c T' locs (cells + 1) (slots + cap) ∧ T'.heap = h' ∧ Ext h h' ∧ own_A Z h' b ty n G ∧ Exa Z h' b ad ∧
      ∀ target, Steps p.tables e below (T'.setTop { g with pc := g.pc + 3, stack := .ref b :: rest }) target → Steps p.tables e below (T.setTop g) target := by
  obtain ⟨cl, A, q, r⟩ := F
  have FC : FitC Z cl := fitC_of A fun i hi v hv => by
    have r1 := r i (by rw [← q]; exact hi)
    rw [r1.1] at hv; cases hv; exact r1.2
  obtain ⟨T', h', X', e', ex, A', E', st⟩ := cloneA X hx hZ hown w1 w2 w3 w4 w5 w6 eT A E FC hg hsize hs hd hf hW hl (by rw [q]; exact hcap) hc hsl
  exact ⟨T', h', _, rfl, X', e', ex, ⟨cloneOf cl, A', q, r⟩, E', st⟩
theorem own_A.congr {G' : Nat → Value} (F : own_A Z h a ty n G) (q : ∀ i, i < n → G i = G' i) : own_A Z h a ty n G' := by
  obtain ⟨c, A, s, r⟩ := F
  exact ⟨c, A, s, fun i hi => by rw [← q i hi]; exact r i hi⟩
theorem own_A_plain (F : own_A Z h a ty n G) : ∀ c : Cell, h[a]? = some c → c.vm.isStatics = false := fun c hc => by
  obtain ⟨cl, A, -⟩ := F
  cases hc.symm.trans A.1
  exact A.plain
theorem own_E_plain {C : String} (F : Exa Z h a C) : ∀ c : Cell, h[a]? = some c → c.vm.isStatics = false := fun c hc => by
  obtain ⟨cl, k, h1, -, -, h4, -⟩ := F
  cases hc.symm.trans h1
  exact h4
theorem own_sta_keep {C f d : String} {v : Value} {ws : List Addr} (F : Sta Z h C f d v) (K : Keep h h' ws) (q : ∀ x ∈ ws, ∀ c : Cell, h[x]? = some c → c.vm.isStatics = false) : Sta Z h' C f d v := by
  obtain ⟨cf, i, k, f, st, cell, h1, h2, h3, h4, h5, h6, h7⟩ := F
  exact ⟨cf, i, k, f, st, cell, h1, h2, h3, h4, K.2.1 st cell h5 (fun z => by rw [q st z cell h5] at h6; cases h6), h6, h7⟩
end OwnA
end Jvm.RoadKit
namespace Jvm.RoadKit
open Sem ClassFile Op Lib Jvm.Stand Jvm.Free Jvm.LawKit
section OwnStart
variable {Z s : State} {args : Array Value} {t : Term} {a : Addr}
theorem own_eqi {t : Term} {n : Int32} {args : Array Value} {s : State} (h : (Cond.eq t (.int n)).value args s none s [] = some true) : t.eval args s none [] s = some (.int n) := Jvm.Free.NT.SwA.eq_int (Cond.before_iff.mpr h)
theorem own_eqr {t u : Term} {x : Addr} {args : Array Value} {s : State} (hu : u.eval args s none [] s = some (.ref x)) (h : (Cond.eq t u).value args s none s [] = some true) : t.eval args s none [] s = some (.ref x) := by
  simp only [Cond.value, hu] at h
  cases ht : t.eval args s none [] s with
  | none => simp [ht] at h
  | some v => cases v <;> simp_all
def own_HL (args : Array Value) (s : State) (t : Term) : Nat → List Int32 → Prop
  | _, [] => True
  | k, v :: vs => (Term.elem t (.int (Int32.ofNat k))).eval args s none [] s = some (.int v) ∧ own_HL args s t (k + 1) vs
theorem own_HL_at : ∀ (vs : List Int32) (k : Nat), own_HL args s t k vs → ∀ i, i < vs.length → (Term.elem t (.int (Int32.ofNat (k + i)))).eval args s none [] s = some (.int (vs.getD i 0))
  | [], _, _, i, hi => absurd hi (Nat.not_lt_zero i)
  | v :: vs, k, h, i, hi => by
    cases i with
    | zero => exact h.1
    | succ i =>
      have q := own_HL_at vs (k + 1) h.2 i (by simpa using hi)
      rw [show k + (i + 1) = k + 1 + i by omega]
      simpa using q
def own_HV (args : Array Value) (s : State) (t : Term) : Nat → List Value → Prop
  | _, [] => True
  | k, v :: vs => (Term.elem t (.int (Int32.ofNat k))).eval args s none [] s = some v ∧ own_HV args s t (k + 1) vs
theorem own_HV_at : ∀ (vs : List Value) (k : Nat), own_HV args s t k vs → ∀ i, i < vs.length → (Term.elem t (.int (Int32.ofNat (k + i)))).eval args s none [] s = some (vs.getD i .null)
  | [], _, _, i, hi => absurd hi (Nat.not_lt_zero i)
  | v :: vs, k, h, i, hi => by
    cases i with
    | zero => exact h.1
    | succ i =>
      have q := own_HV_at vs (k + 1) h.2 i (by simpa using hi)
      rw [show k + (i + 1) = k + 1 + i by omega]
      simpa using q
theorem own_arr {ty : FieldType} {n : Nat} {z : Int32} (ev : t.eval args s none [] s = some (.ref a)) (hx : (Cond.arrayOf t ty).value args s none s [] = some true) (hl : (Term.length t).eval args s none [] s = some (.int z)) (hz : z.toNatClampNeg = n ∧ ¬ z < 0) : ∃ cl, Arr s s.heap a cl ty ∧ s.arrayAt? a = some cl ∧ cl.slots.size = n ∧ cl.slots.size < 2 ^ 31 := by
  obtain ⟨cl, A⟩ := Arr.start ev hx
  have ha : s.arrayAt? a = some cl := A.fin (Vm.Alike.refl _)
  have hb : cl.slots.size < 2 ^ 31 := by
    by_cases hb : cl.slots.size < 2 ^ 31
    · exact hb
    · have hb' : ¬ cl.slots.size < 2147483648 := hb
      simp [Term.eval, ev, ha, hb'] at hl
  refine ⟨cl, A, ha, ?_, hb⟩
  rw [len_f ev ha hb] at hl
  have e : cl.slots.size.toInt32 = z := by simpa using hl
  have l := len_toInt hb
  rw [e] at l
  have n1 := nat_of hz.2
  omega
theorem own_AG_start {ty : FieldType} {n : Nat} {z : Int32} {G : Nat → Value} (hf : Fit s) (ev : t.eval args s none [] s = some (.ref a)) (hx : (Cond.arrayOf t ty).value args s none s [] = some true) (hl : (Term.length t).eval args s none [] s = some (.int z)) (hz : z.toNatClampNeg = n ∧ ¬ z < 0) (he : ∀ i, i < n → (Term.elem t (.int (Int32.ofNat i))).eval args s none [] s = some (G i)) : own_A s s.heap a ty n G := by
  obtain ⟨cl, A, ha, sz, hb⟩ := own_arr ev hx hl hz
  refine ⟨cl, A, sz, fun i hi => ?_⟩
  have q := elem_in (he i hi) ev rfl A.1
  have hi2 : i < 2 ^ 31 := by omega
  have ej : (Int32.ofNat i).toNatClampNeg = i := by
    have l := len_toInt hi2
    have n0 : ¬ (Int32.ofNat i) < 0 := fun w => q.1 (Or.inl w)
    have n1 := nat_of n0
    have l' : (Int32.ofNat i).toInt = (i : Int) := l
    omega
  obtain ⟨w, w1, w2⟩ := elem_fit hf A q.1
  rw [ej] at q w1
  refine ⟨q.2, ?_⟩
  cases w1.symm.trans q.2
  exact w2
theorem own_A_start {n : Nat} {z : Int32} {vs : List Int32} (hf : Fit s) (ev : t.eval args s none [] s = some (.ref a)) (hx : (Cond.arrayOf t .int).value args s none s [] = some true) (hl : (Term.length t).eval args s none [] s = some (.int z)) (hz : z.toNatClampNeg = n ∧ ¬ z < 0 ∧ vs.length = n) (he : own_HL args s t 0 vs) : own_A s s.heap a .int n (fun i => .int (vs.getD i 0)) :=
  own_AG_start hf ev hx hl ⟨hz.1, hz.2.1⟩ fun i hi => by
    have q := own_HL_at vs 0 he i (by rw [hz.2.2]; exact hi)
    rw [Nat.zero_add] at q
    exact q
theorem own_AR_start {ty : FieldType} {n : Nat} {z : Int32} {vs : List Value} (hf : Fit s) (ev : t.eval args s none [] s = some (.ref a)) (hx : (Cond.arrayOf t ty).value args s none s [] = some true) (hl : (Term.length t).eval args s none [] s = some (.int z)) (hz : z.toNatClampNeg = n ∧ ¬ z < 0 ∧ vs.length = n) (he : own_HV args s t 0 vs) : own_A s s.heap a ty n (fun i => vs.getD i .null) :=
  own_AG_start hf ev hx hl ⟨hz.1, hz.2.1⟩ fun i hi => by
    have q := own_HV_at vs 0 he i (by rw [hz.2.2]; exact hi)
    rw [Nat.zero_add] at q
    exact q
end OwnStart
end Jvm.RoadKit
namespace Jvm.Pilot.@@N@@
open Jvm Jvm.ClassFile Sem Op Lib Jvm.Free Jvm.Stand Jvm.LawKit Jvm.RoadKit Bundle Jvm.Pilot.@@N@@.Jvm.D
def own_l (en0 en1 en2 en3 en4 en5 en6 en7 en8 en9 en10 : Addr) (i : Nat) : Value := ([.ref en0, .ref en1, .ref en2, .ref en3, .ref en4, .ref en5, .ref en6, .ref en7, .ref en8, .ref en9, .ref en10] : List Value).getD i .null
def own_kn (i : Nat) : Int32 := ([403, 404, 429, 500, 502, 503, 504] : List Int32).getD i 0
theorem d1_0 : decode prog_62_method_7_code 0 = .ok (.getstatic 91, 3) := by decide +kernel
theorem d1_3 : decode prog_62_method_7_code 3 = .ok (.astore_n 1, 1) := by decide +kernel
theorem d1_4 : decode prog_62_method_7_code 4 = .ok (.aload_n 1, 1) := by decide +kernel
theorem d1_5 : decode prog_62_method_7_code 5 = .ok (.arraylength, 1) := by decide +kernel
theorem d1_6 : decode prog_62_method_7_code 6 = .ok (.istore_n 2, 1) := by decide +kernel
theorem d1_7 : decode prog_62_method_7_code 7 = .ok (.iconst 0, 1) := by decide +kernel
theorem d1_8 : decode prog_62_method_7_code 8 = .ok (.istore_n 3, 1) := by decide +kernel
theorem d1_9 : decode prog_62_method_7_code 9 = .ok (.iload_n 3, 1) := by decide +kernel
theorem d1_10 : decode prog_62_method_7_code 10 = .ok (.iload_n 2, 1) := by decide +kernel
theorem d1_11 : decode prog_62_method_7_code 11 = .ok (.if_icmp .ge 26, 3) := by decide +kernel
theorem d1_14 : decode prog_62_method_7_code 14 = .ok (.aload_n 1, 1) := by decide +kernel
theorem d1_15 : decode prog_62_method_7_code 15 = .ok (.iload_n 3, 1) := by decide +kernel
theorem d1_16 : decode prog_62_method_7_code 16 = .ok (.aaload, 1) := by decide +kernel
theorem d1_17 : decode prog_62_method_7_code 17 = .ok (.astore 4, 2) := by decide +kernel
theorem d1_19 : decode prog_62_method_7_code 19 = .ok (.aload 4, 2) := by decide +kernel
theorem d1_21 : decode prog_62_method_7_code 21 = .ok (.getfield 56, 3) := by decide +kernel
theorem d1_24 : decode prog_62_method_7_code 24 = .ok (.iload_n 0, 1) := by decide +kernel
theorem d1_25 : decode prog_62_method_7_code 25 = .ok (.if_icmp .ne 6, 3) := by decide +kernel
theorem d1_28 : decode prog_62_method_7_code 28 = .ok (.aload 4, 2) := by decide +kernel
theorem d1_30 : decode prog_62_method_7_code 30 = .ok (.areturn, 1) := by decide +kernel
theorem d1_31 : decode prog_62_method_7_code 31 = .ok (.iinc 3 1, 3) := by decide +kernel
theorem d1_34 : decode prog_62_method_7_code 34 = .ok (.goto (-25), 3) := by decide +kernel
theorem pn_1 : plainName "com/example/fanoutd/fanoutd/proxy/NextUpstream$Condition" = true := by first | (simp [plainName, overriddenIn]; done) | decide +kernel
theorem ef_1t403 (m : MethodId) (p0 : Int32) : entryFrame m #[(.int p0)] 5 = mkF m 0 #[.val (.int p0), .unset, .unset, .unset, .unset] [] := by first | (simp [entryFrame, mkF, argsToLocals, Value.category]; done) | rfl
def Q_1t403 (Z : State) (p0 : Int32) (en0 : Addr) (en1 : Addr) (en2 : Addr) (en3 : Addr) (en4 : Addr) (en5 : Addr) (en6 : Addr) (en7 : Addr) (en8 : Addr) (en9 : Addr) (en10 : Addr) (al : Addr) (h0 : Heap) (n0 : Nat) (v : Option Value) (h : Heap) (L : List Loc) : Prop := v = some (.ref en7) ∧ Fr n0 L ∧ h = h0
set_option maxRecDepth 65536 in
set_option maxHeartbeats 40000000 in
theorem rm_1t403 (l : Launch) (Z : State) (a0 : Array Value) (hw : ∀ d ∈ tables_1, d.before a0 Z = true) (ws : List Jvm.Cond) (p0 : Int32) (en0 : Addr) (en1 : Addr) (en2 : Addr) (en3 : Addr) (en4 : Addr) (en5 : Addr) (en6 : Addr) (en7 : Addr) (en8 : Addr) (en9 : Addr) (en10 : Addr) (al : Addr) (h0 : Heap) (n0 : Nat) (Z0 : n0 ≤ h0.size) (S_ERROR : Sta Z h0 "com/example/fanoutd/fanoutd/proxy/NextUpstream$Condition" "ERROR" "Lcom/example/fanoutd/fanoutd/proxy/NextUpstream$Condition;" (.ref en0)) (S_TIMEOUT : Sta Z h0 "com/example/fanoutd/fanoutd/proxy/NextUpstream$Condition" "TIMEOUT" "Lcom/example/fanoutd/fanoutd/proxy/NextUpstream$Condition;" (.ref en1)) (S_INVALID_HEADER : Sta Z h0 "com/example/fanoutd/fanoutd/proxy/NextUpstream$Condition" "INVALID_HEADER" "Lcom/example/fanoutd/fanoutd/proxy/NextUpstream$Condition;" (.ref en2)) (S_HTTP_500 : Sta Z h0 "com/example/fanoutd/fanoutd/proxy/NextUpstream$Condition" "HTTP_500" "Lcom/example/fanoutd/fanoutd/proxy/NextUpstream$Condition;" (.ref en3)) (S_HTTP_502 : Sta Z h0 "com/example/fanoutd/fanoutd/proxy/NextUpstream$Condition" "HTTP_502" "Lcom/example/fanoutd/fanoutd/proxy/NextUpstream$Condition;" (.ref en4)) (S_HTTP_503 : Sta Z h0 "com/example/fanoutd/fanoutd/proxy/NextUpstream$Condition" "HTTP_503" "Lcom/example/fanoutd/fanoutd/proxy/NextUpstream$Condition;" (.ref en5)) (S_HTTP_504 : Sta Z h0 "com/example/fanoutd/fanoutd/proxy/NextUpstream$Condition" "HTTP_504" "Lcom/example/fanoutd/fanoutd/proxy/NextUpstream$Condition;" (.ref en6)) (S_HTTP_403 : Sta Z h0 "com/example/fanoutd/fanoutd/proxy/NextUpstream$Condition" "HTTP_403" "Lcom/example/fanoutd/fanoutd/proxy/NextUpstream$Condition;" (.ref en7)) (S_HTTP_404 : Sta Z h0 "com/example/fanoutd/fanoutd/proxy/NextUpstream$Condition" "HTTP_404" "Lcom/example/fanoutd/fanoutd/proxy/NextUpstream$Condition;" (.ref en8)) (S_HTTP_429 : Sta Z h0 "com/example/fanoutd/fanoutd/proxy/NextUpstream$Condition" "HTTP_429" "Lcom/example/fanoutd/fanoutd/proxy/NextUpstream$Condition;" (.ref en9)) (S_NON_IDEMPOTENT : Sta Z h0 "com/example/fanoutd/fanoutd/proxy/NextUpstream$Condition" "NON_IDEMPOTENT" "Lcom/example/fanoutd/fanoutd/proxy/NextUpstream$Condition;" (.ref en10)) (S_ALL : Sta Z h0 "com/example/fanoutd/fanoutd/proxy/NextUpstream$Condition" "ALL" "[Lcom/example/fanoutd/fanoutd/proxy/NextUpstream$Condition;" (.ref al)) (A_al : own_A Z h0 al (.object "com/example/fanoutd/fanoutd/proxy/NextUpstream$Condition") 11 (fun i => (own_l en0 en1 en2 en3 en4 en5 en6 en7 en8 en9 en10) i)) (F_en0_status : Fld Z h0 en0 "com/example/fanoutd/fanoutd/proxy/NextUpstream$Condition" "status" "I" (.int (0 : Int32))) (F_en1_status : Fld Z h0 en1 "com/example/fanoutd/fanoutd/proxy/NextUpstream$Condition" "status" "I" (.int (0 : Int32))) (F_en2_status : Fld Z h0 en2 "com/example/fanoutd/fanoutd/proxy/NextUpstream$Condition" "status" "I" (.int (0 : Int32))) (F_en3_status : Fld Z h0 en3 "com/example/fanoutd/fanoutd/proxy/NextUpstream$Condition" "status" "I" (.int (500 : Int32))) (F_en4_status : Fld Z h0 en4 "com/example/fanoutd/fanoutd/proxy/NextUpstream$Condition" "status" "I" (.int (502 : Int32))) (F_en5_status : Fld Z h0 en5 "com/example/fanoutd/fanoutd/proxy/NextUpstream$Condition" "status" "I" (.int (503 : Int32))) (F_en6_status : Fld Z h0 en6 "com/example/fanoutd/fanoutd/proxy/NextUpstream$Condition" "status" "I" (.int (504 : Int32))) (F_en7_status : Fld Z h0 en7 "com/example/fanoutd/fanoutd/proxy/NextUpstream$Condition" "status" "I" (.int (403 : Int32))) (F_en8_status : Fld Z h0 en8 "com/example/fanoutd/fanoutd/proxy/NextUpstream$Condition" "status" "I" (.int (404 : Int32))) (F_en9_status : Fld Z h0 en9 "com/example/fanoutd/fanoutd/proxy/NextUpstream$Condition" "status" "I" (.int (429 : Int32))) (F_en10_status : Fld Z h0 en10 "com/example/fanoutd/fanoutd/proxy/NextUpstream$Condition" "status" "I" (.int (0 : Int32))) (hs : p0 = (403 : Int32)) :
    MetFree l (⟨"com/example/fanoutd/fanoutd/proxy/NextUpstream$Condition", "ofStatus", "(I)Lcom/example/fanoutd/fanoutd/proxy/NextUpstream$Condition;"⟩ : MethodName) (head1 (Jvm.Cond.code (⟨"com/example/fanoutd/fanoutd/proxy/NextUpstream$Condition", "ofStatus", "(I)Lcom/example/fanoutd/fanoutd/proxy/NextUpstream$Condition;"⟩ : MethodName) prog_62_method_7_code 5 (some (.object "com/example/fanoutd/fanoutd/proxy/NextUpstream$Condition")) :: ws) ({ frames := 0, cells := 0, slots := 0, locals := 0 } : Room)) (fun a U => a = #[(.int p0)] ∧ Z.Warmed39 U.vm ∧ U.heap = h0) (fun _ _ _ _ _ => True) (fun _ U o U' => ∃ v L, o = .returned v ∧ Q_1t403 Z p0 en0 en1 en2 en3 en4 en5 en6 en7 en8 en9 en10 al h0 n0 v U'.heap L ∧ FrameEnd U o U' L ({ frames := 0, cells := 0, slots := 0, locals := 0 } : Room).cells ({ frames := 0, cells := 0, slots := 0, locals := 0 } : Room).slots) := by
  refine MetFree.of_bodySF (plainFor_of_name pn_1) hisR ?_
  intro p e s m args below meth c s₁ Bd hml0 hP hK
  obtain ⟨rfl, hZ, hh⟩ := hP
  have hx := Bd.exec
  have hby := Bd.bytes
  have hml : c.maxLocals = 5 := hml0
  have hown : s.vm.findClass "com/example/fanoutd/fanoutd/proxy/NextUpstream$Condition" = some m.cls := findClass_of_methodNamed Bd.named
  have hnm := (name_of_methodNamed Bd.named Bd.method).1
  have X0 : Stand p l e ({ frames := 0, cells := 0, slots := 0, locals := 0 } : Room) s m #[(.int p0)] below meth c s₁ [] 0 0 := Stand.of_body Bd
  have e0 : s₁.heap = h0 := by rw [← hh, Bd.state]; rfl
  have N0 := Fr.nil n0
  have K0 : Keep h0 h0 [] := Keep.refl h0 _
  have pre0 : ∀ t, Steps p.tables e below (s₁.setTop (mkF m 0 #[.val (.int p0), .unset, .unset, .unset, .unset] [])) t → Steps p.tables e below (s₁.setTop (entryFrame m #[(.int p0)] 5)) t := fun t k => castTop (ef_1t403 m p0) k
  obtain ⟨T1, X1, e1, st1⟩ := getS2 X0 hx hZ hown (host := "") (Or.inl (hw _ (List.mem_of_getElem? (i := 5) rfl))) Via.refl e0 S_ALL (g := (mkF m 0 #[.val (.int p0), .unset, .unset, .unset, .unset] [])) rfl (hb hby d1_0)
  have pre2 : ∀ t, Steps p.tables e below (T1.setTop (mkF m 21 #[.val (.int p0), .val (.ref al), .val (.int (11 : Int32)), .val (.int (0 : Int32)), .val (.ref en0)] [(.ref en0)])) t → Steps p.tables e below (s₁.setTop (entryFrame m #[(.int p0)] 5)) t := by
    intro t k
    refine pre0 t ?_
    show Steps p.tables e below (s₁.setTop (mkF m 0 #[.val (.int p0), .unset, .unset, .unset, .unset] [])) _
    refine st1 _ ?_
    show Steps p.tables e below (T1.setTop (mkF m 3 #[.val (.int p0), .unset, .unset, .unset, .unset] [(.ref al)])) _
    refine XS.astoreN X1.here hx rfl (hb hby d1_3) rfl rfl (l' := #[.val (.int p0), .val (.ref al), .unset, .unset, .unset]) rfl ?_
    show Steps p.tables e below (T1.setTop (mkF m 4 #[.val (.int p0), .val (.ref al), .unset, .unset, .unset] [])) _
    refine XS.aloadN X1.here hx rfl (hb hby d1_4) rfl rfl ?_
    show Steps p.tables e below (T1.setTop (mkF m 5 #[.val (.int p0), .val (.ref al), .unset, .unset, .unset] [(.ref al)])) _
    refine own_len X1 hx hZ e1 A_al (z := (11 : Int32)) rfl (g := (mkF m 5 #[.val (.int p0), .val (.ref al), .unset, .unset, .unset] [(.ref al)])) rfl rfl (hb hby d1_5) ?_
    show Steps p.tables e below (T1.setTop (mkF m 6 #[.val (.int p0), .val (.ref al), .unset, .unset, .unset] [(.int (11 : Int32))])) _
    refine XS.istoreN X1.here hx rfl (hb hby d1_6) rfl (l' := #[.val (.int p0), .val (.ref al), .val (.int (11 : Int32)), .unset, .unset]) rfl ?_
    show Steps p.tables e below (T1.setTop (mkF m 7 #[.val (.int p0), .val (.ref al), .val (.int (11 : Int32)), .unset, .unset] [])) _
    refine XS.iconst X1.here hx rfl (hb hby d1_7) ?_
    show Steps p.tables e below (T1.setTop (mkF m 8 #[.val (.int p0), .val (.ref al), .val (.int (11 : Int32)), .unset, .unset] [(.int (0 : Int32))])) _
    refine XS.istoreN X1.here hx rfl (hb hby d1_8) rfl (l' := #[.val (.int p0), .val (.ref al), .val (.int (11 : Int32)), .val (.int (0 : Int32)), .unset]) rfl ?_
    show Steps p.tables e below (T1.setTop (mkF m 9 #[.val (.int p0), .val (.ref al), .val (.int (11 : Int32)), .val (.int (0 : Int32)), .unset] [])) _
    refine XS.iloadN X1.here hx rfl (hb hby d1_9) rfl  ?_
    show Steps p.tables e below (T1.setTop (mkF m 10 #[.val (.int p0), .val (.ref al), .val (.int (11 : Int32)), .val (.int (0 : Int32)), .unset] [(.int (0 : Int32))])) _
    refine XS.iloadN X1.here hx rfl (hb hby d1_10) rfl  ?_
    show Steps p.tables e below (T1.setTop (mkF m 11 #[.val (.int p0), .val (.ref al), .val (.int (11 : Int32)), .val (.int (0 : Int32)), .unset] [(.int (11 : Int32)), (.int (0 : Int32))])) _
    refine XS.icmpNo X1.here hx rfl (hb hby d1_11) rfl (tlt (by decide : (0 : Int32) < (11 : Int32))).2.1 ?_
    show Steps p.tables e below (T1.setTop (mkF m 14 #[.val (.int p0), .val (.ref al), .val (.int (11 : Int32)), .val (.int (0 : Int32)), .unset] [])) _
    refine XS.aloadN X1.here hx rfl (hb hby d1_14) rfl rfl ?_
    show Steps p.tables e below (T1.setTop (mkF m 15 #[.val (.int p0), .val (.ref al), .val (.int (11 : Int32)), .val (.int (0 : Int32)), .unset] [(.ref al)])) _
    refine XS.iloadN X1.here hx rfl (hb hby d1_15) rfl  ?_
    show Steps p.tables e below (T1.setTop (mkF m 16 #[.val (.int p0), .val (.ref al), .val (.int (11 : Int32)), .val (.int (0 : Int32)), .unset] [(.int (0 : Int32)), (.ref al)])) _
    refine own_ldR X1 hx hZ e1 A_al rfl (j := (0 : Int32)) (k := 0) (v := .ref en0) rfl (by decide) (by decide) (by decide) (g := (mkF m 16 #[.val (.int p0), .val (.ref al), .val (.int (11 : Int32)), .val (.int (0 : Int32)), .unset] [(.int (0 : Int32)), (.ref al)])) rfl rfl (hb hby d1_16) ?_
    show Steps p.tables e below (T1.setTop (mkF m 17 #[.val (.int p0), .val (.ref al), .val (.int (11 : Int32)), .val (.int (0 : Int32)), .unset] [(.ref en0)])) _
    refine XS.astore X1.here hx rfl (hb hby d1_17) rfl rfl (l' := #[.val (.int p0), .val (.ref al), .val (.int (11 : Int32)), .val (.int (0 : Int32)), .val (.ref en0)]) rfl ?_
    show Steps p.tables e below (T1.setTop (mkF m 19 #[.val (.int p0), .val (.ref al), .val (.int (11 : Int32)), .val (.int (0 : Int32)), .val (.ref en0)] [])) _
    refine XS.aload X1.here hx rfl (hb hby d1_19) rfl rfl ?_
    exact k
  obtain ⟨T3, X3, e3, st3⟩ := getF X1 hx hZ hown (host := "") (Or.inl (hw _ (List.mem_of_getElem? (i := 8) rfl))) Via.refl e1 F_en0_status (g := (mkF m 21 #[.val (.int p0), .val (.ref al), .val (.int (11 : Int32)), .val (.int (0 : Int32)), .val (.ref en0)] [(.ref en0)])) rfl rfl (hb hby d1_21)
  have pre4 : ∀ t, Steps p.tables e below (T3.setTop (mkF m 21 #[.val (.int p0), .val (.ref al), .val (.int (11 : Int32)), .val (.int (1 : Int32)), .val (.ref en1)] [(.ref en1)])) t → Steps p.tables e below (s₁.setTop (entryFrame m #[(.int p0)] 5)) t := by
    intro t k
    refine pre2 t ?_
    show Steps p.tables e below (T1.setTop (mkF m 21 #[.val (.int p0), .val (.ref al), .val (.int (11 : Int32)), .val (.int (0 : Int32)), .val (.ref en0)] [(.ref en0)])) _
    refine st3 _ ?_
    show Steps p.tables e below (T3.setTop (mkF m 24 #[.val (.int p0), .val (.ref al), .val (.int (11 : Int32)), .val (.int (0 : Int32)), .val (.ref en0)] [(.int (0 : Int32))])) _
    refine XS.iloadN X3.here hx rfl (hb hby d1_24) rfl  ?_
    show Steps p.tables e below (T3.setTop (mkF m 25 #[.val (.int p0), .val (.ref al), .val (.int (11 : Int32)), .val (.int (0 : Int32)), .val (.ref en0)] [(.int p0), (.int (0 : Int32))])) _
    refine XS.icmpYes X3.here hx rfl (pc0 := 25) (pc' := 31) rfl (hb hby d1_25) rfl (feq ((by rw [hs]; first | done | decide) : ¬ ((0 : Int32) = p0))).2 (by decide) (by decide) ?_
    show Steps p.tables e below (T3.setTop (mkF m 31 #[.val (.int p0), .val (.ref al), .val (.int (11 : Int32)), .val (.int (0 : Int32)), .val (.ref en0)] [])) _
    refine XS.iinc X3.here hx rfl (hb hby d1_31) rfl (l' := #[.val (.int p0), .val (.ref al), .val (.int (11 : Int32)), .val (.int (1 : Int32)), .val (.ref en0)]) rfl ?_
    show Steps p.tables e below (T3.setTop (mkF m 34 #[.val (.int p0), .val (.ref al), .val (.int (11 : Int32)), .val (.int (1 : Int32)), .val (.ref en0)] [])) _
    refine XS.goto X3.here hx rfl (pc0 := 34) (pc' := 9) rfl (hb hby d1_34) (by decide) (by decide) ?_
    show Steps p.tables e below (T3.setTop (mkF m 9 #[.val (.int p0), .val (.ref al), .val (.int (11 : Int32)), .val (.int (1 : Int32)), .val (.ref en0)] [])) _
    refine XS.iloadN X3.here hx rfl (hb hby d1_9) rfl  ?_
    show Steps p.tables e below (T3.setTop (mkF m 10 #[.val (.int p0), .val (.ref al), .val (.int (11 : Int32)), .val (.int (1 : Int32)), .val (.ref en0)] [(.int (1 : Int32))])) _
    refine XS.iloadN X3.here hx rfl (hb hby d1_10) rfl  ?_
    show Steps p.tables e below (T3.setTop (mkF m 11 #[.val (.int p0), .val (.ref al), .val (.int (11 : Int32)), .val (.int (1 : Int32)), .val (.ref en0)] [(.int (11 : Int32)), (.int (1 : Int32))])) _
    refine XS.icmpNo X3.here hx rfl (hb hby d1_11) rfl (tlt (by decide : (1 : Int32) < (11 : Int32))).2.1 ?_
    show Steps p.tables e below (T3.setTop (mkF m 14 #[.val (.int p0), .val (.ref al), .val (.int (11 : Int32)), .val (.int (1 : Int32)), .val (.ref en0)] [])) _
    refine XS.aloadN X3.here hx rfl (hb hby d1_14) rfl rfl ?_
    show Steps p.tables e below (T3.setTop (mkF m 15 #[.val (.int p0), .val (.ref al), .val (.int (11 : Int32)), .val (.int (1 : Int32)), .val (.ref en0)] [(.ref al)])) _
    refine XS.iloadN X3.here hx rfl (hb hby d1_15) rfl  ?_
    show Steps p.tables e below (T3.setTop (mkF m 16 #[.val (.int p0), .val (.ref al), .val (.int (11 : Int32)), .val (.int (1 : Int32)), .val (.ref en0)] [(.int (1 : Int32)), (.ref al)])) _
    refine own_ldR X3 hx hZ e3 A_al rfl (j := (1 : Int32)) (k := 1) (v := .ref en1) rfl (by decide) (by decide) (by decide) (g := (mkF m 16 #[.val (.int p0), .val (.ref al), .val (.int (11 : Int32)), .val (.int (1 : Int32)), .val (.ref en0)] [(.int (1 : Int32)), (.ref al)])) rfl rfl (hb hby d1_16) ?_
    show Steps p.tables e below (T3.setTop (mkF m 17 #[.val (.int p0), .val (.ref al), .val (.int (11 : Int32)), .val (.int (1 : Int32)), .val (.ref en0)] [(.ref en1)])) _
    refine XS.astore X3.here hx rfl (hb hby d1_17) rfl rfl (l' := #[.val (.int p0), .val (.ref al), .val (.int (11 : Int32)), .val (.int (1 : Int32)), .val (.ref en1)]) rfl ?_
    show Steps p.tables e below (T3.setTop (mkF m 19 #[.val (.int p0), .val (.ref al), .val (.int (11 : Int32)), .val (.int (1 : Int32)), .val (.ref en1)] [])) _
    refine XS.aload X3.here hx rfl (hb hby d1_19) rfl rfl ?_
    exact k
  obtain ⟨T5, X5, e5, st5⟩ := getF X3 hx hZ hown (host := "") (Or.inl (hw _ (List.mem_of_getElem? (i := 8) rfl))) Via.refl e3 F_en1_status (g := (mkF m 21 #[.val (.int p0), .val (.ref al), .val (.int (11 : Int32)), .val (.int (1 : Int32)), .val (.ref en1)] [(.ref en1)])) rfl rfl (hb hby d1_21)
  have pre6 : ∀ t, Steps p.tables e below (T5.setTop (mkF m 21 #[.val (.int p0), .val (.ref al), .val (.int (11 : Int32)), .val (.int (2 : Int32)), .val (.ref en2)] [(.ref en2)])) t → Steps p.tables e below (s₁.setTop (entryFrame m #[(.int p0)] 5)) t := by
    intro t k
    refine pre4 t ?_
    show Steps p.tables e below (T3.setTop (mkF m 21 #[.val (.int p0), .val (.ref al), .val (.int (11 : Int32)), .val (.int (1 : Int32)), .val (.ref en1)] [(.ref en1)])) _
    refine st5 _ ?_
    show Steps p.tables e below (T5.setTop (mkF m 24 #[.val (.int p0), .val (.ref al), .val (.int (11 : Int32)), .val (.int (1 : Int32)), .val (.ref en1)] [(.int (0 : Int32))])) _
    refine XS.iloadN X5.here hx rfl (hb hby d1_24) rfl  ?_
    show Steps p.tables e below (T5.setTop (mkF m 25 #[.val (.int p0), .val (.ref al), .val (.int (11 : Int32)), .val (.int (1 : Int32)), .val (.ref en1)] [(.int p0), (.int (0 : Int32))])) _
    refine XS.icmpYes X5.here hx rfl (pc0 := 25) (pc' := 31) rfl (hb hby d1_25) rfl (feq ((by rw [hs]; first | done | decide) : ¬ ((0 : Int32) = p0))).2 (by decide) (by decide) ?_
    show Steps p.tables e below (T5.setTop (mkF m 31 #[.val (.int p0), .val (.ref al), .val (.int (11 : Int32)), .val (.int (1 : Int32)), .val (.ref en1)] [])) _
    refine XS.iinc X5.here hx rfl (hb hby d1_31) rfl (l' := #[.val (.int p0), .val (.ref al), .val (.int (11 : Int32)), .val (.int (2 : Int32)), .val (.ref en1)]) rfl ?_
    show Steps p.tables e below (T5.setTop (mkF m 34 #[.val (.int p0), .val (.ref al), .val (.int (11 : Int32)), .val (.int (2 : Int32)), .val (.ref en1)] [])) _
    refine XS.goto X5.here hx rfl (pc0 := 34) (pc' := 9) rfl (hb hby d1_34) (by decide) (by decide) ?_
    show Steps p.tables e below (T5.setTop (mkF m 9 #[.val (.int p0), .val (.ref al), .val (.int (11 : Int32)), .val (.int (2 : Int32)), .val (.ref en1)] [])) _
    refine XS.iloadN X5.here hx rfl (hb hby d1_9) rfl  ?_
    show Steps p.tables e below (T5.setTop (mkF m 10 #[.val (.int p0), .val (.ref al), .val (.int (11 : Int32)), .val (.int (2 : Int32)), .val (.ref en1)] [(.int (2 : Int32))])) _
    refine XS.iloadN X5.here hx rfl (hb hby d1_10) rfl  ?_
    show Steps p.tables e below (T5.setTop (mkF m 11 #[.val (.int p0), .val (.ref al), .val (.int (11 : Int32)), .val (.int (2 : Int32)), .val (.ref en1)] [(.int (11 : Int32)), (.int (2 : Int32))])) _
    refine XS.icmpNo X5.here hx rfl (hb hby d1_11) rfl (tlt (by decide : (2 : Int32) < (11 : Int32))).2.1 ?_
    show Steps p.tables e below (T5.setTop (mkF m 14 #[.val (.int p0), .val (.ref al), .val (.int (11 : Int32)), .val (.int (2 : Int32)), .val (.ref en1)] [])) _
    refine XS.aloadN X5.here hx rfl (hb hby d1_14) rfl rfl ?_
    show Steps p.tables e below (T5.setTop (mkF m 15 #[.val (.int p0), .val (.ref al), .val (.int (11 : Int32)), .val (.int (2 : Int32)), .val (.ref en1)] [(.ref al)])) _
    refine XS.iloadN X5.here hx rfl (hb hby d1_15) rfl  ?_
    show Steps p.tables e below (T5.setTop (mkF m 16 #[.val (.int p0), .val (.ref al), .val (.int (11 : Int32)), .val (.int (2 : Int32)), .val (.ref en1)] [(.int (2 : Int32)), (.ref al)])) _
    refine own_ldR X5 hx hZ e5 A_al rfl (j := (2 : Int32)) (k := 2) (v := .ref en2) rfl (by decide) (by decide) (by decide) (g := (mkF m 16 #[.val (.int p0), .val (.ref al), .val (.int (11 : Int32)), .val (.int (2 : Int32)), .val (.ref en1)] [(.int (2 : Int32)), (.ref al)])) rfl rfl (hb hby d1_16) ?_
    show Steps p.tables e below (T5.setTop (mkF m 17 #[.val (.int p0), .val (.ref al), .val (.int (11 : Int32)), .val (.int (2 : Int32)), .val (.ref en1)] [(.ref en2)])) _
    refine XS.astore X5.here hx rfl (hb hby d1_17) rfl rfl (l' := #[.val (.int p0), .val (.ref al), .val (.int (11 : Int32)), .val (.int (2 : Int32)), .val (.ref en2)]) rfl ?_
    show Steps p.tables e below (T5.setTop (mkF m 19 #[.val (.int p0), .val (.ref al), .val (.int (11 : Int32)), .val (.int (2 : Int32)), .val (.ref en2)] [])) _
    refine XS.aload X5.here hx rfl (hb hby d1_19) rfl rfl ?_
    exact k
  obtain ⟨T7, X7, e7, st7⟩ := getF X5 hx hZ hown (host := "") (Or.inl (hw _ (List.mem_of_getElem? (i := 8) rfl))) Via.refl e5 F_en2_status (g := (mkF m 21 #[.val (.int p0), .val (.ref al), .val (.int (11 : Int32)), .val (.int (2 : Int32)), .val (.ref en2)] [(.ref en2)])) rfl rfl (hb hby d1_21)
  have pre8 : ∀ t, Steps p.tables e below (T7.setTop (mkF m 21 #[.val (.int p0), .val (.ref al), .val (.int (11 : Int32)), .val (.int (3 : Int32)), .val (.ref en3)] [(.ref en3)])) t → Steps p.tables e below (s₁.setTop (entryFrame m #[(.int p0)] 5)) t := by
    intro t k
    refine pre6 t ?_
    show Steps p.tables e below (T5.setTop (mkF m 21 #[.val (.int p0), .val (.ref al), .val (.int (11 : Int32)), .val (.int (2 : Int32)), .val (.ref en2)] [(.ref en2)])) _
    refine st7 _ ?_
    show Steps p.tables e below (T7.setTop (mkF m 24 #[.val (.int p0), .val (.ref al), .val (.int (11 : Int32)), .val (.int (2 : Int32)), .val (.ref en2)] [(.int (0 : Int32))])) _
    refine XS.iloadN X7.here hx rfl (hb hby d1_24) rfl  ?_
    show Steps p.tables e below (T7.setTop (mkF m 25 #[.val (.int p0), .val (.ref al), .val (.int (11 : Int32)), .val (.int (2 : Int32)), .val (.ref en2)] [(.int p0), (.int (0 : Int32))])) _
    refine XS.icmpYes X7.here hx rfl (pc0 := 25) (pc' := 31) rfl (hb hby d1_25) rfl (feq ((by rw [hs]; first | done | decide) : ¬ ((0 : Int32) = p0))).2 (by decide) (by decide) ?_
    show Steps p.tables e below (T7.setTop (mkF m 31 #[.val (.int p0), .val (.ref al), .val (.int (11 : Int32)), .val (.int (2 : Int32)), .val (.ref en2)] [])) _
    refine XS.iinc X7.here hx rfl (hb hby d1_31) rfl (l' := #[.val (.int p0), .val (.ref al), .val (.int (11 : Int32)), .val (.int (3 : Int32)), .val (.ref en2)]) rfl ?_
    show Steps p.tables e below (T7.setTop (mkF m 34 #[.val (.int p0), .val (.ref al), .val (.int (11 : Int32)), .val (.int (3 : Int32)), .val (.ref en2)] [])) _
    refine XS.goto X7.here hx rfl (pc0 := 34) (pc' := 9) rfl (hb hby d1_34) (by decide) (by decide) ?_
    show Steps p.tables e below (T7.setTop (mkF m 9 #[.val (.int p0), .val (.ref al), .val (.int (11 : Int32)), .val (.int (3 : Int32)), .val (.ref en2)] [])) _
    refine XS.iloadN X7.here hx rfl (hb hby d1_9) rfl  ?_
    show Steps p.tables e below (T7.setTop (mkF m 10 #[.val (.int p0), .val (.ref al), .val (.int (11 : Int32)), .val (.int (3 : Int32)), .val (.ref en2)] [(.int (3 : Int32))])) _
    refine XS.iloadN X7.here hx rfl (hb hby d1_10) rfl  ?_
    show Steps p.tables e below (T7.setTop (mkF m 11 #[.val (.int p0), .val (.ref al), .val (.int (11 : Int32)), .val (.int (3 : Int32)), .val (.ref en2)] [(.int (11 : Int32)), (.int (3 : Int32))])) _
    refine XS.icmpNo X7.here hx rfl (hb hby d1_11) rfl (tlt (by decide : (3 : Int32) < (11 : Int32))).2.1 ?_
    show Steps p.tables e below (T7.setTop (mkF m 14 #[.val (.int p0), .val (.ref al), .val (.int (11 : Int32)), .val (.int (3 : Int32)), .val (.ref en2)] [])) _
    refine XS.aloadN X7.here hx rfl (hb hby d1_14) rfl rfl ?_
    show Steps p.tables e below (T7.setTop (mkF m 15 #[.val (.int p0), .val (.ref al), .val (.int (11 : Int32)), .val (.int (3 : Int32)), .val (.ref en2)] [(.ref al)])) _
    refine XS.iloadN X7.here hx rfl (hb hby d1_15) rfl  ?_
    show Steps p.tables e below (T7.setTop (mkF m 16 #[.val (.int p0), .val (.ref al), .val (.int (11 : Int32)), .val (.int (3 : Int32)), .val (.ref en2)] [(.int (3 : Int32)), (.ref al)])) _
    refine own_ldR X7 hx hZ e7 A_al rfl (j := (3 : Int32)) (k := 3) (v := .ref en3) rfl (by decide) (by decide) (by decide) (g := (mkF m 16 #[.val (.int p0), .val (.ref al), .val (.int (11 : Int32)), .val (.int (3 : Int32)), .val (.ref en2)] [(.int (3 : Int32)), (.ref al)])) rfl rfl (hb hby d1_16) ?_
    show Steps p.tables e below (T7.setTop (mkF m 17 #[.val (.int p0), .val (.ref al), .val (.int (11 : Int32)), .val (.int (3 : Int32)), .val (.ref en2)] [(.ref en3)])) _
    refine XS.astore X7.here hx rfl (hb hby d1_17) rfl rfl (l' := #[.val (.int p0), .val (.ref al), .val (.int (11 : Int32)), .val (.int (3 : Int32)), .val (.ref en3)]) rfl ?_
    show Steps p.tables e below (T7.setTop (mkF m 19 #[.val (.int p0), .val (.ref al), .val (.int (11 : Int32)), .val (.int (3 : Int32)), .val (.ref en3)] [])) _
    refine XS.aload X7.here hx rfl (hb hby d1_19) rfl rfl ?_
    exact k
  obtain ⟨T9, X9, e9, st9⟩ := getF X7 hx hZ hown (host := "") (Or.inl (hw _ (List.mem_of_getElem? (i := 8) rfl))) Via.refl e7 F_en3_status (g := (mkF m 21 #[.val (.int p0), .val (.ref al), .val (.int (11 : Int32)), .val (.int (3 : Int32)), .val (.ref en3)] [(.ref en3)])) rfl rfl (hb hby d1_21)
  have pre10 : ∀ t, Steps p.tables e below (T9.setTop (mkF m 21 #[.val (.int p0), .val (.ref al), .val (.int (11 : Int32)), .val (.int (4 : Int32)), .val (.ref en4)] [(.ref en4)])) t → Steps p.tables e below (s₁.setTop (entryFrame m #[(.int p0)] 5)) t := by
    intro t k
    refine pre8 t ?_
    show Steps p.tables e below (T7.setTop (mkF m 21 #[.val (.int p0), .val (.ref al), .val (.int (11 : Int32)), .val (.int (3 : Int32)), .val (.ref en3)] [(.ref en3)])) _
    refine st9 _ ?_
    show Steps p.tables e below (T9.setTop (mkF m 24 #[.val (.int p0), .val (.ref al), .val (.int (11 : Int32)), .val (.int (3 : Int32)), .val (.ref en3)] [(.int (500 : Int32))])) _
    refine XS.iloadN X9.here hx rfl (hb hby d1_24) rfl  ?_
    show Steps p.tables e below (T9.setTop (mkF m 25 #[.val (.int p0), .val (.ref al), .val (.int (11 : Int32)), .val (.int (3 : Int32)), .val (.ref en3)] [(.int p0), (.int (500 : Int32))])) _
    refine XS.icmpYes X9.here hx rfl (pc0 := 25) (pc' := 31) rfl (hb hby d1_25) rfl (feq ((by rw [hs]; first | done | decide) : ¬ ((500 : Int32) = p0))).2 (by decide) (by decide) ?_
    show Steps p.tables e below (T9.setTop (mkF m 31 #[.val (.int p0), .val (.ref al), .val (.int (11 : Int32)), .val (.int (3 : Int32)), .val (.ref en3)] [])) _
    refine XS.iinc X9.here hx rfl (hb hby d1_31) rfl (l' := #[.val (.int p0), .val (.ref al), .val (.int (11 : Int32)), .val (.int (4 : Int32)), .val (.ref en3)]) rfl ?_
    show Steps p.tables e below (T9.setTop (mkF m 34 #[.val (.int p0), .val (.ref al), .val (.int (11 : Int32)), .val (.int (4 : Int32)), .val (.ref en3)] [])) _
    refine XS.goto X9.here hx rfl (pc0 := 34) (pc' := 9) rfl (hb hby d1_34) (by decide) (by decide) ?_
    show Steps p.tables e below (T9.setTop (mkF m 9 #[.val (.int p0), .val (.ref al), .val (.int (11 : Int32)), .val (.int (4 : Int32)), .val (.ref en3)] [])) _
    refine XS.iloadN X9.here hx rfl (hb hby d1_9) rfl  ?_
    show Steps p.tables e below (T9.setTop (mkF m 10 #[.val (.int p0), .val (.ref al), .val (.int (11 : Int32)), .val (.int (4 : Int32)), .val (.ref en3)] [(.int (4 : Int32))])) _
    refine XS.iloadN X9.here hx rfl (hb hby d1_10) rfl  ?_
    show Steps p.tables e below (T9.setTop (mkF m 11 #[.val (.int p0), .val (.ref al), .val (.int (11 : Int32)), .val (.int (4 : Int32)), .val (.ref en3)] [(.int (11 : Int32)), (.int (4 : Int32))])) _
    refine XS.icmpNo X9.here hx rfl (hb hby d1_11) rfl (tlt (by decide : (4 : Int32) < (11 : Int32))).2.1 ?_
    show Steps p.tables e below (T9.setTop (mkF m 14 #[.val (.int p0), .val (.ref al), .val (.int (11 : Int32)), .val (.int (4 : Int32)), .val (.ref en3)] [])) _
    refine XS.aloadN X9.here hx rfl (hb hby d1_14) rfl rfl ?_
    show Steps p.tables e below (T9.setTop (mkF m 15 #[.val (.int p0), .val (.ref al), .val (.int (11 : Int32)), .val (.int (4 : Int32)), .val (.ref en3)] [(.ref al)])) _
    refine XS.iloadN X9.here hx rfl (hb hby d1_15) rfl  ?_
    show Steps p.tables e below (T9.setTop (mkF m 16 #[.val (.int p0), .val (.ref al), .val (.int (11 : Int32)), .val (.int (4 : Int32)), .val (.ref en3)] [(.int (4 : Int32)), (.ref al)])) _
    refine own_ldR X9 hx hZ e9 A_al rfl (j := (4 : Int32)) (k := 4) (v := .ref en4) rfl (by decide) (by decide) (by decide) (g := (mkF m 16 #[.val (.int p0), .val (.ref al), .val (.int (11 : Int32)), .val (.int (4 : Int32)), .val (.ref en3)] [(.int (4 : Int32)), (.ref al)])) rfl rfl (hb hby d1_16) ?_
    show Steps p.tables e below (T9.setTop (mkF m 17 #[.val (.int p0), .val (.ref al), .val (.int (11 : Int32)), .val (.int (4 : Int32)), .val (.ref en3)] [(.ref en4)])) _
    refine XS.astore X9.here hx rfl (hb hby d1_17) rfl rfl (l' := #[.val (.int p0), .val (.ref al), .val (.int (11 : Int32)), .val (.int (4 : Int32)), .val (.ref en4)]) rfl ?_
    show Steps p.tables e below (T9.setTop (mkF m 19 #[.val (.int p0), .val (.ref al), .val (.int (11 : Int32)), .val (.int (4 : Int32)), .val (.ref en4)] [])) _
    refine XS.aload X9.here hx rfl (hb hby d1_19) rfl rfl ?_
    exact k
  obtain ⟨T11, X11, e11, st11⟩ := getF X9 hx hZ hown (host := "") (Or.inl (hw _ (List.mem_of_getElem? (i := 8) rfl))) Via.refl e9 F_en4_status (g := (mkF m 21 #[.val (.int p0), .val (.ref al), .val (.int (11 : Int32)), .val (.int (4 : Int32)), .val (.ref en4)] [(.ref en4)])) rfl rfl (hb hby d1_21)
  have pre12 : ∀ t, Steps p.tables e below (T11.setTop (mkF m 21 #[.val (.int p0), .val (.ref al), .val (.int (11 : Int32)), .val (.int (5 : Int32)), .val (.ref en5)] [(.ref en5)])) t → Steps p.tables e below (s₁.setTop (entryFrame m #[(.int p0)] 5)) t := by
    intro t k
    refine pre10 t ?_
    show Steps p.tables e below (T9.setTop (mkF m 21 #[.val (.int p0), .val (.ref al), .val (.int (11 : Int32)), .val (.int (4 : Int32)), .val (.ref en4)] [(.ref en4)])) _
    refine st11 _ ?_
    show Steps p.tables e below (T11.setTop (mkF m 24 #[.val (.int p0), .val (.ref al), .val (.int (11 : Int32)), .val (.int (4 : Int32)), .val (.ref en4)] [(.int (502 : Int32))])) _
    refine XS.iloadN X11.here hx rfl (hb hby d1_24) rfl  ?_
    show Steps p.tables e below (T11.setTop (mkF m 25 #[.val (.int p0), .val (.ref al), .val (.int (11 : Int32)), .val (.int (4 : Int32)), .val (.ref en4)] [(.int p0), (.int (502 : Int32))])) _
    refine XS.icmpYes X11.here hx rfl (pc0 := 25) (pc' := 31) rfl (hb hby d1_25) rfl (feq ((by rw [hs]; first | done | decide) : ¬ ((502 : Int32) = p0))).2 (by decide) (by decide) ?_
    show Steps p.tables e below (T11.setTop (mkF m 31 #[.val (.int p0), .val (.ref al), .val (.int (11 : Int32)), .val (.int (4 : Int32)), .val (.ref en4)] [])) _
    refine XS.iinc X11.here hx rfl (hb hby d1_31) rfl (l' := #[.val (.int p0), .val (.ref al), .val (.int (11 : Int32)), .val (.int (5 : Int32)), .val (.ref en4)]) rfl ?_
    show Steps p.tables e below (T11.setTop (mkF m 34 #[.val (.int p0), .val (.ref al), .val (.int (11 : Int32)), .val (.int (5 : Int32)), .val (.ref en4)] [])) _
    refine XS.goto X11.here hx rfl (pc0 := 34) (pc' := 9) rfl (hb hby d1_34) (by decide) (by decide) ?_
    show Steps p.tables e below (T11.setTop (mkF m 9 #[.val (.int p0), .val (.ref al), .val (.int (11 : Int32)), .val (.int (5 : Int32)), .val (.ref en4)] [])) _
    refine XS.iloadN X11.here hx rfl (hb hby d1_9) rfl  ?_
    show Steps p.tables e below (T11.setTop (mkF m 10 #[.val (.int p0), .val (.ref al), .val (.int (11 : Int32)), .val (.int (5 : Int32)), .val (.ref en4)] [(.int (5 : Int32))])) _
    refine XS.iloadN X11.here hx rfl (hb hby d1_10) rfl  ?_
    show Steps p.tables e below (T11.setTop (mkF m 11 #[.val (.int p0), .val (.ref al), .val (.int (11 : Int32)), .val (.int (5 : Int32)), .val (.ref en4)] [(.int (11 : Int32)), (.int (5 : Int32))])) _
    refine XS.icmpNo X11.here hx rfl (hb hby d1_11) rfl (tlt (by decide : (5 : Int32) < (11 : Int32))).2.1 ?_
    show Steps p.tables e below (T11.setTop (mkF m 14 #[.val (.int p0), .val (.ref al), .val (.int (11 : Int32)), .val (.int (5 : Int32)), .val (.ref en4)] [])) _
    refine XS.aloadN X11.here hx rfl (hb hby d1_14) rfl rfl ?_
    show Steps p.tables e below (T11.setTop (mkF m 15 #[.val (.int p0), .val (.ref al), .val (.int (11 : Int32)), .val (.int (5 : Int32)), .val (.ref en4)] [(.ref al)])) _
    refine XS.iloadN X11.here hx rfl (hb hby d1_15) rfl  ?_
    show Steps p.tables e below (T11.setTop (mkF m 16 #[.val (.int p0), .val (.ref al), .val (.int (11 : Int32)), .val (.int (5 : Int32)), .val (.ref en4)] [(.int (5 : Int32)), (.ref al)])) _
    refine own_ldR X11 hx hZ e11 A_al rfl (j := (5 : Int32)) (k := 5) (v := .ref en5) rfl (by decide) (by decide) (by decide) (g := (mkF m 16 #[.val (.int p0), .val (.ref al), .val (.int (11 : Int32)), .val (.int (5 : Int32)), .val (.ref en4)] [(.int (5 : Int32)), (.ref al)])) rfl rfl (hb hby d1_16) ?_
    show Steps p.tables e below (T11.setTop (mkF m 17 #[.val (.int p0), .val (.ref al), .val (.int (11 : Int32)), .val (.int (5 : Int32)), .val (.ref en4)] [(.ref en5)])) _
    refine XS.astore X11.here hx rfl (hb hby d1_17) rfl rfl (l' := #[.val (.int p0), .val (.ref al), .val (.int (11 : Int32)), .val (.int (5 : Int32)), .val (.ref en5)]) rfl ?_
    show Steps p.tables e below (T11.setTop (mkF m 19 #[.val (.int p0), .val (.ref al), .val (.int (11 : Int32)), .val (.int (5 : Int32)), .val (.ref en5)] [])) _
    refine XS.aload X11.here hx rfl (hb hby d1_19) rfl rfl ?_
    exact k
  obtain ⟨T13, X13, e13, st13⟩ := getF X11 hx hZ hown (host := "") (Or.inl (hw _ (List.mem_of_getElem? (i := 8) rfl))) Via.refl e11 F_en5_status (g := (mkF m 21 #[.val (.int p0), .val (.ref al), .val (.int (11 : Int32)), .val (.int (5 : Int32)), .val (.ref en5)] [(.ref en5)])) rfl rfl (hb hby d1_21)
  have pre14 : ∀ t, Steps p.tables e below (T13.setTop (mkF m 21 #[.val (.int p0), .val (.ref al), .val (.int (11 : Int32)), .val (.int (6 : Int32)), .val (.ref en6)] [(.ref en6)])) t → Steps p.tables e below (s₁.setTop (entryFrame m #[(.int p0)] 5)) t := by
    intro t k
    refine pre12 t ?_
    show Steps p.tables e below (T11.setTop (mkF m 21 #[.val (.int p0), .val (.ref al), .val (.int (11 : Int32)), .val (.int (5 : Int32)), .val (.ref en5)] [(.ref en5)])) _
    refine st13 _ ?_
    show Steps p.tables e below (T13.setTop (mkF m 24 #[.val (.int p0), .val (.ref al), .val (.int (11 : Int32)), .val (.int (5 : Int32)), .val (.ref en5)] [(.int (503 : Int32))])) _
    refine XS.iloadN X13.here hx rfl (hb hby d1_24) rfl  ?_
    show Steps p.tables e below (T13.setTop (mkF m 25 #[.val (.int p0), .val (.ref al), .val (.int (11 : Int32)), .val (.int (5 : Int32)), .val (.ref en5)] [(.int p0), (.int (503 : Int32))])) _
    refine XS.icmpYes X13.here hx rfl (pc0 := 25) (pc' := 31) rfl (hb hby d1_25) rfl (feq ((by rw [hs]; first | done | decide) : ¬ ((503 : Int32) = p0))).2 (by decide) (by decide) ?_
    show Steps p.tables e below (T13.setTop (mkF m 31 #[.val (.int p0), .val (.ref al), .val (.int (11 : Int32)), .val (.int (5 : Int32)), .val (.ref en5)] [])) _
    refine XS.iinc X13.here hx rfl (hb hby d1_31) rfl (l' := #[.val (.int p0), .val (.ref al), .val (.int (11 : Int32)), .val (.int (6 : Int32)), .val (.ref en5)]) rfl ?_
    show Steps p.tables e below (T13.setTop (mkF m 34 #[.val (.int p0), .val (.ref al), .val (.int (11 : Int32)), .val (.int (6 : Int32)), .val (.ref en5)] [])) _
    refine XS.goto X13.here hx rfl (pc0 := 34) (pc' := 9) rfl (hb hby d1_34) (by decide) (by decide) ?_
    show Steps p.tables e below (T13.setTop (mkF m 9 #[.val (.int p0), .val (.ref al), .val (.int (11 : Int32)), .val (.int (6 : Int32)), .val (.ref en5)] [])) _
    refine XS.iloadN X13.here hx rfl (hb hby d1_9) rfl  ?_
    show Steps p.tables e below (T13.setTop (mkF m 10 #[.val (.int p0), .val (.ref al), .val (.int (11 : Int32)), .val (.int (6 : Int32)), .val (.ref en5)] [(.int (6 : Int32))])) _
    refine XS.iloadN X13.here hx rfl (hb hby d1_10) rfl  ?_
    show Steps p.tables e below (T13.setTop (mkF m 11 #[.val (.int p0), .val (.ref al), .val (.int (11 : Int32)), .val (.int (6 : Int32)), .val (.ref en5)] [(.int (11 : Int32)), (.int (6 : Int32))])) _
    refine XS.icmpNo X13.here hx rfl (hb hby d1_11) rfl (tlt (by decide : (6 : Int32) < (11 : Int32))).2.1 ?_
    show Steps p.tables e below (T13.setTop (mkF m 14 #[.val (.int p0), .val (.ref al), .val (.int (11 : Int32)), .val (.int (6 : Int32)), .val (.ref en5)] [])) _
    refine XS.aloadN X13.here hx rfl (hb hby d1_14) rfl rfl ?_
    show Steps p.tables e below (T13.setTop (mkF m 15 #[.val (.int p0), .val (.ref al), .val (.int (11 : Int32)), .val (.int (6 : Int32)), .val (.ref en5)] [(.ref al)])) _
    refine XS.iloadN X13.here hx rfl (hb hby d1_15) rfl  ?_
    show Steps p.tables e below (T13.setTop (mkF m 16 #[.val (.int p0), .val (.ref al), .val (.int (11 : Int32)), .val (.int (6 : Int32)), .val (.ref en5)] [(.int (6 : Int32)), (.ref al)])) _
    refine own_ldR X13 hx hZ e13 A_al rfl (j := (6 : Int32)) (k := 6) (v := .ref en6) rfl (by decide) (by decide) (by decide) (g := (mkF m 16 #[.val (.int p0), .val (.ref al), .val (.int (11 : Int32)), .val (.int (6 : Int32)), .val (.ref en5)] [(.int (6 : Int32)), (.ref al)])) rfl rfl (hb hby d1_16) ?_
    show Steps p.tables e below (T13.setTop (mkF m 17 #[.val (.int p0), .val (.ref al), .val (.int (11 : Int32)), .val (.int (6 : Int32)), .val (.ref en5)] [(.ref en6)])) _
    refine XS.astore X13.here hx rfl (hb hby d1_17) rfl rfl (l' := #[.val (.int p0), .val (.ref al), .val (.int (11 : Int32)), .val (.int (6 : Int32)), .val (.ref en6)]) rfl ?_
    show Steps p.tables e below (T13.setTop (mkF m 19 #[.val (.int p0), .val (.ref al), .val (.int (11 : Int32)), .val (.int (6 : Int32)), .val (.ref en6)] [])) _
    refine XS.aload X13.here hx rfl (hb hby d1_19) rfl rfl ?_
    exact k
  obtain ⟨T15, X15, e15, st15⟩ := getF X13 hx hZ hown (host := "") (Or.inl (hw _ (List.mem_of_getElem? (i := 8) rfl))) Via.refl e13 F_en6_status (g := (mkF m 21 #[.val (.int p0), .val (.ref al), .val (.int (11 : Int32)), .val (.int (6 : Int32)), .val (.ref en6)] [(.ref en6)])) rfl rfl (hb hby d1_21)
  have pre16 : ∀ t, Steps p.tables e below (T15.setTop (mkF m 21 #[.val (.int p0), .val (.ref al), .val (.int (11 : Int32)), .val (.int (7 : Int32)), .val (.ref en7)] [(.ref en7)])) t → Steps p.tables e below (s₁.setTop (entryFrame m #[(.int p0)] 5)) t := by
    intro t k
    refine pre14 t ?_
    show Steps p.tables e below (T13.setTop (mkF m 21 #[.val (.int p0), .val (.ref al), .val (.int (11 : Int32)), .val (.int (6 : Int32)), .val (.ref en6)] [(.ref en6)])) _
    refine st15 _ ?_
    show Steps p.tables e below (T15.setTop (mkF m 24 #[.val (.int p0), .val (.ref al), .val (.int (11 : Int32)), .val (.int (6 : Int32)), .val (.ref en6)] [(.int (504 : Int32))])) _
    refine XS.iloadN X15.here hx rfl (hb hby d1_24) rfl  ?_
    show Steps p.tables e below (T15.setTop (mkF m 25 #[.val (.int p0), .val (.ref al), .val (.int (11 : Int32)), .val (.int (6 : Int32)), .val (.ref en6)] [(.int p0), (.int (504 : Int32))])) _
    refine XS.icmpYes X15.here hx rfl (pc0 := 25) (pc' := 31) rfl (hb hby d1_25) rfl (feq ((by rw [hs]; first | done | decide) : ¬ ((504 : Int32) = p0))).2 (by decide) (by decide) ?_
    show Steps p.tables e below (T15.setTop (mkF m 31 #[.val (.int p0), .val (.ref al), .val (.int (11 : Int32)), .val (.int (6 : Int32)), .val (.ref en6)] [])) _
    refine XS.iinc X15.here hx rfl (hb hby d1_31) rfl (l' := #[.val (.int p0), .val (.ref al), .val (.int (11 : Int32)), .val (.int (7 : Int32)), .val (.ref en6)]) rfl ?_
    show Steps p.tables e below (T15.setTop (mkF m 34 #[.val (.int p0), .val (.ref al), .val (.int (11 : Int32)), .val (.int (7 : Int32)), .val (.ref en6)] [])) _
    refine XS.goto X15.here hx rfl (pc0 := 34) (pc' := 9) rfl (hb hby d1_34) (by decide) (by decide) ?_
    show Steps p.tables e below (T15.setTop (mkF m 9 #[.val (.int p0), .val (.ref al), .val (.int (11 : Int32)), .val (.int (7 : Int32)), .val (.ref en6)] [])) _
    refine XS.iloadN X15.here hx rfl (hb hby d1_9) rfl  ?_
    show Steps p.tables e below (T15.setTop (mkF m 10 #[.val (.int p0), .val (.ref al), .val (.int (11 : Int32)), .val (.int (7 : Int32)), .val (.ref en6)] [(.int (7 : Int32))])) _
    refine XS.iloadN X15.here hx rfl (hb hby d1_10) rfl  ?_
    show Steps p.tables e below (T15.setTop (mkF m 11 #[.val (.int p0), .val (.ref al), .val (.int (11 : Int32)), .val (.int (7 : Int32)), .val (.ref en6)] [(.int (11 : Int32)), (.int (7 : Int32))])) _
    refine XS.icmpNo X15.here hx rfl (hb hby d1_11) rfl (tlt (by decide : (7 : Int32) < (11 : Int32))).2.1 ?_
    show Steps p.tables e below (T15.setTop (mkF m 14 #[.val (.int p0), .val (.ref al), .val (.int (11 : Int32)), .val (.int (7 : Int32)), .val (.ref en6)] [])) _
    refine XS.aloadN X15.here hx rfl (hb hby d1_14) rfl rfl ?_
    show Steps p.tables e below (T15.setTop (mkF m 15 #[.val (.int p0), .val (.ref al), .val (.int (11 : Int32)), .val (.int (7 : Int32)), .val (.ref en6)] [(.ref al)])) _
    refine XS.iloadN X15.here hx rfl (hb hby d1_15) rfl  ?_
    show Steps p.tables e below (T15.setTop (mkF m 16 #[.val (.int p0), .val (.ref al), .val (.int (11 : Int32)), .val (.int (7 : Int32)), .val (.ref en6)] [(.int (7 : Int32)), (.ref al)])) _
    refine own_ldR X15 hx hZ e15 A_al rfl (j := (7 : Int32)) (k := 7) (v := .ref en7) rfl (by decide) (by decide) (by decide) (g := (mkF m 16 #[.val (.int p0), .val (.ref al), .val (.int (11 : Int32)), .val (.int (7 : Int32)), .val (.ref en6)] [(.int (7 : Int32)), (.ref al)])) rfl rfl (hb hby d1_16) ?_
    show Steps p.tables e below (T15.setTop (mkF m 17 #[.val (.int p0), .val (.ref al), .val (.int (11 : Int32)), .val (.int (7 : Int32)), .val (.ref en6)] [(.ref en7)])) _
    refine XS.astore X15.here hx rfl (hb hby d1_17) rfl rfl (l' := #[.val (.int p0), .val (.ref al), .val (.int (11 : Int32)), .val (.int (7 : Int32)), .val (.ref en7)]) rfl ?_
    show Steps p.tables e below (T15.setTop (mkF m 19 #[.val (.int p0), .val (.ref al), .val (.int (11 : Int32)), .val (.int (7 : Int32)), .val (.ref en7)] [])) _
    refine XS.aload X15.here hx rfl (hb hby d1_19) rfl rfl ?_
    exact k
  obtain ⟨T17, X17, e17, st17⟩ := getF X15 hx hZ hown (host := "") (Or.inl (hw _ (List.mem_of_getElem? (i := 8) rfl))) Via.refl e15 F_en7_status (g := (mkF m 21 #[.val (.int p0), .val (.ref al), .val (.int (11 : Int32)), .val (.int (7 : Int32)), .val (.ref en7)] [(.ref en7)])) rfl rfl (hb hby d1_21)
  obtain ⟨fs, hr, hrun, hended, hW, hsame⟩ := X17.leave (v := some (.ref en7)) (fun h => by rw [Bd.returns] at h; cases h) (BodyLoose.notSynchronized Bd)
  refine ⟨_, _, pre16 _ ?_, hrun, hended, _, _, rfl, ?_, ⟨_, rfl⟩, hW, hsame.mono (by decide) (by decide)⟩
  · show Steps p.tables e below (T15.setTop (mkF m 21 #[.val (.int p0), .val (.ref al), .val (.int (11 : Int32)), .val (.int (7 : Int32)), .val (.ref en7)] [(.ref en7)])) _
    refine st17 _ ?_
    show Steps p.tables e below (T17.setTop (mkF m 24 #[.val (.int p0), .val (.ref al), .val (.int (11 : Int32)), .val (.int (7 : Int32)), .val (.ref en7)] [(.int (403 : Int32))])) _
    refine XS.iloadN X17.here hx rfl (hb hby d1_24) rfl  ?_
    show Steps p.tables e below (T17.setTop (mkF m 25 #[.val (.int p0), .val (.ref al), .val (.int (11 : Int32)), .val (.int (7 : Int32)), .val (.ref en7)] [(.int p0), (.int (403 : Int32))])) _
    refine XS.icmpNo X17.here hx rfl (hb hby d1_25) rfl (teq ((by rw [hs]; first | done | decide) : (403 : Int32) = p0)).2 ?_
    show Steps p.tables e below (T17.setTop (mkF m 28 #[.val (.int p0), .val (.ref al), .val (.int (11 : Int32)), .val (.int (7 : Int32)), .val (.ref en7)] [])) _
    refine XS.aload X17.here hx rfl (hb hby d1_28) rfl rfl ?_
    show Steps p.tables e below (T17.setTop (mkF m 30 #[.val (.int p0), .val (.ref al), .val (.int (11 : Int32)), .val (.int (7 : Int32)), .val (.ref en7)] [(.ref en7)])) _
    exact retOut X17 hx Bd.returns rfl (Or.inr (Or.inr (Or.inr (Or.inr ⟨rfl, rfl, rfl⟩)))) (hb hby d1_30) hr
  · show Q_1t403 Z p0 en0 en1 en2 en3 en4 en5 en6 en7 en8 en9 en10 al h0 n0 _ T17.heap _
    rw [e17]
    exact ⟨rfl, N0, rfl⟩
theorem d2_0 : decode method_3_code 0 = .ok (.iload_n 0, 1) := by decide +kernel
theorem d2_1 : decode method_3_code 1 = .ok (.sipush 403, 3) := by decide +kernel
theorem d2_4 : decode method_3_code 4 = .ok (.if_icmp .ne 7, 3) := by decide +kernel
theorem d2_7 : decode method_3_code 7 = .ok (.getstatic 19, 3) := by decide +kernel
theorem d2_10 : decode method_3_code 10 = .ok (.areturn, 1) := by decide +kernel
theorem pn_2 : plainName "com/example/fanoutd/fanoutd/proxy/ConditionOfStatusPinLaw" = true := by first | (simp [plainName, overriddenIn]; done) | decide +kernel
theorem ef_2t403 (m : MethodId) (p0 : Int32) : entryFrame m #[(.int p0)] 1 = mkF m 0 #[.val (.int p0)] [] := by first | (simp [entryFrame, mkF, argsToLocals, Value.category]; done) | rfl
def Q_2t403 (Z : State) (p0 : Int32) (en0 : Addr) (en1 : Addr) (en2 : Addr) (en3 : Addr) (en4 : Addr) (en5 : Addr) (en6 : Addr) (en7 : Addr) (en8 : Addr) (en9 : Addr) (en10 : Addr) (h0 : Heap) (n0 : Nat) (v : Option Value) (h : Heap) (L : List Loc) : Prop := v = some (.ref en7) ∧ Fr n0 L ∧ h = h0
set_option maxRecDepth 65536 in
set_option maxHeartbeats 40000000 in
theorem rm_2t403 (l : Launch) (Z : State) (a0 : Array Value) (hw : ∀ d ∈ tables_1, d.before a0 Z = true) (ws : List Jvm.Cond) (p0 : Int32) (en0 : Addr) (en1 : Addr) (en2 : Addr) (en3 : Addr) (en4 : Addr) (en5 : Addr) (en6 : Addr) (en7 : Addr) (en8 : Addr) (en9 : Addr) (en10 : Addr) (h0 : Heap) (n0 : Nat) (Z0 : n0 ≤ h0.size) (S_ERROR : Sta Z h0 "com/example/fanoutd/fanoutd/proxy/NextUpstream$Condition" "ERROR" "Lcom/example/fanoutd/fanoutd/proxy/NextUpstream$Condition;" (.ref en0)) (S_TIMEOUT : Sta Z h0 "com/example/fanoutd/fanoutd/proxy/NextUpstream$Condition" "TIMEOUT" "Lcom/example/fanoutd/fanoutd/proxy/NextUpstream$Condition;" (.ref en1)) (S_INVALID_HEADER : Sta Z h0 "com/example/fanoutd/fanoutd/proxy/NextUpstream$Condition" "INVALID_HEADER" "Lcom/example/fanoutd/fanoutd/proxy/NextUpstream$Condition;" (.ref en2)) (S_HTTP_500 : Sta Z h0 "com/example/fanoutd/fanoutd/proxy/NextUpstream$Condition" "HTTP_500" "Lcom/example/fanoutd/fanoutd/proxy/NextUpstream$Condition;" (.ref en3)) (S_HTTP_502 : Sta Z h0 "com/example/fanoutd/fanoutd/proxy/NextUpstream$Condition" "HTTP_502" "Lcom/example/fanoutd/fanoutd/proxy/NextUpstream$Condition;" (.ref en4)) (S_HTTP_503 : Sta Z h0 "com/example/fanoutd/fanoutd/proxy/NextUpstream$Condition" "HTTP_503" "Lcom/example/fanoutd/fanoutd/proxy/NextUpstream$Condition;" (.ref en5)) (S_HTTP_504 : Sta Z h0 "com/example/fanoutd/fanoutd/proxy/NextUpstream$Condition" "HTTP_504" "Lcom/example/fanoutd/fanoutd/proxy/NextUpstream$Condition;" (.ref en6)) (S_HTTP_403 : Sta Z h0 "com/example/fanoutd/fanoutd/proxy/NextUpstream$Condition" "HTTP_403" "Lcom/example/fanoutd/fanoutd/proxy/NextUpstream$Condition;" (.ref en7)) (S_HTTP_404 : Sta Z h0 "com/example/fanoutd/fanoutd/proxy/NextUpstream$Condition" "HTTP_404" "Lcom/example/fanoutd/fanoutd/proxy/NextUpstream$Condition;" (.ref en8)) (S_HTTP_429 : Sta Z h0 "com/example/fanoutd/fanoutd/proxy/NextUpstream$Condition" "HTTP_429" "Lcom/example/fanoutd/fanoutd/proxy/NextUpstream$Condition;" (.ref en9)) (S_NON_IDEMPOTENT : Sta Z h0 "com/example/fanoutd/fanoutd/proxy/NextUpstream$Condition" "NON_IDEMPOTENT" "Lcom/example/fanoutd/fanoutd/proxy/NextUpstream$Condition;" (.ref en10)) (hs : p0 = (403 : Int32)) :
    MetFree l (⟨"com/example/fanoutd/fanoutd/proxy/ConditionOfStatusPinLaw", "expected", "(I)Lcom/example/fanoutd/fanoutd/proxy/NextUpstream$Condition;"⟩ : MethodName) (head1 (Jvm.Cond.code (⟨"com/example/fanoutd/fanoutd/proxy/ConditionOfStatusPinLaw", "expected", "(I)Lcom/example/fanoutd/fanoutd/proxy/NextUpstream$Condition;"⟩ : MethodName) method_3_code 1 (some (.object "com/example/fanoutd/fanoutd/proxy/NextUpstream$Condition")) :: ws) ({ frames := 0, cells := 0, slots := 0, locals := 0 } : Room)) (fun a U => a = #[(.int p0)] ∧ Z.Warmed39 U.vm ∧ U.heap = h0) (fun _ _ _ _ _ => True) (fun _ U o U' => ∃ v L, o = .returned v ∧ Q_2t403 Z p0 en0 en1 en2 en3 en4 en5 en6 en7 en8 en9 en10 h0 n0 v U'.heap L ∧ FrameEnd U o U' L ({ frames := 0, cells := 0, slots := 0, locals := 0 } : Room).cells ({ frames := 0, cells := 0, slots := 0, locals := 0 } : Room).slots) := by
  refine MetFree.of_bodySF (plainFor_of_name pn_2) hisR ?_
  intro p e s m args below meth c s₁ Bd hml0 hP hK
  obtain ⟨rfl, hZ, hh⟩ := hP
  have hx := Bd.exec
  have hby := Bd.bytes
  have hml : c.maxLocals = 1 := hml0
  have hown : s.vm.findClass "com/example/fanoutd/fanoutd/proxy/ConditionOfStatusPinLaw" = some m.cls := findClass_of_methodNamed Bd.named
  have hnm := (name_of_methodNamed Bd.named Bd.method).1
  have X0 : Stand p l e ({ frames := 0, cells := 0, slots := 0, locals := 0 } : Room) s m #[(.int p0)] below meth c s₁ [] 0 0 := Stand.of_body Bd
  have e0 : s₁.heap = h0 := by rw [← hh, Bd.state]; rfl
  have N0 := Fr.nil n0
  have K0 : Keep h0 h0 [] := Keep.refl h0 _
  have pre0 : ∀ t, Steps p.tables e below (s₁.setTop (mkF m 0 #[.val (.int p0)] [])) t → Steps p.tables e below (s₁.setTop (entryFrame m #[(.int p0)] 1)) t := fun t k => castTop (ef_2t403 m p0) k
  have pre1 : ∀ t, Steps p.tables e below (s₁.setTop (mkF m 7 #[.val (.int p0)] [])) t → Steps p.tables e below (s₁.setTop (entryFrame m #[(.int p0)] 1)) t := by
    intro t k
    refine pre0 t ?_
    show Steps p.tables e below (s₁.setTop (mkF m 0 #[.val (.int p0)] [])) _
    refine XS.iloadN X0.here hx rfl (hb hby d2_0) rfl  ?_
    show Steps p.tables e below (s₁.setTop (mkF m 1 #[.val (.int p0)] [(.int p0)])) _
    refine XS.sipush X0.here hx rfl (hb hby d2_1) ?_
    show Steps p.tables e below (s₁.setTop (mkF m 4 #[.val (.int p0)] [(.int (403 : Int32)), (.int p0)])) _
    refine XS.icmpNo X0.here hx rfl (hb hby d2_4) rfl (teq ((by rw [hs]; first | done | decide) : p0 = (403 : Int32))).2 ?_
    exact k
  obtain ⟨T2, X2, e2, st2⟩ := getS2 X0 hx hZ hown (host := "") (Or.inl (hw _ (List.mem_of_getElem? (i := 27) rfl))) Via.refl e0 S_HTTP_403 (g := (mkF m 7 #[.val (.int p0)] [])) rfl (hb hby d2_7)
  obtain ⟨fs, hr, hrun, hended, hW, hsame⟩ := X2.leave (v := some (.ref en7)) (fun h => by rw [Bd.returns] at h; cases h) (BodyLoose.notSynchronized Bd)
  refine ⟨_, _, pre1 _ ?_, hrun, hended, _, _, rfl, ?_, ⟨_, rfl⟩, hW, hsame.mono (by decide) (by decide)⟩
  · show Steps p.tables e below (s₁.setTop (mkF m 7 #[.val (.int p0)] [])) _
    refine st2 _ ?_
    show Steps p.tables e below (T2.setTop (mkF m 10 #[.val (.int p0)] [(.ref en7)])) _
    exact retOut X2 hx Bd.returns rfl (Or.inr (Or.inr (Or.inr (Or.inr ⟨rfl, rfl, rfl⟩)))) (hb hby d2_10) hr
  · show Q_2t403 Z p0 en0 en1 en2 en3 en4 en5 en6 en7 en8 en9 en10 h0 n0 _ T2.heap _
    rw [e2]
    exact ⟨rfl, N0, rfl⟩
theorem ef_1t404 (m : MethodId) (p0 : Int32) : entryFrame m #[(.int p0)] 5 = mkF m 0 #[.val (.int p0), .unset, .unset, .unset, .unset] [] := by first | (simp [entryFrame, mkF, argsToLocals, Value.category]; done) | rfl
def Q_1t404 (Z : State) (p0 : Int32) (en0 : Addr) (en1 : Addr) (en2 : Addr) (en3 : Addr) (en4 : Addr) (en5 : Addr) (en6 : Addr) (en7 : Addr) (en8 : Addr) (en9 : Addr) (en10 : Addr) (al : Addr) (h0 : Heap) (n0 : Nat) (v : Option Value) (h : Heap) (L : List Loc) : Prop := v = some (.ref en8) ∧ Fr n0 L ∧ h = h0
set_option maxRecDepth 65536 in
set_option maxHeartbeats 40000000 in
theorem rm_1t404 (l : Launch) (Z : State) (a0 : Array Value) (hw : ∀ d ∈ tables_1, d.before a0 Z = true) (ws : List Jvm.Cond) (p0 : Int32) (en0 : Addr) (en1 : Addr) (en2 : Addr) (en3 : Addr) (en4 : Addr) (en5 : Addr) (en6 : Addr) (en7 : Addr) (en8 : Addr) (en9 : Addr) (en10 : Addr) (al : Addr) (h0 : Heap) (n0 : Nat) (Z0 : n0 ≤ h0.size) (S_ERROR : Sta Z h0 "com/example/fanoutd/fanoutd/proxy/NextUpstream$Condition" "ERROR" "Lcom/example/fanoutd/fanoutd/proxy/NextUpstream$Condition;" (.ref en0)) (S_TIMEOUT : Sta Z h0 "com/example/fanoutd/fanoutd/proxy/NextUpstream$Condition" "TIMEOUT" "Lcom/example/fanoutd/fanoutd/proxy/NextUpstream$Condition;" (.ref en1)) (S_INVALID_HEADER : Sta Z h0 "com/example/fanoutd/fanoutd/proxy/NextUpstream$Condition" "INVALID_HEADER" "Lcom/example/fanoutd/fanoutd/proxy/NextUpstream$Condition;" (.ref en2)) (S_HTTP_500 : Sta Z h0 "com/example/fanoutd/fanoutd/proxy/NextUpstream$Condition" "HTTP_500" "Lcom/example/fanoutd/fanoutd/proxy/NextUpstream$Condition;" (.ref en3)) (S_HTTP_502 : Sta Z h0 "com/example/fanoutd/fanoutd/proxy/NextUpstream$Condition" "HTTP_502" "Lcom/example/fanoutd/fanoutd/proxy/NextUpstream$Condition;" (.ref en4)) (S_HTTP_503 : Sta Z h0 "com/example/fanoutd/fanoutd/proxy/NextUpstream$Condition" "HTTP_503" "Lcom/example/fanoutd/fanoutd/proxy/NextUpstream$Condition;" (.ref en5)) (S_HTTP_504 : Sta Z h0 "com/example/fanoutd/fanoutd/proxy/NextUpstream$Condition" "HTTP_504" "Lcom/example/fanoutd/fanoutd/proxy/NextUpstream$Condition;" (.ref en6)) (S_HTTP_403 : Sta Z h0 "com/example/fanoutd/fanoutd/proxy/NextUpstream$Condition" "HTTP_403" "Lcom/example/fanoutd/fanoutd/proxy/NextUpstream$Condition;" (.ref en7)) (S_HTTP_404 : Sta Z h0 "com/example/fanoutd/fanoutd/proxy/NextUpstream$Condition" "HTTP_404" "Lcom/example/fanoutd/fanoutd/proxy/NextUpstream$Condition;" (.ref en8)) (S_HTTP_429 : Sta Z h0 "com/example/fanoutd/fanoutd/proxy/NextUpstream$Condition" "HTTP_429" "Lcom/example/fanoutd/fanoutd/proxy/NextUpstream$Condition;" (.ref en9)) (S_NON_IDEMPOTENT : Sta Z h0 "com/example/fanoutd/fanoutd/proxy/NextUpstream$Condition" "NON_IDEMPOTENT" "Lcom/example/fanoutd/fanoutd/proxy/NextUpstream$Condition;" (.ref en10)) (S_ALL : Sta Z h0 "com/example/fanoutd/fanoutd/proxy/NextUpstream$Condition" "ALL" "[Lcom/example/fanoutd/fanoutd/proxy/NextUpstream$Condition;" (.ref al)) (A_al : own_A Z h0 al (.object "com/example/fanoutd/fanoutd/proxy/NextUpstream$Condition") 11 (fun i => (own_l en0 en1 en2 en3 en4 en5 en6 en7 en8 en9 en10) i)) (F_en0_status : Fld Z h0 en0 "com/example/fanoutd/fanoutd/proxy/NextUpstream$Condition" "status" "I" (.int (0 : Int32))) (F_en1_status : Fld Z h0 en1 "com/example/fanoutd/fanoutd/proxy/NextUpstream$Condition" "status" "I" (.int (0 : Int32))) (F_en2_status : Fld Z h0 en2 "com/example/fanoutd/fanoutd/proxy/NextUpstream$Condition" "status" "I" (.int (0 : Int32))) (F_en3_status : Fld Z h0 en3 "com/example/fanoutd/fanoutd/proxy/NextUpstream$Condition" "status" "I" (.int (500 : Int32))) (F_en4_status : Fld Z h0 en4 "com/example/fanoutd/fanoutd/proxy/NextUpstream$Condition" "status" "I" (.int (502 : Int32))) (F_en5_status : Fld Z h0 en5 "com/example/fanoutd/fanoutd/proxy/NextUpstream$Condition" "status" "I" (.int (503 : Int32))) (F_en6_status : Fld Z h0 en6 "com/example/fanoutd/fanoutd/proxy/NextUpstream$Condition" "status" "I" (.int (504 : Int32))) (F_en7_status : Fld Z h0 en7 "com/example/fanoutd/fanoutd/proxy/NextUpstream$Condition" "status" "I" (.int (403 : Int32))) (F_en8_status : Fld Z h0 en8 "com/example/fanoutd/fanoutd/proxy/NextUpstream$Condition" "status" "I" (.int (404 : Int32))) (F_en9_status : Fld Z h0 en9 "com/example/fanoutd/fanoutd/proxy/NextUpstream$Condition" "status" "I" (.int (429 : Int32))) (F_en10_status : Fld Z h0 en10 "com/example/fanoutd/fanoutd/proxy/NextUpstream$Condition" "status" "I" (.int (0 : Int32))) (hs : p0 = (404 : Int32)) :
    MetFree l (⟨"com/example/fanoutd/fanoutd/proxy/NextUpstream$Condition", "ofStatus", "(I)Lcom/example/fanoutd/fanoutd/proxy/NextUpstream$Condition;"⟩ : MethodName) (head1 (Jvm.Cond.code (⟨"com/example/fanoutd/fanoutd/proxy/NextUpstream$Condition", "ofStatus", "(I)Lcom/example/fanoutd/fanoutd/proxy/NextUpstream$Condition;"⟩ : MethodName) prog_62_method_7_code 5 (some (.object "com/example/fanoutd/fanoutd/proxy/NextUpstream$Condition")) :: ws) ({ frames := 0, cells := 0, slots := 0, locals := 0 } : Room)) (fun a U => a = #[(.int p0)] ∧ Z.Warmed39 U.vm ∧ U.heap = h0) (fun _ _ _ _ _ => True) (fun _ U o U' => ∃ v L, o = .returned v ∧ Q_1t404 Z p0 en0 en1 en2 en3 en4 en5 en6 en7 en8 en9 en10 al h0 n0 v U'.heap L ∧ FrameEnd U o U' L ({ frames := 0, cells := 0, slots := 0, locals := 0 } : Room).cells ({ frames := 0, cells := 0, slots := 0, locals := 0 } : Room).slots) := by
  refine MetFree.of_bodySF (plainFor_of_name pn_1) hisR ?_
  intro p e s m args below meth c s₁ Bd hml0 hP hK
  obtain ⟨rfl, hZ, hh⟩ := hP
  have hx := Bd.exec
  have hby := Bd.bytes
  have hml : c.maxLocals = 5 := hml0
  have hown : s.vm.findClass "com/example/fanoutd/fanoutd/proxy/NextUpstream$Condition" = some m.cls := findClass_of_methodNamed Bd.named
  have hnm := (name_of_methodNamed Bd.named Bd.method).1
  have X0 : Stand p l e ({ frames := 0, cells := 0, slots := 0, locals := 0 } : Room) s m #[(.int p0)] below meth c s₁ [] 0 0 := Stand.of_body Bd
  have e0 : s₁.heap = h0 := by rw [← hh, Bd.state]; rfl
  have N0 := Fr.nil n0
  have K0 : Keep h0 h0 [] := Keep.refl h0 _
  have pre0 : ∀ t, Steps p.tables e below (s₁.setTop (mkF m 0 #[.val (.int p0), .unset, .unset, .unset, .unset] [])) t → Steps p.tables e below (s₁.setTop (entryFrame m #[(.int p0)] 5)) t := fun t k => castTop (ef_1t404 m p0) k
  obtain ⟨T1, X1, e1, st1⟩ := getS2 X0 hx hZ hown (host := "") (Or.inl (hw _ (List.mem_of_getElem? (i := 5) rfl))) Via.refl e0 S_ALL (g := (mkF m 0 #[.val (.int p0), .unset, .unset, .unset, .unset] [])) rfl (hb hby d1_0)
  have pre2 : ∀ t, Steps p.tables e below (T1.setTop (mkF m 21 #[.val (.int p0), .val (.ref al), .val (.int (11 : Int32)), .val (.int (0 : Int32)), .val (.ref en0)] [(.ref en0)])) t → Steps p.tables e below (s₁.setTop (entryFrame m #[(.int p0)] 5)) t := by
    intro t k
    refine pre0 t ?_
    show Steps p.tables e below (s₁.setTop (mkF m 0 #[.val (.int p0), .unset, .unset, .unset, .unset] [])) _
    refine st1 _ ?_
    show Steps p.tables e below (T1.setTop (mkF m 3 #[.val (.int p0), .unset, .unset, .unset, .unset] [(.ref al)])) _
    refine XS.astoreN X1.here hx rfl (hb hby d1_3) rfl rfl (l' := #[.val (.int p0), .val (.ref al), .unset, .unset, .unset]) rfl ?_
    show Steps p.tables e below (T1.setTop (mkF m 4 #[.val (.int p0), .val (.ref al), .unset, .unset, .unset] [])) _
    refine XS.aloadN X1.here hx rfl (hb hby d1_4) rfl rfl ?_
    show Steps p.tables e below (T1.setTop (mkF m 5 #[.val (.int p0), .val (.ref al), .unset, .unset, .unset] [(.ref al)])) _
    refine own_len X1 hx hZ e1 A_al (z := (11 : Int32)) rfl (g := (mkF m 5 #[.val (.int p0), .val (.ref al), .unset, .unset, .unset] [(.ref al)])) rfl rfl (hb hby d1_5) ?_
    show Steps p.tables e below (T1.setTop (mkF m 6 #[.val (.int p0), .val (.ref al), .unset, .unset, .unset] [(.int (11 : Int32))])) _
    refine XS.istoreN X1.here hx rfl (hb hby d1_6) rfl (l' := #[.val (.int p0), .val (.ref al), .val (.int (11 : Int32)), .unset, .unset]) rfl ?_
    show Steps p.tables e below (T1.setTop (mkF m 7 #[.val (.int p0), .val (.ref al), .val (.int (11 : Int32)), .unset, .unset] [])) _
    refine XS.iconst X1.here hx rfl (hb hby d1_7) ?_
    show Steps p.tables e below (T1.setTop (mkF m 8 #[.val (.int p0), .val (.ref al), .val (.int (11 : Int32)), .unset, .unset] [(.int (0 : Int32))])) _
    refine XS.istoreN X1.here hx rfl (hb hby d1_8) rfl (l' := #[.val (.int p0), .val (.ref al), .val (.int (11 : Int32)), .val (.int (0 : Int32)), .unset]) rfl ?_
    show Steps p.tables e below (T1.setTop (mkF m 9 #[.val (.int p0), .val (.ref al), .val (.int (11 : Int32)), .val (.int (0 : Int32)), .unset] [])) _
    refine XS.iloadN X1.here hx rfl (hb hby d1_9) rfl  ?_
    show Steps p.tables e below (T1.setTop (mkF m 10 #[.val (.int p0), .val (.ref al), .val (.int (11 : Int32)), .val (.int (0 : Int32)), .unset] [(.int (0 : Int32))])) _
    refine XS.iloadN X1.here hx rfl (hb hby d1_10) rfl  ?_
    show Steps p.tables e below (T1.setTop (mkF m 11 #[.val (.int p0), .val (.ref al), .val (.int (11 : Int32)), .val (.int (0 : Int32)), .unset] [(.int (11 : Int32)), (.int (0 : Int32))])) _
    refine XS.icmpNo X1.here hx rfl (hb hby d1_11) rfl (tlt (by decide : (0 : Int32) < (11 : Int32))).2.1 ?_
    show Steps p.tables e below (T1.setTop (mkF m 14 #[.val (.int p0), .val (.ref al), .val (.int (11 : Int32)), .val (.int (0 : Int32)), .unset] [])) _
    refine XS.aloadN X1.here hx rfl (hb hby d1_14) rfl rfl ?_
    show Steps p.tables e below (T1.setTop (mkF m 15 #[.val (.int p0), .val (.ref al), .val (.int (11 : Int32)), .val (.int (0 : Int32)), .unset] [(.ref al)])) _
    refine XS.iloadN X1.here hx rfl (hb hby d1_15) rfl  ?_
    show Steps p.tables e below (T1.setTop (mkF m 16 #[.val (.int p0), .val (.ref al), .val (.int (11 : Int32)), .val (.int (0 : Int32)), .unset] [(.int (0 : Int32)), (.ref al)])) _
    refine own_ldR X1 hx hZ e1 A_al rfl (j := (0 : Int32)) (k := 0) (v := .ref en0) rfl (by decide) (by decide) (by decide) (g := (mkF m 16 #[.val (.int p0), .val (.ref al), .val (.int (11 : Int32)), .val (.int (0 : Int32)), .unset] [(.int (0 : Int32)), (.ref al)])) rfl rfl (hb hby d1_16) ?_
    show Steps p.tables e below (T1.setTop (mkF m 17 #[.val (.int p0), .val (.ref al), .val (.int (11 : Int32)), .val (.int (0 : Int32)), .unset] [(.ref en0)])) _
    refine XS.astore X1.here hx rfl (hb hby d1_17) rfl rfl (l' := #[.val (.int p0), .val (.ref al), .val (.int (11 : Int32)), .val (.int (0 : Int32)), .val (.ref en0)]) rfl ?_
    show Steps p.tables e below (T1.setTop (mkF m 19 #[.val (.int p0), .val (.ref al), .val (.int (11 : Int32)), .val (.int (0 : Int32)), .val (.ref en0)] [])) _
    refine XS.aload X1.here hx rfl (hb hby d1_19) rfl rfl ?_
    exact k
  obtain ⟨T3, X3, e3, st3⟩ := getF X1 hx hZ hown (host := "") (Or.inl (hw _ (List.mem_of_getElem? (i := 8) rfl))) Via.refl e1 F_en0_status (g := (mkF m 21 #[.val (.int p0), .val (.ref al), .val (.int (11 : Int32)), .val (.int (0 : Int32)), .val (.ref en0)] [(.ref en0)])) rfl rfl (hb hby d1_21)
  have pre4 : ∀ t, Steps p.tables e below (T3.setTop (mkF m 21 #[.val (.int p0), .val (.ref al), .val (.int (11 : Int32)), .val (.int (1 : Int32)), .val (.ref en1)] [(.ref en1)])) t → Steps p.tables e below (s₁.setTop (entryFrame m #[(.int p0)] 5)) t := by
    intro t k
    refine pre2 t ?_
    show Steps p.tables e below (T1.setTop (mkF m 21 #[.val (.int p0), .val (.ref al), .val (.int (11 : Int32)), .val (.int (0 : Int32)), .val (.ref en0)] [(.ref en0)])) _
    refine st3 _ ?_
    show Steps p.tables e below (T3.setTop (mkF m 24 #[.val (.int p0), .val (.ref al), .val (.int (11 : Int32)), .val (.int (0 : Int32)), .val (.ref en0)] [(.int (0 : Int32))])) _
    refine XS.iloadN X3.here hx rfl (hb hby d1_24) rfl  ?_
    show Steps p.tables e below (T3.setTop (mkF m 25 #[.val (.int p0), .val (.ref al), .val (.int (11 : Int32)), .val (.int (0 : Int32)), .val (.ref en0)] [(.int p0), (.int (0 : Int32))])) _
    refine XS.icmpYes X3.here hx rfl (pc0 := 25) (pc' := 31) rfl (hb hby d1_25) rfl (feq ((by rw [hs]; first | done | decide) : ¬ ((0 : Int32) = p0))).2 (by decide) (by decide) ?_
    show Steps p.tables e below (T3.setTop (mkF m 31 #[.val (.int p0), .val (.ref al), .val (.int (11 : Int32)), .val (.int (0 : Int32)), .val (.ref en0)] [])) _
    refine XS.iinc X3.here hx rfl (hb hby d1_31) rfl (l' := #[.val (.int p0), .val (.ref al), .val (.int (11 : Int32)), .val (.int (1 : Int32)), .val (.ref en0)]) rfl ?_
    show Steps p.tables e below (T3.setTop (mkF m 34 #[.val (.int p0), .val (.ref al), .val (.int (11 : Int32)), .val (.int (1 : Int32)), .val (.ref en0)] [])) _
    refine XS.goto X3.here hx rfl (pc0 := 34) (pc' := 9) rfl (hb hby d1_34) (by decide) (by decide) ?_
    show Steps p.tables e below (T3.setTop (mkF m 9 #[.val (.int p0), .val (.ref al), .val (.int (11 : Int32)), .val (.int (1 : Int32)), .val (.ref en0)] [])) _
    refine XS.iloadN X3.here hx rfl (hb hby d1_9) rfl  ?_
    show Steps p.tables e below (T3.setTop (mkF m 10 #[.val (.int p0), .val (.ref al), .val (.int (11 : Int32)), .val (.int (1 : Int32)), .val (.ref en0)] [(.int (1 : Int32))])) _
    refine XS.iloadN X3.here hx rfl (hb hby d1_10) rfl  ?_
    show Steps p.tables e below (T3.setTop (mkF m 11 #[.val (.int p0), .val (.ref al), .val (.int (11 : Int32)), .val (.int (1 : Int32)), .val (.ref en0)] [(.int (11 : Int32)), (.int (1 : Int32))])) _
    refine XS.icmpNo X3.here hx rfl (hb hby d1_11) rfl (tlt (by decide : (1 : Int32) < (11 : Int32))).2.1 ?_
    show Steps p.tables e below (T3.setTop (mkF m 14 #[.val (.int p0), .val (.ref al), .val (.int (11 : Int32)), .val (.int (1 : Int32)), .val (.ref en0)] [])) _
    refine XS.aloadN X3.here hx rfl (hb hby d1_14) rfl rfl ?_
    show Steps p.tables e below (T3.setTop (mkF m 15 #[.val (.int p0), .val (.ref al), .val (.int (11 : Int32)), .val (.int (1 : Int32)), .val (.ref en0)] [(.ref al)])) _
    refine XS.iloadN X3.here hx rfl (hb hby d1_15) rfl  ?_
    show Steps p.tables e below (T3.setTop (mkF m 16 #[.val (.int p0), .val (.ref al), .val (.int (11 : Int32)), .val (.int (1 : Int32)), .val (.ref en0)] [(.int (1 : Int32)), (.ref al)])) _
    refine own_ldR X3 hx hZ e3 A_al rfl (j := (1 : Int32)) (k := 1) (v := .ref en1) rfl (by decide) (by decide) (by decide) (g := (mkF m 16 #[.val (.int p0), .val (.ref al), .val (.int (11 : Int32)), .val (.int (1 : Int32)), .val (.ref en0)] [(.int (1 : Int32)), (.ref al)])) rfl rfl (hb hby d1_16) ?_
    show Steps p.tables e below (T3.setTop (mkF m 17 #[.val (.int p0), .val (.ref al), .val (.int (11 : Int32)), .val (.int (1 : Int32)), .val (.ref en0)] [(.ref en1)])) _
    refine XS.astore X3.here hx rfl (hb hby d1_17) rfl rfl (l' := #[.val (.int p0), .val (.ref al), .val (.int (11 : Int32)), .val (.int (1 : Int32)), .val (.ref en1)]) rfl ?_
    show Steps p.tables e below (T3.setTop (mkF m 19 #[.val (.int p0), .val (.ref al), .val (.int (11 : Int32)), .val (.int (1 : Int32)), .val (.ref en1)] [])) _
    refine XS.aload X3.here hx rfl (hb hby d1_19) rfl rfl ?_
    exact k
  obtain ⟨T5, X5, e5, st5⟩ := getF X3 hx hZ hown (host := "") (Or.inl (hw _ (List.mem_of_getElem? (i := 8) rfl))) Via.refl e3 F_en1_status (g := (mkF m 21 #[.val (.int p0), .val (.ref al), .val (.int (11 : Int32)), .val (.int (1 : Int32)), .val (.ref en1)] [(.ref en1)])) rfl rfl (hb hby d1_21)
  have pre6 : ∀ t, Steps p.tables e below (T5.setTop (mkF m 21 #[.val (.int p0), .val (.ref al), .val (.int (11 : Int32)), .val (.int (2 : Int32)), .val (.ref en2)] [(.ref en2)])) t → Steps p.tables e below (s₁.setTop (entryFrame m #[(.int p0)] 5)) t := by
    intro t k
    refine pre4 t ?_
    show Steps p.tables e below (T3.setTop (mkF m 21 #[.val (.int p0), .val (.ref al), .val (.int (11 : Int32)), .val (.int (1 : Int32)), .val (.ref en1)] [(.ref en1)])) _
    refine st5 _ ?_
    show Steps p.tables e below (T5.setTop (mkF m 24 #[.val (.int p0), .val (.ref al), .val (.int (11 : Int32)), .val (.int (1 : Int32)), .val (.ref en1)] [(.int (0 : Int32))])) _
    refine XS.iloadN X5.here hx rfl (hb hby d1_24) rfl  ?_
    show Steps p.tables e below (T5.setTop (mkF m 25 #[.val (.int p0), .val (.ref al), .val (.int (11 : Int32)), .val (.int (1 : Int32)), .val (.ref en1)] [(.int p0), (.int (0 : Int32))])) _
    refine XS.icmpYes X5.here hx rfl (pc0 := 25) (pc' := 31) rfl (hb hby d1_25) rfl (feq ((by rw [hs]; first | done | decide) : ¬ ((0 : Int32) = p0))).2 (by decide) (by decide) ?_
    show Steps p.tables e below (T5.setTop (mkF m 31 #[.val (.int p0), .val (.ref al), .val (.int (11 : Int32)), .val (.int (1 : Int32)), .val (.ref en1)] [])) _
    refine XS.iinc X5.here hx rfl (hb hby d1_31) rfl (l' := #[.val (.int p0), .val (.ref al), .val (.int (11 : Int32)), .val (.int (2 : Int32)), .val (.ref en1)]) rfl ?_
    show Steps p.tables e below (T5.setTop (mkF m 34 #[.val (.int p0), .val (.ref al), .val (.int (11 : Int32)), .val (.int (2 : Int32)), .val (.ref en1)] [])) _
    refine XS.goto X5.here hx rfl (pc0 := 34) (pc' := 9) rfl (hb hby d1_34) (by decide) (by decide) ?_
    show Steps p.tables e below (T5.setTop (mkF m 9 #[.val (.int p0), .val (.ref al), .val (.int (11 : Int32)), .val (.int (2 : Int32)), .val (.ref en1)] [])) _
    refine XS.iloadN X5.here hx rfl (hb hby d1_9) rfl  ?_
    show Steps p.tables e below (T5.setTop (mkF m 10 #[.val (.int p0), .val (.ref al), .val (.int (11 : Int32)), .val (.int (2 : Int32)), .val (.ref en1)] [(.int (2 : Int32))])) _
    refine XS.iloadN X5.here hx rfl (hb hby d1_10) rfl  ?_
    show Steps p.tables e below (T5.setTop (mkF m 11 #[.val (.int p0), .val (.ref al), .val (.int (11 : Int32)), .val (.int (2 : Int32)), .val (.ref en1)] [(.int (11 : Int32)), (.int (2 : Int32))])) _
    refine XS.icmpNo X5.here hx rfl (hb hby d1_11) rfl (tlt (by decide : (2 : Int32) < (11 : Int32))).2.1 ?_
    show Steps p.tables e below (T5.setTop (mkF m 14 #[.val (.int p0), .val (.ref al), .val (.int (11 : Int32)), .val (.int (2 : Int32)), .val (.ref en1)] [])) _
    refine XS.aloadN X5.here hx rfl (hb hby d1_14) rfl rfl ?_
    show Steps p.tables e below (T5.setTop (mkF m 15 #[.val (.int p0), .val (.ref al), .val (.int (11 : Int32)), .val (.int (2 : Int32)), .val (.ref en1)] [(.ref al)])) _
    refine XS.iloadN X5.here hx rfl (hb hby d1_15) rfl  ?_
    show Steps p.tables e below (T5.setTop (mkF m 16 #[.val (.int p0), .val (.ref al), .val (.int (11 : Int32)), .val (.int (2 : Int32)), .val (.ref en1)] [(.int (2 : Int32)), (.ref al)])) _
    refine own_ldR X5 hx hZ e5 A_al rfl (j := (2 : Int32)) (k := 2) (v := .ref en2) rfl (by decide) (by decide) (by decide) (g := (mkF m 16 #[.val (.int p0), .val (.ref al), .val (.int (11 : Int32)), .val (.int (2 : Int32)), .val (.ref en1)] [(.int (2 : Int32)), (.ref al)])) rfl rfl (hb hby d1_16) ?_
    show Steps p.tables e below (T5.setTop (mkF m 17 #[.val (.int p0), .val (.ref al), .val (.int (11 : Int32)), .val (.int (2 : Int32)), .val (.ref en1)] [(.ref en2)])) _
    refine XS.astore X5.here hx rfl (hb hby d1_17) rfl rfl (l' := #[.val (.int p0), .val (.ref al), .val (.int (11 : Int32)), .val (.int (2 : Int32)), .val (.ref en2)]) rfl ?_
    show Steps p.tables e below (T5.setTop (mkF m 19 #[.val (.int p0), .val (.ref al), .val (.int (11 : Int32)), .val (.int (2 : Int32)), .val (.ref en2)] [])) _
    refine XS.aload X5.here hx rfl (hb hby d1_19) rfl rfl ?_
    exact k
  obtain ⟨T7, X7, e7, st7⟩ := getF X5 hx hZ hown (host := "") (Or.inl (hw _ (List.mem_of_getElem? (i := 8) rfl))) Via.refl e5 F_en2_status (g := (mkF m 21 #[.val (.int p0), .val (.ref al), .val (.int (11 : Int32)), .val (.int (2 : Int32)), .val (.ref en2)] [(.ref en2)])) rfl rfl (hb hby d1_21)
  have pre8 : ∀ t, Steps p.tables e below (T7.setTop (mkF m 21 #[.val (.int p0), .val (.ref al), .val (.int (11 : Int32)), .val (.int (3 : Int32)), .val (.ref en3)] [(.ref en3)])) t → Steps p.tables e below (s₁.setTop (entryFrame m #[(.int p0)] 5)) t := by
    intro t k
    refine pre6 t ?_
    show Steps p.tables e below (T5.setTop (mkF m 21 #[.val (.int p0), .val (.ref al), .val (.int (11 : Int32)), .val (.int (2 : Int32)), .val (.ref en2)] [(.ref en2)])) _
    refine st7 _ ?_
    show Steps p.tables e below (T7.setTop (mkF m 24 #[.val (.int p0), .val (.ref al), .val (.int (11 : Int32)), .val (.int (2 : Int32)), .val (.ref en2)] [(.int (0 : Int32))])) _
    refine XS.iloadN X7.here hx rfl (hb hby d1_24) rfl  ?_
    show Steps p.tables e below (T7.setTop (mkF m 25 #[.val (.int p0), .val (.ref al), .val (.int (11 : Int32)), .val (.int (2 : Int32)), .val (.ref en2)] [(.int p0), (.int (0 : Int32))])) _
    refine XS.icmpYes X7.here hx rfl (pc0 := 25) (pc' := 31) rfl (hb hby d1_25) rfl (feq ((by rw [hs]; first | done | decide) : ¬ ((0 : Int32) = p0))).2 (by decide) (by decide) ?_
    show Steps p.tables e below (T7.setTop (mkF m 31 #[.val (.int p0), .val (.ref al), .val (.int (11 : Int32)), .val (.int (2 : Int32)), .val (.ref en2)] [])) _
    refine XS.iinc X7.here hx rfl (hb hby d1_31) rfl (l' := #[.val (.int p0), .val (.ref al), .val (.int (11 : Int32)), .val (.int (3 : Int32)), .val (.ref en2)]) rfl ?_
    show Steps p.tables e below (T7.setTop (mkF m 34 #[.val (.int p0), .val (.ref al), .val (.int (11 : Int32)), .val (.int (3 : Int32)), .val (.ref en2)] [])) _
    refine XS.goto X7.here hx rfl (pc0 := 34) (pc' := 9) rfl (hb hby d1_34) (by decide) (by decide) ?_
    show Steps p.tables e below (T7.setTop (mkF m 9 #[.val (.int p0), .val (.ref al), .val (.int (11 : Int32)), .val (.int (3 : Int32)), .val (.ref en2)] [])) _
    refine XS.iloadN X7.here hx rfl (hb hby d1_9) rfl  ?_
    show Steps p.tables e below (T7.setTop (mkF m 10 #[.val (.int p0), .val (.ref al), .val (.int (11 : Int32)), .val (.int (3 : Int32)), .val (.ref en2)] [(.int (3 : Int32))])) _
    refine XS.iloadN X7.here hx rfl (hb hby d1_10) rfl  ?_
    show Steps p.tables e below (T7.setTop (mkF m 11 #[.val (.int p0), .val (.ref al), .val (.int (11 : Int32)), .val (.int (3 : Int32)), .val (.ref en2)] [(.int (11 : Int32)), (.int (3 : Int32))])) _
    refine XS.icmpNo X7.here hx rfl (hb hby d1_11) rfl (tlt (by decide : (3 : Int32) < (11 : Int32))).2.1 ?_
    show Steps p.tables e below (T7.setTop (mkF m 14 #[.val (.int p0), .val (.ref al), .val (.int (11 : Int32)), .val (.int (3 : Int32)), .val (.ref en2)] [])) _
    refine XS.aloadN X7.here hx rfl (hb hby d1_14) rfl rfl ?_
    show Steps p.tables e below (T7.setTop (mkF m 15 #[.val (.int p0), .val (.ref al), .val (.int (11 : Int32)), .val (.int (3 : Int32)), .val (.ref en2)] [(.ref al)])) _
    refine XS.iloadN X7.here hx rfl (hb hby d1_15) rfl  ?_
    show Steps p.tables e below (T7.setTop (mkF m 16 #[.val (.int p0), .val (.ref al), .val (.int (11 : Int32)), .val (.int (3 : Int32)), .val (.ref en2)] [(.int (3 : Int32)), (.ref al)])) _
    refine own_ldR X7 hx hZ e7 A_al rfl (j := (3 : Int32)) (k := 3) (v := .ref en3) rfl (by decide) (by decide) (by decide) (g := (mkF m 16 #[.val (.int p0), .val (.ref al), .val (.int (11 : Int32)), .val (.int (3 : Int32)), .val (.ref en2)] [(.int (3 : Int32)), (.ref al)])) rfl rfl (hb hby d1_16) ?_
    show Steps p.tables e below (T7.setTop (mkF m 17 #[.val (.int p0), .val (.ref al), .val (.int (11 : Int32)), .val (.int (3 : Int32)), .val (.ref en2)] [(.ref en3)])) _
    refine XS.astore X7.here hx rfl (hb hby d1_17) rfl rfl (l' := #[.val (.int p0), .val (.ref al), .val (.int (11 : Int32)), .val (.int (3 : Int32)), .val (.ref en3)]) rfl ?_
    show Steps p.tables e below (T7.setTop (mkF m 19 #[.val (.int p0), .val (.ref al), .val (.int (11 : Int32)), .val (.int (3 : Int32)), .val (.ref en3)] [])) _
    refine XS.aload X7.here hx rfl (hb hby d1_19) rfl rfl ?_
    exact k
  obtain ⟨T9, X9, e9, st9⟩ := getF X7 hx hZ hown (host := "") (Or.inl (hw _ (List.mem_of_getElem? (i := 8) rfl))) Via.refl e7 F_en3_status (g := (mkF m 21 #[.val (.int p0), .val (.ref al), .val (.int (11 : Int32)), .val (.int (3 : Int32)), .val (.ref en3)] [(.ref en3)])) rfl rfl (hb hby d1_21)
  have pre10 : ∀ t, Steps p.tables e below (T9.setTop (mkF m 21 #[.val (.int p0), .val (.ref al), .val (.int (11 : Int32)), .val (.int (4 : Int32)), .val (.ref en4)] [(.ref en4)])) t → Steps p.tables e below (s₁.setTop (entryFrame m #[(.int p0)] 5)) t := by
    intro t k
    refine pre8 t ?_
    show Steps p.tables e below (T7.setTop (mkF m 21 #[.val (.int p0), .val (.ref al), .val (.int (11 : Int32)), .val (.int (3 : Int32)), .val (.ref en3)] [(.ref en3)])) _
    refine st9 _ ?_
    show Steps p.tables e below (T9.setTop (mkF m 24 #[.val (.int p0), .val (.ref al), .val (.int (11 : Int32)), .val (.int (3 : Int32)), .val (.ref en3)] [(.int (500 : Int32))])) _
    refine XS.iloadN X9.here hx rfl (hb hby d1_24) rfl  ?_
    show Steps p.tables e below (T9.setTop (mkF m 25 #[.val (.int p0), .val (.ref al), .val (.int (11 : Int32)), .val (.int (3 : Int32)), .val (.ref en3)] [(.int p0), (.int (500 : Int32))])) _
    refine XS.icmpYes X9.here hx rfl (pc0 := 25) (pc' := 31) rfl (hb hby d1_25) rfl (feq ((by rw [hs]; first | done | decide) : ¬ ((500 : Int32) = p0))).2 (by decide) (by decide) ?_
    show Steps p.tables e below (T9.setTop (mkF m 31 #[.val (.int p0), .val (.ref al), .val (.int (11 : Int32)), .val (.int (3 : Int32)), .val (.ref en3)] [])) _
    refine XS.iinc X9.here hx rfl (hb hby d1_31) rfl (l' := #[.val (.int p0), .val (.ref al), .val (.int (11 : Int32)), .val (.int (4 : Int32)), .val (.ref en3)]) rfl ?_
    show Steps p.tables e below (T9.setTop (mkF m 34 #[.val (.int p0), .val (.ref al), .val (.int (11 : Int32)), .val (.int (4 : Int32)), .val (.ref en3)] [])) _
    refine XS.goto X9.here hx rfl (pc0 := 34) (pc' := 9) rfl (hb hby d1_34) (by decide) (by decide) ?_
    show Steps p.tables e below (T9.setTop (mkF m 9 #[.val (.int p0), .val (.ref al), .val (.int (11 : Int32)), .val (.int (4 : Int32)), .val (.ref en3)] [])) _
    refine XS.iloadN X9.here hx rfl (hb hby d1_9) rfl  ?_
    show Steps p.tables e below (T9.setTop (mkF m 10 #[.val (.int p0), .val (.ref al), .val (.int (11 : Int32)), .val (.int (4 : Int32)), .val (.ref en3)] [(.int (4 : Int32))])) _
    refine XS.iloadN X9.here hx rfl (hb hby d1_10) rfl  ?_
    show Steps p.tables e below (T9.setTop (mkF m 11 #[.val (.int p0), .val (.ref al), .val (.int (11 : Int32)), .val (.int (4 : Int32)), .val (.ref en3)] [(.int (11 : Int32)), (.int (4 : Int32))])) _
    refine XS.icmpNo X9.here hx rfl (hb hby d1_11) rfl (tlt (by decide : (4 : Int32) < (11 : Int32))).2.1 ?_
    show Steps p.tables e below (T9.setTop (mkF m 14 #[.val (.int p0), .val (.ref al), .val (.int (11 : Int32)), .val (.int (4 : Int32)), .val (.ref en3)] [])) _
    refine XS.aloadN X9.here hx rfl (hb hby d1_14) rfl rfl ?_
    show Steps p.tables e below (T9.setTop (mkF m 15 #[.val (.int p0), .val (.ref al), .val (.int (11 : Int32)), .val (.int (4 : Int32)), .val (.ref en3)] [(.ref al)])) _
    refine XS.iloadN X9.here hx rfl (hb hby d1_15) rfl  ?_
    show Steps p.tables e below (T9.setTop (mkF m 16 #[.val (.int p0), .val (.ref al), .val (.int (11 : Int32)), .val (.int (4 : Int32)), .val (.ref en3)] [(.int (4 : Int32)), (.ref al)])) _
    refine own_ldR X9 hx hZ e9 A_al rfl (j := (4 : Int32)) (k := 4) (v := .ref en4) rfl (by decide) (by decide) (by decide) (g := (mkF m 16 #[.val (.int p0), .val (.ref al), .val (.int (11 : Int32)), .val (.int (4 : Int32)), .val (.ref en3)] [(.int (4 : Int32)), (.ref al)])) rfl rfl (hb hby d1_16) ?_
    show Steps p.tables e below (T9.setTop (mkF m 17 #[.val (.int p0), .val (.ref al), .val (.int (11 : Int32)), .val (.int (4 : Int32)), .val (.ref en3)] [(.ref en4)])) _
    refine XS.astore X9.here hx rfl (hb hby d1_17) rfl rfl (l' := #[.val (.int p0), .val (.ref al), .val (.int (11 : Int32)), .val (.int (4 : Int32)), .val (.ref en4)]) rfl ?_
    show Steps p.tables e below (T9.setTop (mkF m 19 #[.val (.int p0), .val (.ref al), .val (.int (11 : Int32)), .val (.int (4 : Int32)), .val (.ref en4)] [])) _
    refine XS.aload X9.here hx rfl (hb hby d1_19) rfl rfl ?_
    exact k
  obtain ⟨T11, X11, e11, st11⟩ := getF X9 hx hZ hown (host := "") (Or.inl (hw _ (List.mem_of_getElem? (i := 8) rfl))) Via.refl e9 F_en4_status (g := (mkF m 21 #[.val (.int p0), .val (.ref al), .val (.int (11 : Int32)), .val (.int (4 : Int32)), .val (.ref en4)] [(.ref en4)])) rfl rfl (hb hby d1_21)
  have pre12 : ∀ t, Steps p.tables e below (T11.setTop (mkF m 21 #[.val (.int p0), .val (.ref al), .val (.int (11 : Int32)), .val (.int (5 : Int32)), .val (.ref en5)] [(.ref en5)])) t → Steps p.tables e below (s₁.setTop (entryFrame m #[(.int p0)] 5)) t := by
    intro t k
    refine pre10 t ?_
    show Steps p.tables e below (T9.setTop (mkF m 21 #[.val (.int p0), .val (.ref al), .val (.int (11 : Int32)), .val (.int (4 : Int32)), .val (.ref en4)] [(.ref en4)])) _
    refine st11 _ ?_
    show Steps p.tables e below (T11.setTop (mkF m 24 #[.val (.int p0), .val (.ref al), .val (.int (11 : Int32)), .val (.int (4 : Int32)), .val (.ref en4)] [(.int (502 : Int32))])) _
    refine XS.iloadN X11.here hx rfl (hb hby d1_24) rfl  ?_
    show Steps p.tables e below (T11.setTop (mkF m 25 #[.val (.int p0), .val (.ref al), .val (.int (11 : Int32)), .val (.int (4 : Int32)), .val (.ref en4)] [(.int p0), (.int (502 : Int32))])) _
    refine XS.icmpYes X11.here hx rfl (pc0 := 25) (pc' := 31) rfl (hb hby d1_25) rfl (feq ((by rw [hs]; first | done | decide) : ¬ ((502 : Int32) = p0))).2 (by decide) (by decide) ?_
    show Steps p.tables e below (T11.setTop (mkF m 31 #[.val (.int p0), .val (.ref al), .val (.int (11 : Int32)), .val (.int (4 : Int32)), .val (.ref en4)] [])) _
    refine XS.iinc X11.here hx rfl (hb hby d1_31) rfl (l' := #[.val (.int p0), .val (.ref al), .val (.int (11 : Int32)), .val (.int (5 : Int32)), .val (.ref en4)]) rfl ?_
    show Steps p.tables e below (T11.setTop (mkF m 34 #[.val (.int p0), .val (.ref al), .val (.int (11 : Int32)), .val (.int (5 : Int32)), .val (.ref en4)] [])) _
    refine XS.goto X11.here hx rfl (pc0 := 34) (pc' := 9) rfl (hb hby d1_34) (by decide) (by decide) ?_
    show Steps p.tables e below (T11.setTop (mkF m 9 #[.val (.int p0), .val (.ref al), .val (.int (11 : Int32)), .val (.int (5 : Int32)), .val (.ref en4)] [])) _
    refine XS.iloadN X11.here hx rfl (hb hby d1_9) rfl  ?_
    show Steps p.tables e below (T11.setTop (mkF m 10 #[.val (.int p0), .val (.ref al), .val (.int (11 : Int32)), .val (.int (5 : Int32)), .val (.ref en4)] [(.int (5 : Int32))])) _
    refine XS.iloadN X11.here hx rfl (hb hby d1_10) rfl  ?_
    show Steps p.tables e below (T11.setTop (mkF m 11 #[.val (.int p0), .val (.ref al), .val (.int (11 : Int32)), .val (.int (5 : Int32)), .val (.ref en4)] [(.int (11 : Int32)), (.int (5 : Int32))])) _
    refine XS.icmpNo X11.here hx rfl (hb hby d1_11) rfl (tlt (by decide : (5 : Int32) < (11 : Int32))).2.1 ?_
    show Steps p.tables e below (T11.setTop (mkF m 14 #[.val (.int p0), .val (.ref al), .val (.int (11 : Int32)), .val (.int (5 : Int32)), .val (.ref en4)] [])) _
    refine XS.aloadN X11.here hx rfl (hb hby d1_14) rfl rfl ?_
    show Steps p.tables e below (T11.setTop (mkF m 15 #[.val (.int p0), .val (.ref al), .val (.int (11 : Int32)), .val (.int (5 : Int32)), .val (.ref en4)] [(.ref al)])) _
    refine XS.iloadN X11.here hx rfl (hb hby d1_15) rfl  ?_
    show Steps p.tables e below (T11.setTop (mkF m 16 #[.val (.int p0), .val (.ref al), .val (.int (11 : Int32)), .val (.int (5 : Int32)), .val (.ref en4)] [(.int (5 : Int32)), (.ref al)])) _
    refine own_ldR X11 hx hZ e11 A_al rfl (j := (5 : Int32)) (k := 5) (v := .ref en5) rfl (by decide) (by decide) (by decide) (g := (mkF m 16 #[.val (.int p0), .val (.ref al), .val (.int (11 : Int32)), .val (.int (5 : Int32)), .val (.ref en4)] [(.int (5 : Int32)), (.ref al)])) rfl rfl (hb hby d1_16) ?_
    show Steps p.tables e below (T11.setTop (mkF m 17 #[.val (.int p0), .val (.ref al), .val (.int (11 : Int32)), .val (.int (5 : Int32)), .val (.ref en4)] [(.ref en5)])) _
    refine XS.astore X11.here hx rfl (hb hby d1_17) rfl rfl (l' := #[.val (.int p0), .val (.ref al), .val (.int (11 : Int32)), .val (.int (5 : Int32)), .val (.ref en5)]) rfl ?_
    show Steps p.tables e below (T11.setTop (mkF m 19 #[.val (.int p0), .val (.ref al), .val (.int (11 : Int32)), .val (.int (5 : Int32)), .val (.ref en5)] [])) _
    refine XS.aload X11.here hx rfl (hb hby d1_19) rfl rfl ?_
    exact k
  obtain ⟨T13, X13, e13, st13⟩ := getF X11 hx hZ hown (host := "") (Or.inl (hw _ (List.mem_of_getElem? (i := 8) rfl))) Via.refl e11 F_en5_status (g := (mkF m 21 #[.val (.int p0), .val (.ref al), .val (.int (11 : Int32)), .val (.int (5 : Int32)), .val (.ref en5)] [(.ref en5)])) rfl rfl (hb hby d1_21)
  have pre14 : ∀ t, Steps p.tables e below (T13.setTop (mkF m 21 #[.val (.int p0), .val (.ref al), .val (.int (11 : Int32)), .val (.int (6 : Int32)), .val (.ref en6)] [(.ref en6)])) t → Steps p.tables e below (s₁.setTop (entryFrame m #[(.int p0)] 5)) t := by
    intro t k
    refine pre12 t ?_
    show Steps p.tables e below (T11.setTop (mkF m 21 #[.val (.int p0), .val (.ref al), .val (.int (11 : Int32)), .val (.int (5 : Int32)), .val (.ref en5)] [(.ref en5)])) _
    refine st13 _ ?_
    show Steps p.tables e below (T13.setTop (mkF m 24 #[.val (.int p0), .val (.ref al), .val (.int (11 : Int32)), .val (.int (5 : Int32)), .val (.ref en5)] [(.int (503 : Int32))])) _
    refine XS.iloadN X13.here hx rfl (hb hby d1_24) rfl  ?_
    show Steps p.tables e below (T13.setTop (mkF m 25 #[.val (.int p0), .val (.ref al), .val (.int (11 : Int32)), .val (.int (5 : Int32)), .val (.ref en5)] [(.int p0), (.int (503 : Int32))])) _
    refine XS.icmpYes X13.here hx rfl (pc0 := 25) (pc' := 31) rfl (hb hby d1_25) rfl (feq ((by rw [hs]; first | done | decide) : ¬ ((503 : Int32) = p0))).2 (by decide) (by decide) ?_
    show Steps p.tables e below (T13.setTop (mkF m 31 #[.val (.int p0), .val (.ref al), .val (.int (11 : Int32)), .val (.int (5 : Int32)), .val (.ref en5)] [])) _
    refine XS.iinc X13.here hx rfl (hb hby d1_31) rfl (l' := #[.val (.int p0), .val (.ref al), .val (.int (11 : Int32)), .val (.int (6 : Int32)), .val (.ref en5)]) rfl ?_
    show Steps p.tables e below (T13.setTop (mkF m 34 #[.val (.int p0), .val (.ref al), .val (.int (11 : Int32)), .val (.int (6 : Int32)), .val (.ref en5)] [])) _
    refine XS.goto X13.here hx rfl (pc0 := 34) (pc' := 9) rfl (hb hby d1_34) (by decide) (by decide) ?_
    show Steps p.tables e below (T13.setTop (mkF m 9 #[.val (.int p0), .val (.ref al), .val (.int (11 : Int32)), .val (.int (6 : Int32)), .val (.ref en5)] [])) _
    refine XS.iloadN X13.here hx rfl (hb hby d1_9) rfl  ?_
    show Steps p.tables e below (T13.setTop (mkF m 10 #[.val (.int p0), .val (.ref al), .val (.int (11 : Int32)), .val (.int (6 : Int32)), .val (.ref en5)] [(.int (6 : Int32))])) _
    refine XS.iloadN X13.here hx rfl (hb hby d1_10) rfl  ?_
    show Steps p.tables e below (T13.setTop (mkF m 11 #[.val (.int p0), .val (.ref al), .val (.int (11 : Int32)), .val (.int (6 : Int32)), .val (.ref en5)] [(.int (11 : Int32)), (.int (6 : Int32))])) _
    refine XS.icmpNo X13.here hx rfl (hb hby d1_11) rfl (tlt (by decide : (6 : Int32) < (11 : Int32))).2.1 ?_
    show Steps p.tables e below (T13.setTop (mkF m 14 #[.val (.int p0), .val (.ref al), .val (.int (11 : Int32)), .val (.int (6 : Int32)), .val (.ref en5)] [])) _
    refine XS.aloadN X13.here hx rfl (hb hby d1_14) rfl rfl ?_
    show Steps p.tables e below (T13.setTop (mkF m 15 #[.val (.int p0), .val (.ref al), .val (.int (11 : Int32)), .val (.int (6 : Int32)), .val (.ref en5)] [(.ref al)])) _
    refine XS.iloadN X13.here hx rfl (hb hby d1_15) rfl  ?_
    show Steps p.tables e below (T13.setTop (mkF m 16 #[.val (.int p0), .val (.ref al), .val (.int (11 : Int32)), .val (.int (6 : Int32)), .val (.ref en5)] [(.int (6 : Int32)), (.ref al)])) _
    refine own_ldR X13 hx hZ e13 A_al rfl (j := (6 : Int32)) (k := 6) (v := .ref en6) rfl (by decide) (by decide) (by decide) (g := (mkF m 16 #[.val (.int p0), .val (.ref al), .val (.int (11 : Int32)), .val (.int (6 : Int32)), .val (.ref en5)] [(.int (6 : Int32)), (.ref al)])) rfl rfl (hb hby d1_16) ?_
    show Steps p.tables e below (T13.setTop (mkF m 17 #[.val (.int p0), .val (.ref al), .val (.int (11 : Int32)), .val (.int (6 : Int32)), .val (.ref en5)] [(.ref en6)])) _
    refine XS.astore X13.here hx rfl (hb hby d1_17) rfl rfl (l' := #[.val (.int p0), .val (.ref al), .val (.int (11 : Int32)), .val (.int (6 : Int32)), .val (.ref en6)]) rfl ?_
    show Steps p.tables e below (T13.setTop (mkF m 19 #[.val (.int p0), .val (.ref al), .val (.int (11 : Int32)), .val (.int (6 : Int32)), .val (.ref en6)] [])) _
    refine XS.aload X13.here hx rfl (hb hby d1_19) rfl rfl ?_
    exact k
  obtain ⟨T15, X15, e15, st15⟩ := getF X13 hx hZ hown (host := "") (Or.inl (hw _ (List.mem_of_getElem? (i := 8) rfl))) Via.refl e13 F_en6_status (g := (mkF m 21 #[.val (.int p0), .val (.ref al), .val (.int (11 : Int32)), .val (.int (6 : Int32)), .val (.ref en6)] [(.ref en6)])) rfl rfl (hb hby d1_21)
  have pre16 : ∀ t, Steps p.tables e below (T15.setTop (mkF m 21 #[.val (.int p0), .val (.ref al), .val (.int (11 : Int32)), .val (.int (7 : Int32)), .val (.ref en7)] [(.ref en7)])) t → Steps p.tables e below (s₁.setTop (entryFrame m #[(.int p0)] 5)) t := by
    intro t k
    refine pre14 t ?_
    show Steps p.tables e below (T13.setTop (mkF m 21 #[.val (.int p0), .val (.ref al), .val (.int (11 : Int32)), .val (.int (6 : Int32)), .val (.ref en6)] [(.ref en6)])) _
    refine st15 _ ?_
    show Steps p.tables e below (T15.setTop (mkF m 24 #[.val (.int p0), .val (.ref al), .val (.int (11 : Int32)), .val (.int (6 : Int32)), .val (.ref en6)] [(.int (504 : Int32))])) _
    refine XS.iloadN X15.here hx rfl (hb hby d1_24) rfl  ?_
    show Steps p.tables e below (T15.setTop (mkF m 25 #[.val (.int p0), .val (.ref al), .val (.int (11 : Int32)), .val (.int (6 : Int32)), .val (.ref en6)] [(.int p0), (.int (504 : Int32))])) _
    refine XS.icmpYes X15.here hx rfl (pc0 := 25) (pc' := 31) rfl (hb hby d1_25) rfl (feq ((by rw [hs]; first | done | decide) : ¬ ((504 : Int32) = p0))).2 (by decide) (by decide) ?_
    show Steps p.tables e below (T15.setTop (mkF m 31 #[.val (.int p0), .val (.ref al), .val (.int (11 : Int32)), .val (.int (6 : Int32)), .val (.ref en6)] [])) _
    refine XS.iinc X15.here hx rfl (hb hby d1_31) rfl (l' := #[.val (.int p0), .val (.ref al), .val (.int (11 : Int32)), .val (.int (7 : Int32)), .val (.ref en6)]) rfl ?_
    show Steps p.tables e below (T15.setTop (mkF m 34 #[.val (.int p0), .val (.ref al), .val (.int (11 : Int32)), .val (.int (7 : Int32)), .val (.ref en6)] [])) _
    refine XS.goto X15.here hx rfl (pc0 := 34) (pc' := 9) rfl (hb hby d1_34) (by decide) (by decide) ?_
    show Steps p.tables e below (T15.setTop (mkF m 9 #[.val (.int p0), .val (.ref al), .val (.int (11 : Int32)), .val (.int (7 : Int32)), .val (.ref en6)] [])) _
    refine XS.iloadN X15.here hx rfl (hb hby d1_9) rfl  ?_
    show Steps p.tables e below (T15.setTop (mkF m 10 #[.val (.int p0), .val (.ref al), .val (.int (11 : Int32)), .val (.int (7 : Int32)), .val (.ref en6)] [(.int (7 : Int32))])) _
    refine XS.iloadN X15.here hx rfl (hb hby d1_10) rfl  ?_
    show Steps p.tables e below (T15.setTop (mkF m 11 #[.val (.int p0), .val (.ref al), .val (.int (11 : Int32)), .val (.int (7 : Int32)), .val (.ref en6)] [(.int (11 : Int32)), (.int (7 : Int32))])) _
    refine XS.icmpNo X15.here hx rfl (hb hby d1_11) rfl (tlt (by decide : (7 : Int32) < (11 : Int32))).2.1 ?_
    show Steps p.tables e below (T15.setTop (mkF m 14 #[.val (.int p0), .val (.ref al), .val (.int (11 : Int32)), .val (.int (7 : Int32)), .val (.ref en6)] [])) _
    refine XS.aloadN X15.here hx rfl (hb hby d1_14) rfl rfl ?_
    show Steps p.tables e below (T15.setTop (mkF m 15 #[.val (.int p0), .val (.ref al), .val (.int (11 : Int32)), .val (.int (7 : Int32)), .val (.ref en6)] [(.ref al)])) _
    refine XS.iloadN X15.here hx rfl (hb hby d1_15) rfl  ?_
    show Steps p.tables e below (T15.setTop (mkF m 16 #[.val (.int p0), .val (.ref al), .val (.int (11 : Int32)), .val (.int (7 : Int32)), .val (.ref en6)] [(.int (7 : Int32)), (.ref al)])) _
    refine own_ldR X15 hx hZ e15 A_al rfl (j := (7 : Int32)) (k := 7) (v := .ref en7) rfl (by decide) (by decide) (by decide) (g := (mkF m 16 #[.val (.int p0), .val (.ref al), .val (.int (11 : Int32)), .val (.int (7 : Int32)), .val (.ref en6)] [(.int (7 : Int32)), (.ref al)])) rfl rfl (hb hby d1_16) ?_
    show Steps p.tables e below (T15.setTop (mkF m 17 #[.val (.int p0), .val (.ref al), .val (.int (11 : Int32)), .val (.int (7 : Int32)), .val (.ref en6)] [(.ref en7)])) _
    refine XS.astore X15.here hx rfl (hb hby d1_17) rfl rfl (l' := #[.val (.int p0), .val (.ref al), .val (.int (11 : Int32)), .val (.int (7 : Int32)), .val (.ref en7)]) rfl ?_
    show Steps p.tables e below (T15.setTop (mkF m 19 #[.val (.int p0), .val (.ref al), .val (.int (11 : Int32)), .val (.int (7 : Int32)), .val (.ref en7)] [])) _
    refine XS.aload X15.here hx rfl (hb hby d1_19) rfl rfl ?_
    exact k
  obtain ⟨T17, X17, e17, st17⟩ := getF X15 hx hZ hown (host := "") (Or.inl (hw _ (List.mem_of_getElem? (i := 8) rfl))) Via.refl e15 F_en7_status (g := (mkF m 21 #[.val (.int p0), .val (.ref al), .val (.int (11 : Int32)), .val (.int (7 : Int32)), .val (.ref en7)] [(.ref en7)])) rfl rfl (hb hby d1_21)
  have pre18 : ∀ t, Steps p.tables e below (T17.setTop (mkF m 21 #[.val (.int p0), .val (.ref al), .val (.int (11 : Int32)), .val (.int (8 : Int32)), .val (.ref en8)] [(.ref en8)])) t → Steps p.tables e below (s₁.setTop (entryFrame m #[(.int p0)] 5)) t := by
    intro t k
    refine pre16 t ?_
    show Steps p.tables e below (T15.setTop (mkF m 21 #[.val (.int p0), .val (.ref al), .val (.int (11 : Int32)), .val (.int (7 : Int32)), .val (.ref en7)] [(.ref en7)])) _
    refine st17 _ ?_
    show Steps p.tables e below (T17.setTop (mkF m 24 #[.val (.int p0), .val (.ref al), .val (.int (11 : Int32)), .val (.int (7 : Int32)), .val (.ref en7)] [(.int (403 : Int32))])) _
    refine XS.iloadN X17.here hx rfl (hb hby d1_24) rfl  ?_
    show Steps p.tables e below (T17.setTop (mkF m 25 #[.val (.int p0), .val (.ref al), .val (.int (11 : Int32)), .val (.int (7 : Int32)), .val (.ref en7)] [(.int p0), (.int (403 : Int32))])) _
    refine XS.icmpYes X17.here hx rfl (pc0 := 25) (pc' := 31) rfl (hb hby d1_25) rfl (feq ((by rw [hs]; first | done | decide) : ¬ ((403 : Int32) = p0))).2 (by decide) (by decide) ?_
    show Steps p.tables e below (T17.setTop (mkF m 31 #[.val (.int p0), .val (.ref al), .val (.int (11 : Int32)), .val (.int (7 : Int32)), .val (.ref en7)] [])) _
    refine XS.iinc X17.here hx rfl (hb hby d1_31) rfl (l' := #[.val (.int p0), .val (.ref al), .val (.int (11 : Int32)), .val (.int (8 : Int32)), .val (.ref en7)]) rfl ?_
    show Steps p.tables e below (T17.setTop (mkF m 34 #[.val (.int p0), .val (.ref al), .val (.int (11 : Int32)), .val (.int (8 : Int32)), .val (.ref en7)] [])) _
    refine XS.goto X17.here hx rfl (pc0 := 34) (pc' := 9) rfl (hb hby d1_34) (by decide) (by decide) ?_
    show Steps p.tables e below (T17.setTop (mkF m 9 #[.val (.int p0), .val (.ref al), .val (.int (11 : Int32)), .val (.int (8 : Int32)), .val (.ref en7)] [])) _
    refine XS.iloadN X17.here hx rfl (hb hby d1_9) rfl  ?_
    show Steps p.tables e below (T17.setTop (mkF m 10 #[.val (.int p0), .val (.ref al), .val (.int (11 : Int32)), .val (.int (8 : Int32)), .val (.ref en7)] [(.int (8 : Int32))])) _
    refine XS.iloadN X17.here hx rfl (hb hby d1_10) rfl  ?_
    show Steps p.tables e below (T17.setTop (mkF m 11 #[.val (.int p0), .val (.ref al), .val (.int (11 : Int32)), .val (.int (8 : Int32)), .val (.ref en7)] [(.int (11 : Int32)), (.int (8 : Int32))])) _
    refine XS.icmpNo X17.here hx rfl (hb hby d1_11) rfl (tlt (by decide : (8 : Int32) < (11 : Int32))).2.1 ?_
    show Steps p.tables e below (T17.setTop (mkF m 14 #[.val (.int p0), .val (.ref al), .val (.int (11 : Int32)), .val (.int (8 : Int32)), .val (.ref en7)] [])) _
    refine XS.aloadN X17.here hx rfl (hb hby d1_14) rfl rfl ?_
    show Steps p.tables e below (T17.setTop (mkF m 15 #[.val (.int p0), .val (.ref al), .val (.int (11 : Int32)), .val (.int (8 : Int32)), .val (.ref en7)] [(.ref al)])) _
    refine XS.iloadN X17.here hx rfl (hb hby d1_15) rfl  ?_
    show Steps p.tables e below (T17.setTop (mkF m 16 #[.val (.int p0), .val (.ref al), .val (.int (11 : Int32)), .val (.int (8 : Int32)), .val (.ref en7)] [(.int (8 : Int32)), (.ref al)])) _
    refine own_ldR X17 hx hZ e17 A_al rfl (j := (8 : Int32)) (k := 8) (v := .ref en8) rfl (by decide) (by decide) (by decide) (g := (mkF m 16 #[.val (.int p0), .val (.ref al), .val (.int (11 : Int32)), .val (.int (8 : Int32)), .val (.ref en7)] [(.int (8 : Int32)), (.ref al)])) rfl rfl (hb hby d1_16) ?_
    show Steps p.tables e below (T17.setTop (mkF m 17 #[.val (.int p0), .val (.ref al), .val (.int (11 : Int32)), .val (.int (8 : Int32)), .val (.ref en7)] [(.ref en8)])) _
    refine XS.astore X17.here hx rfl (hb hby d1_17) rfl rfl (l' := #[.val (.int p0), .val (.ref al), .val (.int (11 : Int32)), .val (.int (8 : Int32)), .val (.ref en8)]) rfl ?_
    show Steps p.tables e below (T17.setTop (mkF m 19 #[.val (.int p0), .val (.ref al), .val (.int (11 : Int32)), .val (.int (8 : Int32)), .val (.ref en8)] [])) _
    refine XS.aload X17.here hx rfl (hb hby d1_19) rfl rfl ?_
    exact k
  obtain ⟨T19, X19, e19, st19⟩ := getF X17 hx hZ hown (host := "") (Or.inl (hw _ (List.mem_of_getElem? (i := 8) rfl))) Via.refl e17 F_en8_status (g := (mkF m 21 #[.val (.int p0), .val (.ref al), .val (.int (11 : Int32)), .val (.int (8 : Int32)), .val (.ref en8)] [(.ref en8)])) rfl rfl (hb hby d1_21)
  obtain ⟨fs, hr, hrun, hended, hW, hsame⟩ := X19.leave (v := some (.ref en8)) (fun h => by rw [Bd.returns] at h; cases h) (BodyLoose.notSynchronized Bd)
  refine ⟨_, _, pre18 _ ?_, hrun, hended, _, _, rfl, ?_, ⟨_, rfl⟩, hW, hsame.mono (by decide) (by decide)⟩
  · show Steps p.tables e below (T17.setTop (mkF m 21 #[.val (.int p0), .val (.ref al), .val (.int (11 : Int32)), .val (.int (8 : Int32)), .val (.ref en8)] [(.ref en8)])) _
    refine st19 _ ?_
    show Steps p.tables e below (T19.setTop (mkF m 24 #[.val (.int p0), .val (.ref al), .val (.int (11 : Int32)), .val (.int (8 : Int32)), .val (.ref en8)] [(.int (404 : Int32))])) _
    refine XS.iloadN X19.here hx rfl (hb hby d1_24) rfl  ?_
    show Steps p.tables e below (T19.setTop (mkF m 25 #[.val (.int p0), .val (.ref al), .val (.int (11 : Int32)), .val (.int (8 : Int32)), .val (.ref en8)] [(.int p0), (.int (404 : Int32))])) _
    refine XS.icmpNo X19.here hx rfl (hb hby d1_25) rfl (teq ((by rw [hs]; first | done | decide) : (404 : Int32) = p0)).2 ?_
    show Steps p.tables e below (T19.setTop (mkF m 28 #[.val (.int p0), .val (.ref al), .val (.int (11 : Int32)), .val (.int (8 : Int32)), .val (.ref en8)] [])) _
    refine XS.aload X19.here hx rfl (hb hby d1_28) rfl rfl ?_
    show Steps p.tables e below (T19.setTop (mkF m 30 #[.val (.int p0), .val (.ref al), .val (.int (11 : Int32)), .val (.int (8 : Int32)), .val (.ref en8)] [(.ref en8)])) _
    exact retOut X19 hx Bd.returns rfl (Or.inr (Or.inr (Or.inr (Or.inr ⟨rfl, rfl, rfl⟩)))) (hb hby d1_30) hr
  · show Q_1t404 Z p0 en0 en1 en2 en3 en4 en5 en6 en7 en8 en9 en10 al h0 n0 _ T19.heap _
    rw [e19]
    exact ⟨rfl, N0, rfl⟩
theorem d2_11 : decode method_3_code 11 = .ok (.iload_n 0, 1) := by decide +kernel
theorem d2_12 : decode method_3_code 12 = .ok (.sipush 404, 3) := by decide +kernel
theorem d2_15 : decode method_3_code 15 = .ok (.if_icmp .ne 7, 3) := by decide +kernel
theorem d2_18 : decode method_3_code 18 = .ok (.getstatic 23, 3) := by decide +kernel
theorem d2_21 : decode method_3_code 21 = .ok (.areturn, 1) := by decide +kernel
theorem ef_2t404 (m : MethodId) (p0 : Int32) : entryFrame m #[(.int p0)] 1 = mkF m 0 #[.val (.int p0)] [] := by first | (simp [entryFrame, mkF, argsToLocals, Value.category]; done) | rfl
def Q_2t404 (Z : State) (p0 : Int32) (en0 : Addr) (en1 : Addr) (en2 : Addr) (en3 : Addr) (en4 : Addr) (en5 : Addr) (en6 : Addr) (en7 : Addr) (en8 : Addr) (en9 : Addr) (en10 : Addr) (h0 : Heap) (n0 : Nat) (v : Option Value) (h : Heap) (L : List Loc) : Prop := v = some (.ref en8) ∧ Fr n0 L ∧ h = h0
set_option maxRecDepth 65536 in
set_option maxHeartbeats 40000000 in
theorem rm_2t404 (l : Launch) (Z : State) (a0 : Array Value) (hw : ∀ d ∈ tables_1, d.before a0 Z = true) (ws : List Jvm.Cond) (p0 : Int32) (en0 : Addr) (en1 : Addr) (en2 : Addr) (en3 : Addr) (en4 : Addr) (en5 : Addr) (en6 : Addr) (en7 : Addr) (en8 : Addr) (en9 : Addr) (en10 : Addr) (h0 : Heap) (n0 : Nat) (Z0 : n0 ≤ h0.size) (S_ERROR : Sta Z h0 "com/example/fanoutd/fanoutd/proxy/NextUpstream$Condition" "ERROR" "Lcom/example/fanoutd/fanoutd/proxy/NextUpstream$Condition;" (.ref en0)) (S_TIMEOUT : Sta Z h0 "com/example/fanoutd/fanoutd/proxy/NextUpstream$Condition" "TIMEOUT" "Lcom/example/fanoutd/fanoutd/proxy/NextUpstream$Condition;" (.ref en1)) (S_INVALID_HEADER : Sta Z h0 "com/example/fanoutd/fanoutd/proxy/NextUpstream$Condition" "INVALID_HEADER" "Lcom/example/fanoutd/fanoutd/proxy/NextUpstream$Condition;" (.ref en2)) (S_HTTP_500 : Sta Z h0 "com/example/fanoutd/fanoutd/proxy/NextUpstream$Condition" "HTTP_500" "Lcom/example/fanoutd/fanoutd/proxy/NextUpstream$Condition;" (.ref en3)) (S_HTTP_502 : Sta Z h0 "com/example/fanoutd/fanoutd/proxy/NextUpstream$Condition" "HTTP_502" "Lcom/example/fanoutd/fanoutd/proxy/NextUpstream$Condition;" (.ref en4)) (S_HTTP_503 : Sta Z h0 "com/example/fanoutd/fanoutd/proxy/NextUpstream$Condition" "HTTP_503" "Lcom/example/fanoutd/fanoutd/proxy/NextUpstream$Condition;" (.ref en5)) (S_HTTP_504 : Sta Z h0 "com/example/fanoutd/fanoutd/proxy/NextUpstream$Condition" "HTTP_504" "Lcom/example/fanoutd/fanoutd/proxy/NextUpstream$Condition;" (.ref en6)) (S_HTTP_403 : Sta Z h0 "com/example/fanoutd/fanoutd/proxy/NextUpstream$Condition" "HTTP_403" "Lcom/example/fanoutd/fanoutd/proxy/NextUpstream$Condition;" (.ref en7)) (S_HTTP_404 : Sta Z h0 "com/example/fanoutd/fanoutd/proxy/NextUpstream$Condition" "HTTP_404" "Lcom/example/fanoutd/fanoutd/proxy/NextUpstream$Condition;" (.ref en8)) (S_HTTP_429 : Sta Z h0 "com/example/fanoutd/fanoutd/proxy/NextUpstream$Condition" "HTTP_429" "Lcom/example/fanoutd/fanoutd/proxy/NextUpstream$Condition;" (.ref en9)) (S_NON_IDEMPOTENT : Sta Z h0 "com/example/fanoutd/fanoutd/proxy/NextUpstream$Condition" "NON_IDEMPOTENT" "Lcom/example/fanoutd/fanoutd/proxy/NextUpstream$Condition;" (.ref en10)) (hs : p0 = (404 : Int32)) :
    MetFree l (⟨"com/example/fanoutd/fanoutd/proxy/ConditionOfStatusPinLaw", "expected", "(I)Lcom/example/fanoutd/fanoutd/proxy/NextUpstream$Condition;"⟩ : MethodName) (head1 (Jvm.Cond.code (⟨"com/example/fanoutd/fanoutd/proxy/ConditionOfStatusPinLaw", "expected", "(I)Lcom/example/fanoutd/fanoutd/proxy/NextUpstream$Condition;"⟩ : MethodName) method_3_code 1 (some (.object "com/example/fanoutd/fanoutd/proxy/NextUpstream$Condition")) :: ws) ({ frames := 0, cells := 0, slots := 0, locals := 0 } : Room)) (fun a U => a = #[(.int p0)] ∧ Z.Warmed39 U.vm ∧ U.heap = h0) (fun _ _ _ _ _ => True) (fun _ U o U' => ∃ v L, o = .returned v ∧ Q_2t404 Z p0 en0 en1 en2 en3 en4 en5 en6 en7 en8 en9 en10 h0 n0 v U'.heap L ∧ FrameEnd U o U' L ({ frames := 0, cells := 0, slots := 0, locals := 0 } : Room).cells ({ frames := 0, cells := 0, slots := 0, locals := 0 } : Room).slots) := by
  refine MetFree.of_bodySF (plainFor_of_name pn_2) hisR ?_
  intro p e s m args below meth c s₁ Bd hml0 hP hK
  obtain ⟨rfl, hZ, hh⟩ := hP
  have hx := Bd.exec
  have hby := Bd.bytes
  have hml : c.maxLocals = 1 := hml0
  have hown : s.vm.findClass "com/example/fanoutd/fanoutd/proxy/ConditionOfStatusPinLaw" = some m.cls := findClass_of_methodNamed Bd.named
  have hnm := (name_of_methodNamed Bd.named Bd.method).1
  have X0 : Stand p l e ({ frames := 0, cells := 0, slots := 0, locals := 0 } : Room) s m #[(.int p0)] below meth c s₁ [] 0 0 := Stand.of_body Bd
  have e0 : s₁.heap = h0 := by rw [← hh, Bd.state]; rfl
  have N0 := Fr.nil n0
  have K0 : Keep h0 h0 [] := Keep.refl h0 _
  have pre0 : ∀ t, Steps p.tables e below (s₁.setTop (mkF m 0 #[.val (.int p0)] [])) t → Steps p.tables e below (s₁.setTop (entryFrame m #[(.int p0)] 1)) t := fun t k => castTop (ef_2t404 m p0) k
  have pre1 : ∀ t, Steps p.tables e below (s₁.setTop (mkF m 18 #[.val (.int p0)] [])) t → Steps p.tables e below (s₁.setTop (entryFrame m #[(.int p0)] 1)) t := by
    intro t k
    refine pre0 t ?_
    show Steps p.tables e below (s₁.setTop (mkF m 0 #[.val (.int p0)] [])) _
    refine XS.iloadN X0.here hx rfl (hb hby d2_0) rfl  ?_
    show Steps p.tables e below (s₁.setTop (mkF m 1 #[.val (.int p0)] [(.int p0)])) _
    refine XS.sipush X0.here hx rfl (hb hby d2_1) ?_
    show Steps p.tables e below (s₁.setTop (mkF m 4 #[.val (.int p0)] [(.int (403 : Int32)), (.int p0)])) _
    refine XS.icmpYes X0.here hx rfl (pc0 := 4) (pc' := 11) rfl (hb hby d2_4) rfl (feq ((by rw [hs]; first | done | decide) : ¬ (p0 = (403 : Int32)))).2 (by decide) (by decide) ?_
    show Steps p.tables e below (s₁.setTop (mkF m 11 #[.val (.int p0)] [])) _
    refine XS.iloadN X0.here hx rfl (hb hby d2_11) rfl  ?_
    show Steps p.tables e below (s₁.setTop (mkF m 12 #[.val (.int p0)] [(.int p0)])) _
    refine XS.sipush X0.here hx rfl (hb hby d2_12) ?_
    show Steps p.tables e below (s₁.setTop (mkF m 15 #[.val (.int p0)] [(.int (404 : Int32)), (.int p0)])) _
    refine XS.icmpNo X0.here hx rfl (hb hby d2_15) rfl (teq ((by rw [hs]; first | done | decide) : p0 = (404 : Int32))).2 ?_
    exact k
  obtain ⟨T2, X2, e2, st2⟩ := getS2 X0 hx hZ hown (host := "") (Or.inl (hw _ (List.mem_of_getElem? (i := 30) rfl))) Via.refl e0 S_HTTP_404 (g := (mkF m 18 #[.val (.int p0)] [])) rfl (hb hby d2_18)
  obtain ⟨fs, hr, hrun, hended, hW, hsame⟩ := X2.leave (v := some (.ref en8)) (fun h => by rw [Bd.returns] at h; cases h) (BodyLoose.notSynchronized Bd)
  refine ⟨_, _, pre1 _ ?_, hrun, hended, _, _, rfl, ?_, ⟨_, rfl⟩, hW, hsame.mono (by decide) (by decide)⟩
  · show Steps p.tables e below (s₁.setTop (mkF m 18 #[.val (.int p0)] [])) _
    refine st2 _ ?_
    show Steps p.tables e below (T2.setTop (mkF m 21 #[.val (.int p0)] [(.ref en8)])) _
    exact retOut X2 hx Bd.returns rfl (Or.inr (Or.inr (Or.inr (Or.inr ⟨rfl, rfl, rfl⟩)))) (hb hby d2_21) hr
  · show Q_2t404 Z p0 en0 en1 en2 en3 en4 en5 en6 en7 en8 en9 en10 h0 n0 _ T2.heap _
    rw [e2]
    exact ⟨rfl, N0, rfl⟩
theorem ef_1t429 (m : MethodId) (p0 : Int32) : entryFrame m #[(.int p0)] 5 = mkF m 0 #[.val (.int p0), .unset, .unset, .unset, .unset] [] := by first | (simp [entryFrame, mkF, argsToLocals, Value.category]; done) | rfl
def Q_1t429 (Z : State) (p0 : Int32) (en0 : Addr) (en1 : Addr) (en2 : Addr) (en3 : Addr) (en4 : Addr) (en5 : Addr) (en6 : Addr) (en7 : Addr) (en8 : Addr) (en9 : Addr) (en10 : Addr) (al : Addr) (h0 : Heap) (n0 : Nat) (v : Option Value) (h : Heap) (L : List Loc) : Prop := v = some (.ref en9) ∧ Fr n0 L ∧ h = h0
set_option maxRecDepth 65536 in
set_option maxHeartbeats 40000000 in
theorem rm_1t429 (l : Launch) (Z : State) (a0 : Array Value) (hw : ∀ d ∈ tables_1, d.before a0 Z = true) (ws : List Jvm.Cond) (p0 : Int32) (en0 : Addr) (en1 : Addr) (en2 : Addr) (en3 : Addr) (en4 : Addr) (en5 : Addr) (en6 : Addr) (en7 : Addr) (en8 : Addr) (en9 : Addr) (en10 : Addr) (al : Addr) (h0 : Heap) (n0 : Nat) (Z0 : n0 ≤ h0.size) (S_ERROR : Sta Z h0 "com/example/fanoutd/fanoutd/proxy/NextUpstream$Condition" "ERROR" "Lcom/example/fanoutd/fanoutd/proxy/NextUpstream$Condition;" (.ref en0)) (S_TIMEOUT : Sta Z h0 "com/example/fanoutd/fanoutd/proxy/NextUpstream$Condition" "TIMEOUT" "Lcom/example/fanoutd/fanoutd/proxy/NextUpstream$Condition;" (.ref en1)) (S_INVALID_HEADER : Sta Z h0 "com/example/fanoutd/fanoutd/proxy/NextUpstream$Condition" "INVALID_HEADER" "Lcom/example/fanoutd/fanoutd/proxy/NextUpstream$Condition;" (.ref en2)) (S_HTTP_500 : Sta Z h0 "com/example/fanoutd/fanoutd/proxy/NextUpstream$Condition" "HTTP_500" "Lcom/example/fanoutd/fanoutd/proxy/NextUpstream$Condition;" (.ref en3)) (S_HTTP_502 : Sta Z h0 "com/example/fanoutd/fanoutd/proxy/NextUpstream$Condition" "HTTP_502" "Lcom/example/fanoutd/fanoutd/proxy/NextUpstream$Condition;" (.ref en4)) (S_HTTP_503 : Sta Z h0 "com/example/fanoutd/fanoutd/proxy/NextUpstream$Condition" "HTTP_503" "Lcom/example/fanoutd/fanoutd/proxy/NextUpstream$Condition;" (.ref en5)) (S_HTTP_504 : Sta Z h0 "com/example/fanoutd/fanoutd/proxy/NextUpstream$Condition" "HTTP_504" "Lcom/example/fanoutd/fanoutd/proxy/NextUpstream$Condition;" (.ref en6)) (S_HTTP_403 : Sta Z h0 "com/example/fanoutd/fanoutd/proxy/NextUpstream$Condition" "HTTP_403" "Lcom/example/fanoutd/fanoutd/proxy/NextUpstream$Condition;" (.ref en7)) (S_HTTP_404 : Sta Z h0 "com/example/fanoutd/fanoutd/proxy/NextUpstream$Condition" "HTTP_404" "Lcom/example/fanoutd/fanoutd/proxy/NextUpstream$Condition;" (.ref en8)) (S_HTTP_429 : Sta Z h0 "com/example/fanoutd/fanoutd/proxy/NextUpstream$Condition" "HTTP_429" "Lcom/example/fanoutd/fanoutd/proxy/NextUpstream$Condition;" (.ref en9)) (S_NON_IDEMPOTENT : Sta Z h0 "com/example/fanoutd/fanoutd/proxy/NextUpstream$Condition" "NON_IDEMPOTENT" "Lcom/example/fanoutd/fanoutd/proxy/NextUpstream$Condition;" (.ref en10)) (S_ALL : Sta Z h0 "com/example/fanoutd/fanoutd/proxy/NextUpstream$Condition" "ALL" "[Lcom/example/fanoutd/fanoutd/proxy/NextUpstream$Condition;" (.ref al)) (A_al : own_A Z h0 al (.object "com/example/fanoutd/fanoutd/proxy/NextUpstream$Condition") 11 (fun i => (own_l en0 en1 en2 en3 en4 en5 en6 en7 en8 en9 en10) i)) (F_en0_status : Fld Z h0 en0 "com/example/fanoutd/fanoutd/proxy/NextUpstream$Condition" "status" "I" (.int (0 : Int32))) (F_en1_status : Fld Z h0 en1 "com/example/fanoutd/fanoutd/proxy/NextUpstream$Condition" "status" "I" (.int (0 : Int32))) (F_en2_status : Fld Z h0 en2 "com/example/fanoutd/fanoutd/proxy/NextUpstream$Condition" "status" "I" (.int (0 : Int32))) (F_en3_status : Fld Z h0 en3 "com/example/fanoutd/fanoutd/proxy/NextUpstream$Condition" "status" "I" (.int (500 : Int32))) (F_en4_status : Fld Z h0 en4 "com/example/fanoutd/fanoutd/proxy/NextUpstream$Condition" "status" "I" (.int (502 : Int32))) (F_en5_status : Fld Z h0 en5 "com/example/fanoutd/fanoutd/proxy/NextUpstream$Condition" "status" "I" (.int (503 : Int32))) (F_en6_status : Fld Z h0 en6 "com/example/fanoutd/fanoutd/proxy/NextUpstream$Condition" "status" "I" (.int (504 : Int32))) (F_en7_status : Fld Z h0 en7 "com/example/fanoutd/fanoutd/proxy/NextUpstream$Condition" "status" "I" (.int (403 : Int32))) (F_en8_status : Fld Z h0 en8 "com/example/fanoutd/fanoutd/proxy/NextUpstream$Condition" "status" "I" (.int (404 : Int32))) (F_en9_status : Fld Z h0 en9 "com/example/fanoutd/fanoutd/proxy/NextUpstream$Condition" "status" "I" (.int (429 : Int32))) (F_en10_status : Fld Z h0 en10 "com/example/fanoutd/fanoutd/proxy/NextUpstream$Condition" "status" "I" (.int (0 : Int32))) (hs : p0 = (429 : Int32)) :
    MetFree l (⟨"com/example/fanoutd/fanoutd/proxy/NextUpstream$Condition", "ofStatus", "(I)Lcom/example/fanoutd/fanoutd/proxy/NextUpstream$Condition;"⟩ : MethodName) (head1 (Jvm.Cond.code (⟨"com/example/fanoutd/fanoutd/proxy/NextUpstream$Condition", "ofStatus", "(I)Lcom/example/fanoutd/fanoutd/proxy/NextUpstream$Condition;"⟩ : MethodName) prog_62_method_7_code 5 (some (.object "com/example/fanoutd/fanoutd/proxy/NextUpstream$Condition")) :: ws) ({ frames := 0, cells := 0, slots := 0, locals := 0 } : Room)) (fun a U => a = #[(.int p0)] ∧ Z.Warmed39 U.vm ∧ U.heap = h0) (fun _ _ _ _ _ => True) (fun _ U o U' => ∃ v L, o = .returned v ∧ Q_1t429 Z p0 en0 en1 en2 en3 en4 en5 en6 en7 en8 en9 en10 al h0 n0 v U'.heap L ∧ FrameEnd U o U' L ({ frames := 0, cells := 0, slots := 0, locals := 0 } : Room).cells ({ frames := 0, cells := 0, slots := 0, locals := 0 } : Room).slots) := by
  refine MetFree.of_bodySF (plainFor_of_name pn_1) hisR ?_
  intro p e s m args below meth c s₁ Bd hml0 hP hK
  obtain ⟨rfl, hZ, hh⟩ := hP
  have hx := Bd.exec
  have hby := Bd.bytes
  have hml : c.maxLocals = 5 := hml0
  have hown : s.vm.findClass "com/example/fanoutd/fanoutd/proxy/NextUpstream$Condition" = some m.cls := findClass_of_methodNamed Bd.named
  have hnm := (name_of_methodNamed Bd.named Bd.method).1
  have X0 : Stand p l e ({ frames := 0, cells := 0, slots := 0, locals := 0 } : Room) s m #[(.int p0)] below meth c s₁ [] 0 0 := Stand.of_body Bd
  have e0 : s₁.heap = h0 := by rw [← hh, Bd.state]; rfl
  have N0 := Fr.nil n0
  have K0 : Keep h0 h0 [] := Keep.refl h0 _
  have pre0 : ∀ t, Steps p.tables e below (s₁.setTop (mkF m 0 #[.val (.int p0), .unset, .unset, .unset, .unset] [])) t → Steps p.tables e below (s₁.setTop (entryFrame m #[(.int p0)] 5)) t := fun t k => castTop (ef_1t429 m p0) k
  obtain ⟨T1, X1, e1, st1⟩ := getS2 X0 hx hZ hown (host := "") (Or.inl (hw _ (List.mem_of_getElem? (i := 5) rfl))) Via.refl e0 S_ALL (g := (mkF m 0 #[.val (.int p0), .unset, .unset, .unset, .unset] [])) rfl (hb hby d1_0)
  have pre2 : ∀ t, Steps p.tables e below (T1.setTop (mkF m 21 #[.val (.int p0), .val (.ref al), .val (.int (11 : Int32)), .val (.int (0 : Int32)), .val (.ref en0)] [(.ref en0)])) t → Steps p.tables e below (s₁.setTop (entryFrame m #[(.int p0)] 5)) t := by
    intro t k
    refine pre0 t ?_
    show Steps p.tables e below (s₁.setTop (mkF m 0 #[.val (.int p0), .unset, .unset, .unset, .unset] [])) _
    refine st1 _ ?_
    show Steps p.tables e below (T1.setTop (mkF m 3 #[.val (.int p0), .unset, .unset, .unset, .unset] [(.ref al)])) _
    refine XS.astoreN X1.here hx rfl (hb hby d1_3) rfl rfl (l' := #[.val (.int p0), .val (.ref al), .unset, .unset, .unset]) rfl ?_
    show Steps p.tables e below (T1.setTop (mkF m 4 #[.val (.int p0), .val (.ref al), .unset, .unset, .unset] [])) _
    refine XS.aloadN X1.here hx rfl (hb hby d1_4) rfl rfl ?_
    show Steps p.tables e below (T1.setTop (mkF m 5 #[.val (.int p0), .val (.ref al), .unset, .unset, .unset] [(.ref al)])) _
    refine own_len X1 hx hZ e1 A_al (z := (11 : Int32)) rfl (g := (mkF m 5 #[.val (.int p0), .val (.ref al), .unset, .unset, .unset] [(.ref al)])) rfl rfl (hb hby d1_5) ?_
    show Steps p.tables e below (T1.setTop (mkF m 6 #[.val (.int p0), .val (.ref al), .unset, .unset, .unset] [(.int (11 : Int32))])) _
    refine XS.istoreN X1.here hx rfl (hb hby d1_6) rfl (l' := #[.val (.int p0), .val (.ref al), .val (.int (11 : Int32)), .unset, .unset]) rfl ?_
    show Steps p.tables e below (T1.setTop (mkF m 7 #[.val (.int p0), .val (.ref al), .val (.int (11 : Int32)), .unset, .unset] [])) _
    refine XS.iconst X1.here hx rfl (hb hby d1_7) ?_
    show Steps p.tables e below (T1.setTop (mkF m 8 #[.val (.int p0), .val (.ref al), .val (.int (11 : Int32)), .unset, .unset] [(.int (0 : Int32))])) _
    refine XS.istoreN X1.here hx rfl (hb hby d1_8) rfl (l' := #[.val (.int p0), .val (.ref al), .val (.int (11 : Int32)), .val (.int (0 : Int32)), .unset]) rfl ?_
    show Steps p.tables e below (T1.setTop (mkF m 9 #[.val (.int p0), .val (.ref al), .val (.int (11 : Int32)), .val (.int (0 : Int32)), .unset] [])) _
    refine XS.iloadN X1.here hx rfl (hb hby d1_9) rfl  ?_
    show Steps p.tables e below (T1.setTop (mkF m 10 #[.val (.int p0), .val (.ref al), .val (.int (11 : Int32)), .val (.int (0 : Int32)), .unset] [(.int (0 : Int32))])) _
    refine XS.iloadN X1.here hx rfl (hb hby d1_10) rfl  ?_
    show Steps p.tables e below (T1.setTop (mkF m 11 #[.val (.int p0), .val (.ref al), .val (.int (11 : Int32)), .val (.int (0 : Int32)), .unset] [(.int (11 : Int32)), (.int (0 : Int32))])) _
    refine XS.icmpNo X1.here hx rfl (hb hby d1_11) rfl (tlt (by decide : (0 : Int32) < (11 : Int32))).2.1 ?_
    show Steps p.tables e below (T1.setTop (mkF m 14 #[.val (.int p0), .val (.ref al), .val (.int (11 : Int32)), .val (.int (0 : Int32)), .unset] [])) _
    refine XS.aloadN X1.here hx rfl (hb hby d1_14) rfl rfl ?_
    show Steps p.tables e below (T1.setTop (mkF m 15 #[.val (.int p0), .val (.ref al), .val (.int (11 : Int32)), .val (.int (0 : Int32)), .unset] [(.ref al)])) _
    refine XS.iloadN X1.here hx rfl (hb hby d1_15) rfl  ?_
    show Steps p.tables e below (T1.setTop (mkF m 16 #[.val (.int p0), .val (.ref al), .val (.int (11 : Int32)), .val (.int (0 : Int32)), .unset] [(.int (0 : Int32)), (.ref al)])) _
    refine own_ldR X1 hx hZ e1 A_al rfl (j := (0 : Int32)) (k := 0) (v := .ref en0) rfl (by decide) (by decide) (by decide) (g := (mkF m 16 #[.val (.int p0), .val (.ref al), .val (.int (11 : Int32)), .val (.int (0 : Int32)), .unset] [(.int (0 : Int32)), (.ref al)])) rfl rfl (hb hby d1_16) ?_
    show Steps p.tables e below (T1.setTop (mkF m 17 #[.val (.int p0), .val (.ref al), .val (.int (11 : Int32)), .val (.int (0 : Int32)), .unset] [(.ref en0)])) _
    refine XS.astore X1.here hx rfl (hb hby d1_17) rfl rfl (l' := #[.val (.int p0), .val (.ref al), .val (.int (11 : Int32)), .val (.int (0 : Int32)), .val (.ref en0)]) rfl ?_
    show Steps p.tables e below (T1.setTop (mkF m 19 #[.val (.int p0), .val (.ref al), .val (.int (11 : Int32)), .val (.int (0 : Int32)), .val (.ref en0)] [])) _
    refine XS.aload X1.here hx rfl (hb hby d1_19) rfl rfl ?_
    exact k
  obtain ⟨T3, X3, e3, st3⟩ := getF X1 hx hZ hown (host := "") (Or.inl (hw _ (List.mem_of_getElem? (i := 8) rfl))) Via.refl e1 F_en0_status (g := (mkF m 21 #[.val (.int p0), .val (.ref al), .val (.int (11 : Int32)), .val (.int (0 : Int32)), .val (.ref en0)] [(.ref en0)])) rfl rfl (hb hby d1_21)
  have pre4 : ∀ t, Steps p.tables e below (T3.setTop (mkF m 21 #[.val (.int p0), .val (.ref al), .val (.int (11 : Int32)), .val (.int (1 : Int32)), .val (.ref en1)] [(.ref en1)])) t → Steps p.tables e below (s₁.setTop (entryFrame m #[(.int p0)] 5)) t := by
    intro t k
    refine pre2 t ?_
    show Steps p.tables e below (T1.setTop (mkF m 21 #[.val (.int p0), .val (.ref al), .val (.int (11 : Int32)), .val (.int (0 : Int32)), .val (.ref en0)] [(.ref en0)])) _
    refine st3 _ ?_
    show Steps p.tables e below (T3.setTop (mkF m 24 #[.val (.int p0), .val (.ref al), .val (.int (11 : Int32)), .val (.int (0 : Int32)), .val (.ref en0)] [(.int (0 : Int32))])) _
    refine XS.iloadN X3.here hx rfl (hb hby d1_24) rfl  ?_
    show Steps p.tables e below (T3.setTop (mkF m 25 #[.val (.int p0), .val (.ref al), .val (.int (11 : Int32)), .val (.int (0 : Int32)), .val (.ref en0)] [(.int p0), (.int (0 : Int32))])) _
    refine XS.icmpYes X3.here hx rfl (pc0 := 25) (pc' := 31) rfl (hb hby d1_25) rfl (feq ((by rw [hs]; first | done | decide) : ¬ ((0 : Int32) = p0))).2 (by decide) (by decide) ?_
    show Steps p.tables e below (T3.setTop (mkF m 31 #[.val (.int p0), .val (.ref al), .val (.int (11 : Int32)), .val (.int (0 : Int32)), .val (.ref en0)] [])) _
    refine XS.iinc X3.here hx rfl (hb hby d1_31) rfl (l' := #[.val (.int p0), .val (.ref al), .val (.int (11 : Int32)), .val (.int (1 : Int32)), .val (.ref en0)]) rfl ?_
    show Steps p.tables e below (T3.setTop (mkF m 34 #[.val (.int p0), .val (.ref al), .val (.int (11 : Int32)), .val (.int (1 : Int32)), .val (.ref en0)] [])) _
    refine XS.goto X3.here hx rfl (pc0 := 34) (pc' := 9) rfl (hb hby d1_34) (by decide) (by decide) ?_
    show Steps p.tables e below (T3.setTop (mkF m 9 #[.val (.int p0), .val (.ref al), .val (.int (11 : Int32)), .val (.int (1 : Int32)), .val (.ref en0)] [])) _
    refine XS.iloadN X3.here hx rfl (hb hby d1_9) rfl  ?_
    show Steps p.tables e below (T3.setTop (mkF m 10 #[.val (.int p0), .val (.ref al), .val (.int (11 : Int32)), .val (.int (1 : Int32)), .val (.ref en0)] [(.int (1 : Int32))])) _
    refine XS.iloadN X3.here hx rfl (hb hby d1_10) rfl  ?_
    show Steps p.tables e below (T3.setTop (mkF m 11 #[.val (.int p0), .val (.ref al), .val (.int (11 : Int32)), .val (.int (1 : Int32)), .val (.ref en0)] [(.int (11 : Int32)), (.int (1 : Int32))])) _
    refine XS.icmpNo X3.here hx rfl (hb hby d1_11) rfl (tlt (by decide : (1 : Int32) < (11 : Int32))).2.1 ?_
    show Steps p.tables e below (T3.setTop (mkF m 14 #[.val (.int p0), .val (.ref al), .val (.int (11 : Int32)), .val (.int (1 : Int32)), .val (.ref en0)] [])) _
    refine XS.aloadN X3.here hx rfl (hb hby d1_14) rfl rfl ?_
    show Steps p.tables e below (T3.setTop (mkF m 15 #[.val (.int p0), .val (.ref al), .val (.int (11 : Int32)), .val (.int (1 : Int32)), .val (.ref en0)] [(.ref al)])) _
    refine XS.iloadN X3.here hx rfl (hb hby d1_15) rfl  ?_
    show Steps p.tables e below (T3.setTop (mkF m 16 #[.val (.int p0), .val (.ref al), .val (.int (11 : Int32)), .val (.int (1 : Int32)), .val (.ref en0)] [(.int (1 : Int32)), (.ref al)])) _
    refine own_ldR X3 hx hZ e3 A_al rfl (j := (1 : Int32)) (k := 1) (v := .ref en1) rfl (by decide) (by decide) (by decide) (g := (mkF m 16 #[.val (.int p0), .val (.ref al), .val (.int (11 : Int32)), .val (.int (1 : Int32)), .val (.ref en0)] [(.int (1 : Int32)), (.ref al)])) rfl rfl (hb hby d1_16) ?_
    show Steps p.tables e below (T3.setTop (mkF m 17 #[.val (.int p0), .val (.ref al), .val (.int (11 : Int32)), .val (.int (1 : Int32)), .val (.ref en0)] [(.ref en1)])) _
    refine XS.astore X3.here hx rfl (hb hby d1_17) rfl rfl (l' := #[.val (.int p0), .val (.ref al), .val (.int (11 : Int32)), .val (.int (1 : Int32)), .val (.ref en1)]) rfl ?_
    show Steps p.tables e below (T3.setTop (mkF m 19 #[.val (.int p0), .val (.ref al), .val (.int (11 : Int32)), .val (.int (1 : Int32)), .val (.ref en1)] [])) _
    refine XS.aload X3.here hx rfl (hb hby d1_19) rfl rfl ?_
    exact k
  obtain ⟨T5, X5, e5, st5⟩ := getF X3 hx hZ hown (host := "") (Or.inl (hw _ (List.mem_of_getElem? (i := 8) rfl))) Via.refl e3 F_en1_status (g := (mkF m 21 #[.val (.int p0), .val (.ref al), .val (.int (11 : Int32)), .val (.int (1 : Int32)), .val (.ref en1)] [(.ref en1)])) rfl rfl (hb hby d1_21)
  have pre6 : ∀ t, Steps p.tables e below (T5.setTop (mkF m 21 #[.val (.int p0), .val (.ref al), .val (.int (11 : Int32)), .val (.int (2 : Int32)), .val (.ref en2)] [(.ref en2)])) t → Steps p.tables e below (s₁.setTop (entryFrame m #[(.int p0)] 5)) t := by
    intro t k
    refine pre4 t ?_
    show Steps p.tables e below (T3.setTop (mkF m 21 #[.val (.int p0), .val (.ref al), .val (.int (11 : Int32)), .val (.int (1 : Int32)), .val (.ref en1)] [(.ref en1)])) _
    refine st5 _ ?_
    show Steps p.tables e below (T5.setTop (mkF m 24 #[.val (.int p0), .val (.ref al), .val (.int (11 : Int32)), .val (.int (1 : Int32)), .val (.ref en1)] [(.int (0 : Int32))])) _
    refine XS.iloadN X5.here hx rfl (hb hby d1_24) rfl  ?_
    show Steps p.tables e below (T5.setTop (mkF m 25 #[.val (.int p0), .val (.ref al), .val (.int (11 : Int32)), .val (.int (1 : Int32)), .val (.ref en1)] [(.int p0), (.int (0 : Int32))])) _
    refine XS.icmpYes X5.here hx rfl (pc0 := 25) (pc' := 31) rfl (hb hby d1_25) rfl (feq ((by rw [hs]; first | done | decide) : ¬ ((0 : Int32) = p0))).2 (by decide) (by decide) ?_
    show Steps p.tables e below (T5.setTop (mkF m 31 #[.val (.int p0), .val (.ref al), .val (.int (11 : Int32)), .val (.int (1 : Int32)), .val (.ref en1)] [])) _
    refine XS.iinc X5.here hx rfl (hb hby d1_31) rfl (l' := #[.val (.int p0), .val (.ref al), .val (.int (11 : Int32)), .val (.int (2 : Int32)), .val (.ref en1)]) rfl ?_
    show Steps p.tables e below (T5.setTop (mkF m 34 #[.val (.int p0), .val (.ref al), .val (.int (11 : Int32)), .val (.int (2 : Int32)), .val (.ref en1)] [])) _
    refine XS.goto X5.here hx rfl (pc0 := 34) (pc' := 9) rfl (hb hby d1_34) (by decide) (by decide) ?_
    show Steps p.tables e below (T5.setTop (mkF m 9 #[.val (.int p0), .val (.ref al), .val (.int (11 : Int32)), .val (.int (2 : Int32)), .val (.ref en1)] [])) _
    refine XS.iloadN X5.here hx rfl (hb hby d1_9) rfl  ?_
    show Steps p.tables e below (T5.setTop (mkF m 10 #[.val (.int p0), .val (.ref al), .val (.int (11 : Int32)), .val (.int (2 : Int32)), .val (.ref en1)] [(.int (2 : Int32))])) _
    refine XS.iloadN X5.here hx rfl (hb hby d1_10) rfl  ?_
    show Steps p.tables e below (T5.setTop (mkF m 11 #[.val (.int p0), .val (.ref al), .val (.int (11 : Int32)), .val (.int (2 : Int32)), .val (.ref en1)] [(.int (11 : Int32)), (.int (2 : Int32))])) _
    refine XS.icmpNo X5.here hx rfl (hb hby d1_11) rfl (tlt (by decide : (2 : Int32) < (11 : Int32))).2.1 ?_
    show Steps p.tables e below (T5.setTop (mkF m 14 #[.val (.int p0), .val (.ref al), .val (.int (11 : Int32)), .val (.int (2 : Int32)), .val (.ref en1)] [])) _
    refine XS.aloadN X5.here hx rfl (hb hby d1_14) rfl rfl ?_
    show Steps p.tables e below (T5.setTop (mkF m 15 #[.val (.int p0), .val (.ref al), .val (.int (11 : Int32)), .val (.int (2 : Int32)), .val (.ref en1)] [(.ref al)])) _
    refine XS.iloadN X5.here hx rfl (hb hby d1_15) rfl  ?_
    show Steps p.tables e below (T5.setTop (mkF m 16 #[.val (.int p0), .val (.ref al), .val (.int (11 : Int32)), .val (.int (2 : Int32)), .val (.ref en1)] [(.int (2 : Int32)), (.ref al)])) _
    refine own_ldR X5 hx hZ e5 A_al rfl (j := (2 : Int32)) (k := 2) (v := .ref en2) rfl (by decide) (by decide) (by decide) (g := (mkF m 16 #[.val (.int p0), .val (.ref al), .val (.int (11 : Int32)), .val (.int (2 : Int32)), .val (.ref en1)] [(.int (2 : Int32)), (.ref al)])) rfl rfl (hb hby d1_16) ?_
    show Steps p.tables e below (T5.setTop (mkF m 17 #[.val (.int p0), .val (.ref al), .val (.int (11 : Int32)), .val (.int (2 : Int32)), .val (.ref en1)] [(.ref en2)])) _
    refine XS.astore X5.here hx rfl (hb hby d1_17) rfl rfl (l' := #[.val (.int p0), .val (.ref al), .val (.int (11 : Int32)), .val (.int (2 : Int32)), .val (.ref en2)]) rfl ?_
    show Steps p.tables e below (T5.setTop (mkF m 19 #[.val (.int p0), .val (.ref al), .val (.int (11 : Int32)), .val (.int (2 : Int32)), .val (.ref en2)] [])) _
    refine XS.aload X5.here hx rfl (hb hby d1_19) rfl rfl ?_
    exact k
  obtain ⟨T7, X7, e7, st7⟩ := getF X5 hx hZ hown (host := "") (Or.inl (hw _ (List.mem_of_getElem? (i := 8) rfl))) Via.refl e5 F_en2_status (g := (mkF m 21 #[.val (.int p0), .val (.ref al), .val (.int (11 : Int32)), .val (.int (2 : Int32)), .val (.ref en2)] [(.ref en2)])) rfl rfl (hb hby d1_21)
  have pre8 : ∀ t, Steps p.tables e below (T7.setTop (mkF m 21 #[.val (.int p0), .val (.ref al), .val (.int (11 : Int32)), .val (.int (3 : Int32)), .val (.ref en3)] [(.ref en3)])) t → Steps p.tables e below (s₁.setTop (entryFrame m #[(.int p0)] 5)) t := by
    intro t k
    refine pre6 t ?_
    show Steps p.tables e below (T5.setTop (mkF m 21 #[.val (.int p0), .val (.ref al), .val (.int (11 : Int32)), .val (.int (2 : Int32)), .val (.ref en2)] [(.ref en2)])) _
    refine st7 _ ?_
    show Steps p.tables e below (T7.setTop (mkF m 24 #[.val (.int p0), .val (.ref al), .val (.int (11 : Int32)), .val (.int (2 : Int32)), .val (.ref en2)] [(.int (0 : Int32))])) _
    refine XS.iloadN X7.here hx rfl (hb hby d1_24) rfl  ?_
    show Steps p.tables e below (T7.setTop (mkF m 25 #[.val (.int p0), .val (.ref al), .val (.int (11 : Int32)), .val (.int (2 : Int32)), .val (.ref en2)] [(.int p0), (.int (0 : Int32))])) _
    refine XS.icmpYes X7.here hx rfl (pc0 := 25) (pc' := 31) rfl (hb hby d1_25) rfl (feq ((by rw [hs]; first | done | decide) : ¬ ((0 : Int32) = p0))).2 (by decide) (by decide) ?_
    show Steps p.tables e below (T7.setTop (mkF m 31 #[.val (.int p0), .val (.ref al), .val (.int (11 : Int32)), .val (.int (2 : Int32)), .val (.ref en2)] [])) _
    refine XS.iinc X7.here hx rfl (hb hby d1_31) rfl (l' := #[.val (.int p0), .val (.ref al), .val (.int (11 : Int32)), .val (.int (3 : Int32)), .val (.ref en2)]) rfl ?_
    show Steps p.tables e below (T7.setTop (mkF m 34 #[.val (.int p0), .val (.ref al), .val (.int (11 : Int32)), .val (.int (3 : Int32)), .val (.ref en2)] [])) _
    refine XS.goto X7.here hx rfl (pc0 := 34) (pc' := 9) rfl (hb hby d1_34) (by decide) (by decide) ?_
    show Steps p.tables e below (T7.setTop (mkF m 9 #[.val (.int p0), .val (.ref al), .val (.int (11 : Int32)), .val (.int (3 : Int32)), .val (.ref en2)] [])) _
    refine XS.iloadN X7.here hx rfl (hb hby d1_9) rfl  ?_
    show Steps p.tables e below (T7.setTop (mkF m 10 #[.val (.int p0), .val (.ref al), .val (.int (11 : Int32)), .val (.int (3 : Int32)), .val (.ref en2)] [(.int (3 : Int32))])) _
    refine XS.iloadN X7.here hx rfl (hb hby d1_10) rfl  ?_
    show Steps p.tables e below (T7.setTop (mkF m 11 #[.val (.int p0), .val (.ref al), .val (.int (11 : Int32)), .val (.int (3 : Int32)), .val (.ref en2)] [(.int (11 : Int32)), (.int (3 : Int32))])) _
    refine XS.icmpNo X7.here hx rfl (hb hby d1_11) rfl (tlt (by decide : (3 : Int32) < (11 : Int32))).2.1 ?_
    show Steps p.tables e below (T7.setTop (mkF m 14 #[.val (.int p0), .val (.ref al), .val (.int (11 : Int32)), .val (.int (3 : Int32)), .val (.ref en2)] [])) _
    refine XS.aloadN X7.here hx rfl (hb hby d1_14) rfl rfl ?_
    show Steps p.tables e below (T7.setTop (mkF m 15 #[.val (.int p0), .val (.ref al), .val (.int (11 : Int32)), .val (.int (3 : Int32)), .val (.ref en2)] [(.ref al)])) _
    refine XS.iloadN X7.here hx rfl (hb hby d1_15) rfl  ?_
    show Steps p.tables e below (T7.setTop (mkF m 16 #[.val (.int p0), .val (.ref al), .val (.int (11 : Int32)), .val (.int (3 : Int32)), .val (.ref en2)] [(.int (3 : Int32)), (.ref al)])) _
    refine own_ldR X7 hx hZ e7 A_al rfl (j := (3 : Int32)) (k := 3) (v := .ref en3) rfl (by decide) (by decide) (by decide) (g := (mkF m 16 #[.val (.int p0), .val (.ref al), .val (.int (11 : Int32)), .val (.int (3 : Int32)), .val (.ref en2)] [(.int (3 : Int32)), (.ref al)])) rfl rfl (hb hby d1_16) ?_
    show Steps p.tables e below (T7.setTop (mkF m 17 #[.val (.int p0), .val (.ref al), .val (.int (11 : Int32)), .val (.int (3 : Int32)), .val (.ref en2)] [(.ref en3)])) _
    refine XS.astore X7.here hx rfl (hb hby d1_17) rfl rfl (l' := #[.val (.int p0), .val (.ref al), .val (.int (11 : Int32)), .val (.int (3 : Int32)), .val (.ref en3)]) rfl ?_
    show Steps p.tables e below (T7.setTop (mkF m 19 #[.val (.int p0), .val (.ref al), .val (.int (11 : Int32)), .val (.int (3 : Int32)), .val (.ref en3)] [])) _
    refine XS.aload X7.here hx rfl (hb hby d1_19) rfl rfl ?_
    exact k
  obtain ⟨T9, X9, e9, st9⟩ := getF X7 hx hZ hown (host := "") (Or.inl (hw _ (List.mem_of_getElem? (i := 8) rfl))) Via.refl e7 F_en3_status (g := (mkF m 21 #[.val (.int p0), .val (.ref al), .val (.int (11 : Int32)), .val (.int (3 : Int32)), .val (.ref en3)] [(.ref en3)])) rfl rfl (hb hby d1_21)
  have pre10 : ∀ t, Steps p.tables e below (T9.setTop (mkF m 21 #[.val (.int p0), .val (.ref al), .val (.int (11 : Int32)), .val (.int (4 : Int32)), .val (.ref en4)] [(.ref en4)])) t → Steps p.tables e below (s₁.setTop (entryFrame m #[(.int p0)] 5)) t := by
    intro t k
    refine pre8 t ?_
    show Steps p.tables e below (T7.setTop (mkF m 21 #[.val (.int p0), .val (.ref al), .val (.int (11 : Int32)), .val (.int (3 : Int32)), .val (.ref en3)] [(.ref en3)])) _
    refine st9 _ ?_
    show Steps p.tables e below (T9.setTop (mkF m 24 #[.val (.int p0), .val (.ref al), .val (.int (11 : Int32)), .val (.int (3 : Int32)), .val (.ref en3)] [(.int (500 : Int32))])) _
    refine XS.iloadN X9.here hx rfl (hb hby d1_24) rfl  ?_
    show Steps p.tables e below (T9.setTop (mkF m 25 #[.val (.int p0), .val (.ref al), .val (.int (11 : Int32)), .val (.int (3 : Int32)), .val (.ref en3)] [(.int p0), (.int (500 : Int32))])) _
    refine XS.icmpYes X9.here hx rfl (pc0 := 25) (pc' := 31) rfl (hb hby d1_25) rfl (feq ((by rw [hs]; first | done | decide) : ¬ ((500 : Int32) = p0))).2 (by decide) (by decide) ?_
    show Steps p.tables e below (T9.setTop (mkF m 31 #[.val (.int p0), .val (.ref al), .val (.int (11 : Int32)), .val (.int (3 : Int32)), .val (.ref en3)] [])) _
    refine XS.iinc X9.here hx rfl (hb hby d1_31) rfl (l' := #[.val (.int p0), .val (.ref al), .val (.int (11 : Int32)), .val (.int (4 : Int32)), .val (.ref en3)]) rfl ?_
    show Steps p.tables e below (T9.setTop (mkF m 34 #[.val (.int p0), .val (.ref al), .val (.int (11 : Int32)), .val (.int (4 : Int32)), .val (.ref en3)] [])) _
    refine XS.goto X9.here hx rfl (pc0 := 34) (pc' := 9) rfl (hb hby d1_34) (by decide) (by decide) ?_
    show Steps p.tables e below (T9.setTop (mkF m 9 #[.val (.int p0), .val (.ref al), .val (.int (11 : Int32)), .val (.int (4 : Int32)), .val (.ref en3)] [])) _
    refine XS.iloadN X9.here hx rfl (hb hby d1_9) rfl  ?_
    show Steps p.tables e below (T9.setTop (mkF m 10 #[.val (.int p0), .val (.ref al), .val (.int (11 : Int32)), .val (.int (4 : Int32)), .val (.ref en3)] [(.int (4 : Int32))])) _
    refine XS.iloadN X9.here hx rfl (hb hby d1_10) rfl  ?_
    show Steps p.tables e below (T9.setTop (mkF m 11 #[.val (.int p0), .val (.ref al), .val (.int (11 : Int32)), .val (.int (4 : Int32)), .val (.ref en3)] [(.int (11 : Int32)), (.int (4 : Int32))])) _
    refine XS.icmpNo X9.here hx rfl (hb hby d1_11) rfl (tlt (by decide : (4 : Int32) < (11 : Int32))).2.1 ?_
    show Steps p.tables e below (T9.setTop (mkF m 14 #[.val (.int p0), .val (.ref al), .val (.int (11 : Int32)), .val (.int (4 : Int32)), .val (.ref en3)] [])) _
    refine XS.aloadN X9.here hx rfl (hb hby d1_14) rfl rfl ?_
    show Steps p.tables e below (T9.setTop (mkF m 15 #[.val (.int p0), .val (.ref al), .val (.int (11 : Int32)), .val (.int (4 : Int32)), .val (.ref en3)] [(.ref al)])) _
    refine XS.iloadN X9.here hx rfl (hb hby d1_15) rfl  ?_
    show Steps p.tables e below (T9.setTop (mkF m 16 #[.val (.int p0), .val (.ref al), .val (.int (11 : Int32)), .val (.int (4 : Int32)), .val (.ref en3)] [(.int (4 : Int32)), (.ref al)])) _
    refine own_ldR X9 hx hZ e9 A_al rfl (j := (4 : Int32)) (k := 4) (v := .ref en4) rfl (by decide) (by decide) (by decide) (g := (mkF m 16 #[.val (.int p0), .val (.ref al), .val (.int (11 : Int32)), .val (.int (4 : Int32)), .val (.ref en3)] [(.int (4 : Int32)), (.ref al)])) rfl rfl (hb hby d1_16) ?_
    show Steps p.tables e below (T9.setTop (mkF m 17 #[.val (.int p0), .val (.ref al), .val (.int (11 : Int32)), .val (.int (4 : Int32)), .val (.ref en3)] [(.ref en4)])) _
    refine XS.astore X9.here hx rfl (hb hby d1_17) rfl rfl (l' := #[.val (.int p0), .val (.ref al), .val (.int (11 : Int32)), .val (.int (4 : Int32)), .val (.ref en4)]) rfl ?_
    show Steps p.tables e below (T9.setTop (mkF m 19 #[.val (.int p0), .val (.ref al), .val (.int (11 : Int32)), .val (.int (4 : Int32)), .val (.ref en4)] [])) _
    refine XS.aload X9.here hx rfl (hb hby d1_19) rfl rfl ?_
    exact k
  obtain ⟨T11, X11, e11, st11⟩ := getF X9 hx hZ hown (host := "") (Or.inl (hw _ (List.mem_of_getElem? (i := 8) rfl))) Via.refl e9 F_en4_status (g := (mkF m 21 #[.val (.int p0), .val (.ref al), .val (.int (11 : Int32)), .val (.int (4 : Int32)), .val (.ref en4)] [(.ref en4)])) rfl rfl (hb hby d1_21)
  have pre12 : ∀ t, Steps p.tables e below (T11.setTop (mkF m 21 #[.val (.int p0), .val (.ref al), .val (.int (11 : Int32)), .val (.int (5 : Int32)), .val (.ref en5)] [(.ref en5)])) t → Steps p.tables e below (s₁.setTop (entryFrame m #[(.int p0)] 5)) t := by
    intro t k
    refine pre10 t ?_
    show Steps p.tables e below (T9.setTop (mkF m 21 #[.val (.int p0), .val (.ref al), .val (.int (11 : Int32)), .val (.int (4 : Int32)), .val (.ref en4)] [(.ref en4)])) _
    refine st11 _ ?_
    show Steps p.tables e below (T11.setTop (mkF m 24 #[.val (.int p0), .val (.ref al), .val (.int (11 : Int32)), .val (.int (4 : Int32)), .val (.ref en4)] [(.int (502 : Int32))])) _
    refine XS.iloadN X11.here hx rfl (hb hby d1_24) rfl  ?_
    show Steps p.tables e below (T11.setTop (mkF m 25 #[.val (.int p0), .val (.ref al), .val (.int (11 : Int32)), .val (.int (4 : Int32)), .val (.ref en4)] [(.int p0), (.int (502 : Int32))])) _
    refine XS.icmpYes X11.here hx rfl (pc0 := 25) (pc' := 31) rfl (hb hby d1_25) rfl (feq ((by rw [hs]; first | done | decide) : ¬ ((502 : Int32) = p0))).2 (by decide) (by decide) ?_
    show Steps p.tables e below (T11.setTop (mkF m 31 #[.val (.int p0), .val (.ref al), .val (.int (11 : Int32)), .val (.int (4 : Int32)), .val (.ref en4)] [])) _
    refine XS.iinc X11.here hx rfl (hb hby d1_31) rfl (l' := #[.val (.int p0), .val (.ref al), .val (.int (11 : Int32)), .val (.int (5 : Int32)), .val (.ref en4)]) rfl ?_
    show Steps p.tables e below (T11.setTop (mkF m 34 #[.val (.int p0), .val (.ref al), .val (.int (11 : Int32)), .val (.int (5 : Int32)), .val (.ref en4)] [])) _
    refine XS.goto X11.here hx rfl (pc0 := 34) (pc' := 9) rfl (hb hby d1_34) (by decide) (by decide) ?_
    show Steps p.tables e below (T11.setTop (mkF m 9 #[.val (.int p0), .val (.ref al), .val (.int (11 : Int32)), .val (.int (5 : Int32)), .val (.ref en4)] [])) _
    refine XS.iloadN X11.here hx rfl (hb hby d1_9) rfl  ?_
    show Steps p.tables e below (T11.setTop (mkF m 10 #[.val (.int p0), .val (.ref al), .val (.int (11 : Int32)), .val (.int (5 : Int32)), .val (.ref en4)] [(.int (5 : Int32))])) _
    refine XS.iloadN X11.here hx rfl (hb hby d1_10) rfl  ?_
    show Steps p.tables e below (T11.setTop (mkF m 11 #[.val (.int p0), .val (.ref al), .val (.int (11 : Int32)), .val (.int (5 : Int32)), .val (.ref en4)] [(.int (11 : Int32)), (.int (5 : Int32))])) _
    refine XS.icmpNo X11.here hx rfl (hb hby d1_11) rfl (tlt (by decide : (5 : Int32) < (11 : Int32))).2.1 ?_
    show Steps p.tables e below (T11.setTop (mkF m 14 #[.val (.int p0), .val (.ref al), .val (.int (11 : Int32)), .val (.int (5 : Int32)), .val (.ref en4)] [])) _
    refine XS.aloadN X11.here hx rfl (hb hby d1_14) rfl rfl ?_
    show Steps p.tables e below (T11.setTop (mkF m 15 #[.val (.int p0), .val (.ref al), .val (.int (11 : Int32)), .val (.int (5 : Int32)), .val (.ref en4)] [(.ref al)])) _
    refine XS.iloadN X11.here hx rfl (hb hby d1_15) rfl  ?_
    show Steps p.tables e below (T11.setTop (mkF m 16 #[.val (.int p0), .val (.ref al), .val (.int (11 : Int32)), .val (.int (5 : Int32)), .val (.ref en4)] [(.int (5 : Int32)), (.ref al)])) _
    refine own_ldR X11 hx hZ e11 A_al rfl (j := (5 : Int32)) (k := 5) (v := .ref en5) rfl (by decide) (by decide) (by decide) (g := (mkF m 16 #[.val (.int p0), .val (.ref al), .val (.int (11 : Int32)), .val (.int (5 : Int32)), .val (.ref en4)] [(.int (5 : Int32)), (.ref al)])) rfl rfl (hb hby d1_16) ?_
    show Steps p.tables e below (T11.setTop (mkF m 17 #[.val (.int p0), .val (.ref al), .val (.int (11 : Int32)), .val (.int (5 : Int32)), .val (.ref en4)] [(.ref en5)])) _
    refine XS.astore X11.here hx rfl (hb hby d1_17) rfl rfl (l' := #[.val (.int p0), .val (.ref al), .val (.int (11 : Int32)), .val (.int (5 : Int32)), .val (.ref en5)]) rfl ?_
    show Steps p.tables e below (T11.setTop (mkF m 19 #[.val (.int p0), .val (.ref al), .val (.int (11 : Int32)), .val (.int (5 : Int32)), .val (.ref en5)] [])) _
    refine XS.aload X11.here hx rfl (hb hby d1_19) rfl rfl ?_
    exact k
  obtain ⟨T13, X13, e13, st13⟩ := getF X11 hx hZ hown (host := "") (Or.inl (hw _ (List.mem_of_getElem? (i := 8) rfl))) Via.refl e11 F_en5_status (g := (mkF m 21 #[.val (.int p0), .val (.ref al), .val (.int (11 : Int32)), .val (.int (5 : Int32)), .val (.ref en5)] [(.ref en5)])) rfl rfl (hb hby d1_21)
  have pre14 : ∀ t, Steps p.tables e below (T13.setTop (mkF m 21 #[.val (.int p0), .val (.ref al), .val (.int (11 : Int32)), .val (.int (6 : Int32)), .val (.ref en6)] [(.ref en6)])) t → Steps p.tables e below (s₁.setTop (entryFrame m #[(.int p0)] 5)) t := by
    intro t k
    refine pre12 t ?_
    show Steps p.tables e below (T11.setTop (mkF m 21 #[.val (.int p0), .val (.ref al), .val (.int (11 : Int32)), .val (.int (5 : Int32)), .val (.ref en5)] [(.ref en5)])) _
    refine st13 _ ?_
    show Steps p.tables e below (T13.setTop (mkF m 24 #[.val (.int p0), .val (.ref al), .val (.int (11 : Int32)), .val (.int (5 : Int32)), .val (.ref en5)] [(.int (503 : Int32))])) _
    refine XS.iloadN X13.here hx rfl (hb hby d1_24) rfl  ?_
    show Steps p.tables e below (T13.setTop (mkF m 25 #[.val (.int p0), .val (.ref al), .val (.int (11 : Int32)), .val (.int (5 : Int32)), .val (.ref en5)] [(.int p0), (.int (503 : Int32))])) _
    refine XS.icmpYes X13.here hx rfl (pc0 := 25) (pc' := 31) rfl (hb hby d1_25) rfl (feq ((by rw [hs]; first | done | decide) : ¬ ((503 : Int32) = p0))).2 (by decide) (by decide) ?_
    show Steps p.tables e below (T13.setTop (mkF m 31 #[.val (.int p0), .val (.ref al), .val (.int (11 : Int32)), .val (.int (5 : Int32)), .val (.ref en5)] [])) _
    refine XS.iinc X13.here hx rfl (hb hby d1_31) rfl (l' := #[.val (.int p0), .val (.ref al), .val (.int (11 : Int32)), .val (.int (6 : Int32)), .val (.ref en5)]) rfl ?_
    show Steps p.tables e below (T13.setTop (mkF m 34 #[.val (.int p0), .val (.ref al), .val (.int (11 : Int32)), .val (.int (6 : Int32)), .val (.ref en5)] [])) _
    refine XS.goto X13.here hx rfl (pc0 := 34) (pc' := 9) rfl (hb hby d1_34) (by decide) (by decide) ?_
    show Steps p.tables e below (T13.setTop (mkF m 9 #[.val (.int p0), .val (.ref al), .val (.int (11 : Int32)), .val (.int (6 : Int32)), .val (.ref en5)] [])) _
    refine XS.iloadN X13.here hx rfl (hb hby d1_9) rfl  ?_
    show Steps p.tables e below (T13.setTop (mkF m 10 #[.val (.int p0), .val (.ref al), .val (.int (11 : Int32)), .val (.int (6 : Int32)), .val (.ref en5)] [(.int (6 : Int32))])) _
    refine XS.iloadN X13.here hx rfl (hb hby d1_10) rfl  ?_
    show Steps p.tables e below (T13.setTop (mkF m 11 #[.val (.int p0), .val (.ref al), .val (.int (11 : Int32)), .val (.int (6 : Int32)), .val (.ref en5)] [(.int (11 : Int32)), (.int (6 : Int32))])) _
    refine XS.icmpNo X13.here hx rfl (hb hby d1_11) rfl (tlt (by decide : (6 : Int32) < (11 : Int32))).2.1 ?_
    show Steps p.tables e below (T13.setTop (mkF m 14 #[.val (.int p0), .val (.ref al), .val (.int (11 : Int32)), .val (.int (6 : Int32)), .val (.ref en5)] [])) _
    refine XS.aloadN X13.here hx rfl (hb hby d1_14) rfl rfl ?_
    show Steps p.tables e below (T13.setTop (mkF m 15 #[.val (.int p0), .val (.ref al), .val (.int (11 : Int32)), .val (.int (6 : Int32)), .val (.ref en5)] [(.ref al)])) _
    refine XS.iloadN X13.here hx rfl (hb hby d1_15) rfl  ?_
    show Steps p.tables e below (T13.setTop (mkF m 16 #[.val (.int p0), .val (.ref al), .val (.int (11 : Int32)), .val (.int (6 : Int32)), .val (.ref en5)] [(.int (6 : Int32)), (.ref al)])) _
    refine own_ldR X13 hx hZ e13 A_al rfl (j := (6 : Int32)) (k := 6) (v := .ref en6) rfl (by decide) (by decide) (by decide) (g := (mkF m 16 #[.val (.int p0), .val (.ref al), .val (.int (11 : Int32)), .val (.int (6 : Int32)), .val (.ref en5)] [(.int (6 : Int32)), (.ref al)])) rfl rfl (hb hby d1_16) ?_
    show Steps p.tables e below (T13.setTop (mkF m 17 #[.val (.int p0), .val (.ref al), .val (.int (11 : Int32)), .val (.int (6 : Int32)), .val (.ref en5)] [(.ref en6)])) _
    refine XS.astore X13.here hx rfl (hb hby d1_17) rfl rfl (l' := #[.val (.int p0), .val (.ref al), .val (.int (11 : Int32)), .val (.int (6 : Int32)), .val (.ref en6)]) rfl ?_
    show Steps p.tables e below (T13.setTop (mkF m 19 #[.val (.int p0), .val (.ref al), .val (.int (11 : Int32)), .val (.int (6 : Int32)), .val (.ref en6)] [])) _
    refine XS.aload X13.here hx rfl (hb hby d1_19) rfl rfl ?_
    exact k
  obtain ⟨T15, X15, e15, st15⟩ := getF X13 hx hZ hown (host := "") (Or.inl (hw _ (List.mem_of_getElem? (i := 8) rfl))) Via.refl e13 F_en6_status (g := (mkF m 21 #[.val (.int p0), .val (.ref al), .val (.int (11 : Int32)), .val (.int (6 : Int32)), .val (.ref en6)] [(.ref en6)])) rfl rfl (hb hby d1_21)
  have pre16 : ∀ t, Steps p.tables e below (T15.setTop (mkF m 21 #[.val (.int p0), .val (.ref al), .val (.int (11 : Int32)), .val (.int (7 : Int32)), .val (.ref en7)] [(.ref en7)])) t → Steps p.tables e below (s₁.setTop (entryFrame m #[(.int p0)] 5)) t := by
    intro t k
    refine pre14 t ?_
    show Steps p.tables e below (T13.setTop (mkF m 21 #[.val (.int p0), .val (.ref al), .val (.int (11 : Int32)), .val (.int (6 : Int32)), .val (.ref en6)] [(.ref en6)])) _
    refine st15 _ ?_
    show Steps p.tables e below (T15.setTop (mkF m 24 #[.val (.int p0), .val (.ref al), .val (.int (11 : Int32)), .val (.int (6 : Int32)), .val (.ref en6)] [(.int (504 : Int32))])) _
    refine XS.iloadN X15.here hx rfl (hb hby d1_24) rfl  ?_
    show Steps p.tables e below (T15.setTop (mkF m 25 #[.val (.int p0), .val (.ref al), .val (.int (11 : Int32)), .val (.int (6 : Int32)), .val (.ref en6)] [(.int p0), (.int (504 : Int32))])) _
    refine XS.icmpYes X15.here hx rfl (pc0 := 25) (pc' := 31) rfl (hb hby d1_25) rfl (feq ((by rw [hs]; first | done | decide) : ¬ ((504 : Int32) = p0))).2 (by decide) (by decide) ?_
    show Steps p.tables e below (T15.setTop (mkF m 31 #[.val (.int p0), .val (.ref al), .val (.int (11 : Int32)), .val (.int (6 : Int32)), .val (.ref en6)] [])) _
    refine XS.iinc X15.here hx rfl (hb hby d1_31) rfl (l' := #[.val (.int p0), .val (.ref al), .val (.int (11 : Int32)), .val (.int (7 : Int32)), .val (.ref en6)]) rfl ?_
    show Steps p.tables e below (T15.setTop (mkF m 34 #[.val (.int p0), .val (.ref al), .val (.int (11 : Int32)), .val (.int (7 : Int32)), .val (.ref en6)] [])) _
    refine XS.goto X15.here hx rfl (pc0 := 34) (pc' := 9) rfl (hb hby d1_34) (by decide) (by decide) ?_
    show Steps p.tables e below (T15.setTop (mkF m 9 #[.val (.int p0), .val (.ref al), .val (.int (11 : Int32)), .val (.int (7 : Int32)), .val (.ref en6)] [])) _
    refine XS.iloadN X15.here hx rfl (hb hby d1_9) rfl  ?_
    show Steps p.tables e below (T15.setTop (mkF m 10 #[.val (.int p0), .val (.ref al), .val (.int (11 : Int32)), .val (.int (7 : Int32)), .val (.ref en6)] [(.int (7 : Int32))])) _
    refine XS.iloadN X15.here hx rfl (hb hby d1_10) rfl  ?_
    show Steps p.tables e below (T15.setTop (mkF m 11 #[.val (.int p0), .val (.ref al), .val (.int (11 : Int32)), .val (.int (7 : Int32)), .val (.ref en6)] [(.int (11 : Int32)), (.int (7 : Int32))])) _
    refine XS.icmpNo X15.here hx rfl (hb hby d1_11) rfl (tlt (by decide : (7 : Int32) < (11 : Int32))).2.1 ?_
    show Steps p.tables e below (T15.setTop (mkF m 14 #[.val (.int p0), .val (.ref al), .val (.int (11 : Int32)), .val (.int (7 : Int32)), .val (.ref en6)] [])) _
    refine XS.aloadN X15.here hx rfl (hb hby d1_14) rfl rfl ?_
    show Steps p.tables e below (T15.setTop (mkF m 15 #[.val (.int p0), .val (.ref al), .val (.int (11 : Int32)), .val (.int (7 : Int32)), .val (.ref en6)] [(.ref al)])) _
    refine XS.iloadN X15.here hx rfl (hb hby d1_15) rfl  ?_
    show Steps p.tables e below (T15.setTop (mkF m 16 #[.val (.int p0), .val (.ref al), .val (.int (11 : Int32)), .val (.int (7 : Int32)), .val (.ref en6)] [(.int (7 : Int32)), (.ref al)])) _
    refine own_ldR X15 hx hZ e15 A_al rfl (j := (7 : Int32)) (k := 7) (v := .ref en7) rfl (by decide) (by decide) (by decide) (g := (mkF m 16 #[.val (.int p0), .val (.ref al), .val (.int (11 : Int32)), .val (.int (7 : Int32)), .val (.ref en6)] [(.int (7 : Int32)), (.ref al)])) rfl rfl (hb hby d1_16) ?_
    show Steps p.tables e below (T15.setTop (mkF m 17 #[.val (.int p0), .val (.ref al), .val (.int (11 : Int32)), .val (.int (7 : Int32)), .val (.ref en6)] [(.ref en7)])) _
    refine XS.astore X15.here hx rfl (hb hby d1_17) rfl rfl (l' := #[.val (.int p0), .val (.ref al), .val (.int (11 : Int32)), .val (.int (7 : Int32)), .val (.ref en7)]) rfl ?_
    show Steps p.tables e below (T15.setTop (mkF m 19 #[.val (.int p0), .val (.ref al), .val (.int (11 : Int32)), .val (.int (7 : Int32)), .val (.ref en7)] [])) _
    refine XS.aload X15.here hx rfl (hb hby d1_19) rfl rfl ?_
    exact k
  obtain ⟨T17, X17, e17, st17⟩ := getF X15 hx hZ hown (host := "") (Or.inl (hw _ (List.mem_of_getElem? (i := 8) rfl))) Via.refl e15 F_en7_status (g := (mkF m 21 #[.val (.int p0), .val (.ref al), .val (.int (11 : Int32)), .val (.int (7 : Int32)), .val (.ref en7)] [(.ref en7)])) rfl rfl (hb hby d1_21)
  have pre18 : ∀ t, Steps p.tables e below (T17.setTop (mkF m 21 #[.val (.int p0), .val (.ref al), .val (.int (11 : Int32)), .val (.int (8 : Int32)), .val (.ref en8)] [(.ref en8)])) t → Steps p.tables e below (s₁.setTop (entryFrame m #[(.int p0)] 5)) t := by
    intro t k
    refine pre16 t ?_
    show Steps p.tables e below (T15.setTop (mkF m 21 #[.val (.int p0), .val (.ref al), .val (.int (11 : Int32)), .val (.int (7 : Int32)), .val (.ref en7)] [(.ref en7)])) _
    refine st17 _ ?_
    show Steps p.tables e below (T17.setTop (mkF m 24 #[.val (.int p0), .val (.ref al), .val (.int (11 : Int32)), .val (.int (7 : Int32)), .val (.ref en7)] [(.int (403 : Int32))])) _
    refine XS.iloadN X17.here hx rfl (hb hby d1_24) rfl  ?_
    show Steps p.tables e below (T17.setTop (mkF m 25 #[.val (.int p0), .val (.ref al), .val (.int (11 : Int32)), .val (.int (7 : Int32)), .val (.ref en7)] [(.int p0), (.int (403 : Int32))])) _
    refine XS.icmpYes X17.here hx rfl (pc0 := 25) (pc' := 31) rfl (hb hby d1_25) rfl (feq ((by rw [hs]; first | done | decide) : ¬ ((403 : Int32) = p0))).2 (by decide) (by decide) ?_
    show Steps p.tables e below (T17.setTop (mkF m 31 #[.val (.int p0), .val (.ref al), .val (.int (11 : Int32)), .val (.int (7 : Int32)), .val (.ref en7)] [])) _
    refine XS.iinc X17.here hx rfl (hb hby d1_31) rfl (l' := #[.val (.int p0), .val (.ref al), .val (.int (11 : Int32)), .val (.int (8 : Int32)), .val (.ref en7)]) rfl ?_
    show Steps p.tables e below (T17.setTop (mkF m 34 #[.val (.int p0), .val (.ref al), .val (.int (11 : Int32)), .val (.int (8 : Int32)), .val (.ref en7)] [])) _
    refine XS.goto X17.here hx rfl (pc0 := 34) (pc' := 9) rfl (hb hby d1_34) (by decide) (by decide) ?_
    show Steps p.tables e below (T17.setTop (mkF m 9 #[.val (.int p0), .val (.ref al), .val (.int (11 : Int32)), .val (.int (8 : Int32)), .val (.ref en7)] [])) _
    refine XS.iloadN X17.here hx rfl (hb hby d1_9) rfl  ?_
    show Steps p.tables e below (T17.setTop (mkF m 10 #[.val (.int p0), .val (.ref al), .val (.int (11 : Int32)), .val (.int (8 : Int32)), .val (.ref en7)] [(.int (8 : Int32))])) _
    refine XS.iloadN X17.here hx rfl (hb hby d1_10) rfl  ?_
    show Steps p.tables e below (T17.setTop (mkF m 11 #[.val (.int p0), .val (.ref al), .val (.int (11 : Int32)), .val (.int (8 : Int32)), .val (.ref en7)] [(.int (11 : Int32)), (.int (8 : Int32))])) _
    refine XS.icmpNo X17.here hx rfl (hb hby d1_11) rfl (tlt (by decide : (8 : Int32) < (11 : Int32))).2.1 ?_
    show Steps p.tables e below (T17.setTop (mkF m 14 #[.val (.int p0), .val (.ref al), .val (.int (11 : Int32)), .val (.int (8 : Int32)), .val (.ref en7)] [])) _
    refine XS.aloadN X17.here hx rfl (hb hby d1_14) rfl rfl ?_
    show Steps p.tables e below (T17.setTop (mkF m 15 #[.val (.int p0), .val (.ref al), .val (.int (11 : Int32)), .val (.int (8 : Int32)), .val (.ref en7)] [(.ref al)])) _
    refine XS.iloadN X17.here hx rfl (hb hby d1_15) rfl  ?_
    show Steps p.tables e below (T17.setTop (mkF m 16 #[.val (.int p0), .val (.ref al), .val (.int (11 : Int32)), .val (.int (8 : Int32)), .val (.ref en7)] [(.int (8 : Int32)), (.ref al)])) _
    refine own_ldR X17 hx hZ e17 A_al rfl (j := (8 : Int32)) (k := 8) (v := .ref en8) rfl (by decide) (by decide) (by decide) (g := (mkF m 16 #[.val (.int p0), .val (.ref al), .val (.int (11 : Int32)), .val (.int (8 : Int32)), .val (.ref en7)] [(.int (8 : Int32)), (.ref al)])) rfl rfl (hb hby d1_16) ?_
    show Steps p.tables e below (T17.setTop (mkF m 17 #[.val (.int p0), .val (.ref al), .val (.int (11 : Int32)), .val (.int (8 : Int32)), .val (.ref en7)] [(.ref en8)])) _
    refine XS.astore X17.here hx rfl (hb hby d1_17) rfl rfl (l' := #[.val (.int p0), .val (.ref al), .val (.int (11 : Int32)), .val (.int (8 : Int32)), .val (.ref en8)]) rfl ?_
    show Steps p.tables e below (T17.setTop (mkF m 19 #[.val (.int p0), .val (.ref al), .val (.int (11 : Int32)), .val (.int (8 : Int32)), .val (.ref en8)] [])) _
    refine XS.aload X17.here hx rfl (hb hby d1_19) rfl rfl ?_
    exact k
  obtain ⟨T19, X19, e19, st19⟩ := getF X17 hx hZ hown (host := "") (Or.inl (hw _ (List.mem_of_getElem? (i := 8) rfl))) Via.refl e17 F_en8_status (g := (mkF m 21 #[.val (.int p0), .val (.ref al), .val (.int (11 : Int32)), .val (.int (8 : Int32)), .val (.ref en8)] [(.ref en8)])) rfl rfl (hb hby d1_21)
  have pre20 : ∀ t, Steps p.tables e below (T19.setTop (mkF m 21 #[.val (.int p0), .val (.ref al), .val (.int (11 : Int32)), .val (.int (9 : Int32)), .val (.ref en9)] [(.ref en9)])) t → Steps p.tables e below (s₁.setTop (entryFrame m #[(.int p0)] 5)) t := by
    intro t k
    refine pre18 t ?_
    show Steps p.tables e below (T17.setTop (mkF m 21 #[.val (.int p0), .val (.ref al), .val (.int (11 : Int32)), .val (.int (8 : Int32)), .val (.ref en8)] [(.ref en8)])) _
    refine st19 _ ?_
    show Steps p.tables e below (T19.setTop (mkF m 24 #[.val (.int p0), .val (.ref al), .val (.int (11 : Int32)), .val (.int (8 : Int32)), .val (.ref en8)] [(.int (404 : Int32))])) _
    refine XS.iloadN X19.here hx rfl (hb hby d1_24) rfl  ?_
    show Steps p.tables e below (T19.setTop (mkF m 25 #[.val (.int p0), .val (.ref al), .val (.int (11 : Int32)), .val (.int (8 : Int32)), .val (.ref en8)] [(.int p0), (.int (404 : Int32))])) _
    refine XS.icmpYes X19.here hx rfl (pc0 := 25) (pc' := 31) rfl (hb hby d1_25) rfl (feq ((by rw [hs]; first | done | decide) : ¬ ((404 : Int32) = p0))).2 (by decide) (by decide) ?_
    show Steps p.tables e below (T19.setTop (mkF m 31 #[.val (.int p0), .val (.ref al), .val (.int (11 : Int32)), .val (.int (8 : Int32)), .val (.ref en8)] [])) _
    refine XS.iinc X19.here hx rfl (hb hby d1_31) rfl (l' := #[.val (.int p0), .val (.ref al), .val (.int (11 : Int32)), .val (.int (9 : Int32)), .val (.ref en8)]) rfl ?_
    show Steps p.tables e below (T19.setTop (mkF m 34 #[.val (.int p0), .val (.ref al), .val (.int (11 : Int32)), .val (.int (9 : Int32)), .val (.ref en8)] [])) _
    refine XS.goto X19.here hx rfl (pc0 := 34) (pc' := 9) rfl (hb hby d1_34) (by decide) (by decide) ?_
    show Steps p.tables e below (T19.setTop (mkF m 9 #[.val (.int p0), .val (.ref al), .val (.int (11 : Int32)), .val (.int (9 : Int32)), .val (.ref en8)] [])) _
    refine XS.iloadN X19.here hx rfl (hb hby d1_9) rfl  ?_
    show Steps p.tables e below (T19.setTop (mkF m 10 #[.val (.int p0), .val (.ref al), .val (.int (11 : Int32)), .val (.int (9 : Int32)), .val (.ref en8)] [(.int (9 : Int32))])) _
    refine XS.iloadN X19.here hx rfl (hb hby d1_10) rfl  ?_
    show Steps p.tables e below (T19.setTop (mkF m 11 #[.val (.int p0), .val (.ref al), .val (.int (11 : Int32)), .val (.int (9 : Int32)), .val (.ref en8)] [(.int (11 : Int32)), (.int (9 : Int32))])) _
    refine XS.icmpNo X19.here hx rfl (hb hby d1_11) rfl (tlt (by decide : (9 : Int32) < (11 : Int32))).2.1 ?_
    show Steps p.tables e below (T19.setTop (mkF m 14 #[.val (.int p0), .val (.ref al), .val (.int (11 : Int32)), .val (.int (9 : Int32)), .val (.ref en8)] [])) _
    refine XS.aloadN X19.here hx rfl (hb hby d1_14) rfl rfl ?_
    show Steps p.tables e below (T19.setTop (mkF m 15 #[.val (.int p0), .val (.ref al), .val (.int (11 : Int32)), .val (.int (9 : Int32)), .val (.ref en8)] [(.ref al)])) _
    refine XS.iloadN X19.here hx rfl (hb hby d1_15) rfl  ?_
    show Steps p.tables e below (T19.setTop (mkF m 16 #[.val (.int p0), .val (.ref al), .val (.int (11 : Int32)), .val (.int (9 : Int32)), .val (.ref en8)] [(.int (9 : Int32)), (.ref al)])) _
    refine own_ldR X19 hx hZ e19 A_al rfl (j := (9 : Int32)) (k := 9) (v := .ref en9) rfl (by decide) (by decide) (by decide) (g := (mkF m 16 #[.val (.int p0), .val (.ref al), .val (.int (11 : Int32)), .val (.int (9 : Int32)), .val (.ref en8)] [(.int (9 : Int32)), (.ref al)])) rfl rfl (hb hby d1_16) ?_
    show Steps p.tables e below (T19.setTop (mkF m 17 #[.val (.int p0), .val (.ref al), .val (.int (11 : Int32)), .val (.int (9 : Int32)), .val (.ref en8)] [(.ref en9)])) _
    refine XS.astore X19.here hx rfl (hb hby d1_17) rfl rfl (l' := #[.val (.int p0), .val (.ref al), .val (.int (11 : Int32)), .val (.int (9 : Int32)), .val (.ref en9)]) rfl ?_
    show Steps p.tables e below (T19.setTop (mkF m 19 #[.val (.int p0), .val (.ref al), .val (.int (11 : Int32)), .val (.int (9 : Int32)), .val (.ref en9)] [])) _
    refine XS.aload X19.here hx rfl (hb hby d1_19) rfl rfl ?_
    exact k
  obtain ⟨T21, X21, e21, st21⟩ := getF X19 hx hZ hown (host := "") (Or.inl (hw _ (List.mem_of_getElem? (i := 8) rfl))) Via.refl e19 F_en9_status (g := (mkF m 21 #[.val (.int p0), .val (.ref al), .val (.int (11 : Int32)), .val (.int (9 : Int32)), .val (.ref en9)] [(.ref en9)])) rfl rfl (hb hby d1_21)
  obtain ⟨fs, hr, hrun, hended, hW, hsame⟩ := X21.leave (v := some (.ref en9)) (fun h => by rw [Bd.returns] at h; cases h) (BodyLoose.notSynchronized Bd)
  refine ⟨_, _, pre20 _ ?_, hrun, hended, _, _, rfl, ?_, ⟨_, rfl⟩, hW, hsame.mono (by decide) (by decide)⟩
  · show Steps p.tables e below (T19.setTop (mkF m 21 #[.val (.int p0), .val (.ref al), .val (.int (11 : Int32)), .val (.int (9 : Int32)), .val (.ref en9)] [(.ref en9)])) _
    refine st21 _ ?_
    show Steps p.tables e below (T21.setTop (mkF m 24 #[.val (.int p0), .val (.ref al), .val (.int (11 : Int32)), .val (.int (9 : Int32)), .val (.ref en9)] [(.int (429 : Int32))])) _
    refine XS.iloadN X21.here hx rfl (hb hby d1_24) rfl  ?_
    show Steps p.tables e below (T21.setTop (mkF m 25 #[.val (.int p0), .val (.ref al), .val (.int (11 : Int32)), .val (.int (9 : Int32)), .val (.ref en9)] [(.int p0), (.int (429 : Int32))])) _
    refine XS.icmpNo X21.here hx rfl (hb hby d1_25) rfl (teq ((by rw [hs]; first | done | decide) : (429 : Int32) = p0)).2 ?_
    show Steps p.tables e below (T21.setTop (mkF m 28 #[.val (.int p0), .val (.ref al), .val (.int (11 : Int32)), .val (.int (9 : Int32)), .val (.ref en9)] [])) _
    refine XS.aload X21.here hx rfl (hb hby d1_28) rfl rfl ?_
    show Steps p.tables e below (T21.setTop (mkF m 30 #[.val (.int p0), .val (.ref al), .val (.int (11 : Int32)), .val (.int (9 : Int32)), .val (.ref en9)] [(.ref en9)])) _
    exact retOut X21 hx Bd.returns rfl (Or.inr (Or.inr (Or.inr (Or.inr ⟨rfl, rfl, rfl⟩)))) (hb hby d1_30) hr
  · show Q_1t429 Z p0 en0 en1 en2 en3 en4 en5 en6 en7 en8 en9 en10 al h0 n0 _ T21.heap _
    rw [e21]
    exact ⟨rfl, N0, rfl⟩
theorem d2_22 : decode method_3_code 22 = .ok (.iload_n 0, 1) := by decide +kernel
theorem d2_23 : decode method_3_code 23 = .ok (.sipush 429, 3) := by decide +kernel
theorem d2_26 : decode method_3_code 26 = .ok (.if_icmp .ne 7, 3) := by decide +kernel
theorem d2_29 : decode method_3_code 29 = .ok (.getstatic 26, 3) := by decide +kernel
theorem d2_32 : decode method_3_code 32 = .ok (.areturn, 1) := by decide +kernel
theorem ef_2t429 (m : MethodId) (p0 : Int32) : entryFrame m #[(.int p0)] 1 = mkF m 0 #[.val (.int p0)] [] := by first | (simp [entryFrame, mkF, argsToLocals, Value.category]; done) | rfl
def Q_2t429 (Z : State) (p0 : Int32) (en0 : Addr) (en1 : Addr) (en2 : Addr) (en3 : Addr) (en4 : Addr) (en5 : Addr) (en6 : Addr) (en7 : Addr) (en8 : Addr) (en9 : Addr) (en10 : Addr) (h0 : Heap) (n0 : Nat) (v : Option Value) (h : Heap) (L : List Loc) : Prop := v = some (.ref en9) ∧ Fr n0 L ∧ h = h0
set_option maxRecDepth 65536 in
set_option maxHeartbeats 40000000 in
theorem rm_2t429 (l : Launch) (Z : State) (a0 : Array Value) (hw : ∀ d ∈ tables_1, d.before a0 Z = true) (ws : List Jvm.Cond) (p0 : Int32) (en0 : Addr) (en1 : Addr) (en2 : Addr) (en3 : Addr) (en4 : Addr) (en5 : Addr) (en6 : Addr) (en7 : Addr) (en8 : Addr) (en9 : Addr) (en10 : Addr) (h0 : Heap) (n0 : Nat) (Z0 : n0 ≤ h0.size) (S_ERROR : Sta Z h0 "com/example/fanoutd/fanoutd/proxy/NextUpstream$Condition" "ERROR" "Lcom/example/fanoutd/fanoutd/proxy/NextUpstream$Condition;" (.ref en0)) (S_TIMEOUT : Sta Z h0 "com/example/fanoutd/fanoutd/proxy/NextUpstream$Condition" "TIMEOUT" "Lcom/example/fanoutd/fanoutd/proxy/NextUpstream$Condition;" (.ref en1)) (S_INVALID_HEADER : Sta Z h0 "com/example/fanoutd/fanoutd/proxy/NextUpstream$Condition" "INVALID_HEADER" "Lcom/example/fanoutd/fanoutd/proxy/NextUpstream$Condition;" (.ref en2)) (S_HTTP_500 : Sta Z h0 "com/example/fanoutd/fanoutd/proxy/NextUpstream$Condition" "HTTP_500" "Lcom/example/fanoutd/fanoutd/proxy/NextUpstream$Condition;" (.ref en3)) (S_HTTP_502 : Sta Z h0 "com/example/fanoutd/fanoutd/proxy/NextUpstream$Condition" "HTTP_502" "Lcom/example/fanoutd/fanoutd/proxy/NextUpstream$Condition;" (.ref en4)) (S_HTTP_503 : Sta Z h0 "com/example/fanoutd/fanoutd/proxy/NextUpstream$Condition" "HTTP_503" "Lcom/example/fanoutd/fanoutd/proxy/NextUpstream$Condition;" (.ref en5)) (S_HTTP_504 : Sta Z h0 "com/example/fanoutd/fanoutd/proxy/NextUpstream$Condition" "HTTP_504" "Lcom/example/fanoutd/fanoutd/proxy/NextUpstream$Condition;" (.ref en6)) (S_HTTP_403 : Sta Z h0 "com/example/fanoutd/fanoutd/proxy/NextUpstream$Condition" "HTTP_403" "Lcom/example/fanoutd/fanoutd/proxy/NextUpstream$Condition;" (.ref en7)) (S_HTTP_404 : Sta Z h0 "com/example/fanoutd/fanoutd/proxy/NextUpstream$Condition" "HTTP_404" "Lcom/example/fanoutd/fanoutd/proxy/NextUpstream$Condition;" (.ref en8)) (S_HTTP_429 : Sta Z h0 "com/example/fanoutd/fanoutd/proxy/NextUpstream$Condition" "HTTP_429" "Lcom/example/fanoutd/fanoutd/proxy/NextUpstream$Condition;" (.ref en9)) (S_NON_IDEMPOTENT : Sta Z h0 "com/example/fanoutd/fanoutd/proxy/NextUpstream$Condition" "NON_IDEMPOTENT" "Lcom/example/fanoutd/fanoutd/proxy/NextUpstream$Condition;" (.ref en10)) (hs : p0 = (429 : Int32)) :
    MetFree l (⟨"com/example/fanoutd/fanoutd/proxy/ConditionOfStatusPinLaw", "expected", "(I)Lcom/example/fanoutd/fanoutd/proxy/NextUpstream$Condition;"⟩ : MethodName) (head1 (Jvm.Cond.code (⟨"com/example/fanoutd/fanoutd/proxy/ConditionOfStatusPinLaw", "expected", "(I)Lcom/example/fanoutd/fanoutd/proxy/NextUpstream$Condition;"⟩ : MethodName) method_3_code 1 (some (.object "com/example/fanoutd/fanoutd/proxy/NextUpstream$Condition")) :: ws) ({ frames := 0, cells := 0, slots := 0, locals := 0 } : Room)) (fun a U => a = #[(.int p0)] ∧ Z.Warmed39 U.vm ∧ U.heap = h0) (fun _ _ _ _ _ => True) (fun _ U o U' => ∃ v L, o = .returned v ∧ Q_2t429 Z p0 en0 en1 en2 en3 en4 en5 en6 en7 en8 en9 en10 h0 n0 v U'.heap L ∧ FrameEnd U o U' L ({ frames := 0, cells := 0, slots := 0, locals := 0 } : Room).cells ({ frames := 0, cells := 0, slots := 0, locals := 0 } : Room).slots) := by
  refine MetFree.of_bodySF (plainFor_of_name pn_2) hisR ?_
  intro p e s m args below meth c s₁ Bd hml0 hP hK
  obtain ⟨rfl, hZ, hh⟩ := hP
  have hx := Bd.exec
  have hby := Bd.bytes
  have hml : c.maxLocals = 1 := hml0
  have hown : s.vm.findClass "com/example/fanoutd/fanoutd/proxy/ConditionOfStatusPinLaw" = some m.cls := findClass_of_methodNamed Bd.named
  have hnm := (name_of_methodNamed Bd.named Bd.method).1
  have X0 : Stand p l e ({ frames := 0, cells := 0, slots := 0, locals := 0 } : Room) s m #[(.int p0)] below meth c s₁ [] 0 0 := Stand.of_body Bd
  have e0 : s₁.heap = h0 := by rw [← hh, Bd.state]; rfl
  have N0 := Fr.nil n0
  have K0 : Keep h0 h0 [] := Keep.refl h0 _
  have pre0 : ∀ t, Steps p.tables e below (s₁.setTop (mkF m 0 #[.val (.int p0)] [])) t → Steps p.tables e below (s₁.setTop (entryFrame m #[(.int p0)] 1)) t := fun t k => castTop (ef_2t429 m p0) k
  have pre1 : ∀ t, Steps p.tables e below (s₁.setTop (mkF m 29 #[.val (.int p0)] [])) t → Steps p.tables e below (s₁.setTop (entryFrame m #[(.int p0)] 1)) t := by
    intro t k
    refine pre0 t ?_
    show Steps p.tables e below (s₁.setTop (mkF m 0 #[.val (.int p0)] [])) _
    refine XS.iloadN X0.here hx rfl (hb hby d2_0) rfl  ?_
    show Steps p.tables e below (s₁.setTop (mkF m 1 #[.val (.int p0)] [(.int p0)])) _
    refine XS.sipush X0.here hx rfl (hb hby d2_1) ?_
    show Steps p.tables e below (s₁.setTop (mkF m 4 #[.val (.int p0)] [(.int (403 : Int32)), (.int p0)])) _
    refine XS.icmpYes X0.here hx rfl (pc0 := 4) (pc' := 11) rfl (hb hby d2_4) rfl (feq ((by rw [hs]; first | done | decide) : ¬ (p0 = (403 : Int32)))).2 (by decide) (by decide) ?_
    show Steps p.tables e below (s₁.setTop (mkF m 11 #[.val (.int p0)] [])) _
    refine XS.iloadN X0.here hx rfl (hb hby d2_11) rfl  ?_
    show Steps p.tables e below (s₁.setTop (mkF m 12 #[.val (.int p0)] [(.int p0)])) _
    refine XS.sipush X0.here hx rfl (hb hby d2_12) ?_
    show Steps p.tables e below (s₁.setTop (mkF m 15 #[.val (.int p0)] [(.int (404 : Int32)), (.int p0)])) _
    refine XS.icmpYes X0.here hx rfl (pc0 := 15) (pc' := 22) rfl (hb hby d2_15) rfl (feq ((by rw [hs]; first | done | decide) : ¬ (p0 = (404 : Int32)))).2 (by decide) (by decide) ?_
    show Steps p.tables e below (s₁.setTop (mkF m 22 #[.val (.int p0)] [])) _
    refine XS.iloadN X0.here hx rfl (hb hby d2_22) rfl  ?_
    show Steps p.tables e below (s₁.setTop (mkF m 23 #[.val (.int p0)] [(.int p0)])) _
    refine XS.sipush X0.here hx rfl (hb hby d2_23) ?_
    show Steps p.tables e below (s₁.setTop (mkF m 26 #[.val (.int p0)] [(.int (429 : Int32)), (.int p0)])) _
    refine XS.icmpNo X0.here hx rfl (hb hby d2_26) rfl (teq ((by rw [hs]; first | done | decide) : p0 = (429 : Int32))).2 ?_
    exact k
  obtain ⟨T2, X2, e2, st2⟩ := getS2 X0 hx hZ hown (host := "") (Or.inl (hw _ (List.mem_of_getElem? (i := 31) rfl))) Via.refl e0 S_HTTP_429 (g := (mkF m 29 #[.val (.int p0)] [])) rfl (hb hby d2_29)
  obtain ⟨fs, hr, hrun, hended, hW, hsame⟩ := X2.leave (v := some (.ref en9)) (fun h => by rw [Bd.returns] at h; cases h) (BodyLoose.notSynchronized Bd)
  refine ⟨_, _, pre1 _ ?_, hrun, hended, _, _, rfl, ?_, ⟨_, rfl⟩, hW, hsame.mono (by decide) (by decide)⟩
  · show Steps p.tables e below (s₁.setTop (mkF m 29 #[.val (.int p0)] [])) _
    refine st2 _ ?_
    show Steps p.tables e below (T2.setTop (mkF m 32 #[.val (.int p0)] [(.ref en9)])) _
    exact retOut X2 hx Bd.returns rfl (Or.inr (Or.inr (Or.inr (Or.inr ⟨rfl, rfl, rfl⟩)))) (hb hby d2_32) hr
  · show Q_2t429 Z p0 en0 en1 en2 en3 en4 en5 en6 en7 en8 en9 en10 h0 n0 _ T2.heap _
    rw [e2]
    exact ⟨rfl, N0, rfl⟩
theorem ef_1t500 (m : MethodId) (p0 : Int32) : entryFrame m #[(.int p0)] 5 = mkF m 0 #[.val (.int p0), .unset, .unset, .unset, .unset] [] := by first | (simp [entryFrame, mkF, argsToLocals, Value.category]; done) | rfl
def Q_1t500 (Z : State) (p0 : Int32) (en0 : Addr) (en1 : Addr) (en2 : Addr) (en3 : Addr) (en4 : Addr) (en5 : Addr) (en6 : Addr) (en7 : Addr) (en8 : Addr) (en9 : Addr) (en10 : Addr) (al : Addr) (h0 : Heap) (n0 : Nat) (v : Option Value) (h : Heap) (L : List Loc) : Prop := v = some (.ref en3) ∧ Fr n0 L ∧ h = h0
set_option maxRecDepth 65536 in
set_option maxHeartbeats 40000000 in
theorem rm_1t500 (l : Launch) (Z : State) (a0 : Array Value) (hw : ∀ d ∈ tables_1, d.before a0 Z = true) (ws : List Jvm.Cond) (p0 : Int32) (en0 : Addr) (en1 : Addr) (en2 : Addr) (en3 : Addr) (en4 : Addr) (en5 : Addr) (en6 : Addr) (en7 : Addr) (en8 : Addr) (en9 : Addr) (en10 : Addr) (al : Addr) (h0 : Heap) (n0 : Nat) (Z0 : n0 ≤ h0.size) (S_ERROR : Sta Z h0 "com/example/fanoutd/fanoutd/proxy/NextUpstream$Condition" "ERROR" "Lcom/example/fanoutd/fanoutd/proxy/NextUpstream$Condition;" (.ref en0)) (S_TIMEOUT : Sta Z h0 "com/example/fanoutd/fanoutd/proxy/NextUpstream$Condition" "TIMEOUT" "Lcom/example/fanoutd/fanoutd/proxy/NextUpstream$Condition;" (.ref en1)) (S_INVALID_HEADER : Sta Z h0 "com/example/fanoutd/fanoutd/proxy/NextUpstream$Condition" "INVALID_HEADER" "Lcom/example/fanoutd/fanoutd/proxy/NextUpstream$Condition;" (.ref en2)) (S_HTTP_500 : Sta Z h0 "com/example/fanoutd/fanoutd/proxy/NextUpstream$Condition" "HTTP_500" "Lcom/example/fanoutd/fanoutd/proxy/NextUpstream$Condition;" (.ref en3)) (S_HTTP_502 : Sta Z h0 "com/example/fanoutd/fanoutd/proxy/NextUpstream$Condition" "HTTP_502" "Lcom/example/fanoutd/fanoutd/proxy/NextUpstream$Condition;" (.ref en4)) (S_HTTP_503 : Sta Z h0 "com/example/fanoutd/fanoutd/proxy/NextUpstream$Condition" "HTTP_503" "Lcom/example/fanoutd/fanoutd/proxy/NextUpstream$Condition;" (.ref en5)) (S_HTTP_504 : Sta Z h0 "com/example/fanoutd/fanoutd/proxy/NextUpstream$Condition" "HTTP_504" "Lcom/example/fanoutd/fanoutd/proxy/NextUpstream$Condition;" (.ref en6)) (S_HTTP_403 : Sta Z h0 "com/example/fanoutd/fanoutd/proxy/NextUpstream$Condition" "HTTP_403" "Lcom/example/fanoutd/fanoutd/proxy/NextUpstream$Condition;" (.ref en7)) (S_HTTP_404 : Sta Z h0 "com/example/fanoutd/fanoutd/proxy/NextUpstream$Condition" "HTTP_404" "Lcom/example/fanoutd/fanoutd/proxy/NextUpstream$Condition;" (.ref en8)) (S_HTTP_429 : Sta Z h0 "com/example/fanoutd/fanoutd/proxy/NextUpstream$Condition" "HTTP_429" "Lcom/example/fanoutd/fanoutd/proxy/NextUpstream$Condition;" (.ref en9)) (S_NON_IDEMPOTENT : Sta Z h0 "com/example/fanoutd/fanoutd/proxy/NextUpstream$Condition" "NON_IDEMPOTENT" "Lcom/example/fanoutd/fanoutd/proxy/NextUpstream$Condition;" (.ref en10)) (S_ALL : Sta Z h0 "com/example/fanoutd/fanoutd/proxy/NextUpstream$Condition" "ALL" "[Lcom/example/fanoutd/fanoutd/proxy/NextUpstream$Condition;" (.ref al)) (A_al : own_A Z h0 al (.object "com/example/fanoutd/fanoutd/proxy/NextUpstream$Condition") 11 (fun i => (own_l en0 en1 en2 en3 en4 en5 en6 en7 en8 en9 en10) i)) (F_en0_status : Fld Z h0 en0 "com/example/fanoutd/fanoutd/proxy/NextUpstream$Condition" "status" "I" (.int (0 : Int32))) (F_en1_status : Fld Z h0 en1 "com/example/fanoutd/fanoutd/proxy/NextUpstream$Condition" "status" "I" (.int (0 : Int32))) (F_en2_status : Fld Z h0 en2 "com/example/fanoutd/fanoutd/proxy/NextUpstream$Condition" "status" "I" (.int (0 : Int32))) (F_en3_status : Fld Z h0 en3 "com/example/fanoutd/fanoutd/proxy/NextUpstream$Condition" "status" "I" (.int (500 : Int32))) (F_en4_status : Fld Z h0 en4 "com/example/fanoutd/fanoutd/proxy/NextUpstream$Condition" "status" "I" (.int (502 : Int32))) (F_en5_status : Fld Z h0 en5 "com/example/fanoutd/fanoutd/proxy/NextUpstream$Condition" "status" "I" (.int (503 : Int32))) (F_en6_status : Fld Z h0 en6 "com/example/fanoutd/fanoutd/proxy/NextUpstream$Condition" "status" "I" (.int (504 : Int32))) (F_en7_status : Fld Z h0 en7 "com/example/fanoutd/fanoutd/proxy/NextUpstream$Condition" "status" "I" (.int (403 : Int32))) (F_en8_status : Fld Z h0 en8 "com/example/fanoutd/fanoutd/proxy/NextUpstream$Condition" "status" "I" (.int (404 : Int32))) (F_en9_status : Fld Z h0 en9 "com/example/fanoutd/fanoutd/proxy/NextUpstream$Condition" "status" "I" (.int (429 : Int32))) (F_en10_status : Fld Z h0 en10 "com/example/fanoutd/fanoutd/proxy/NextUpstream$Condition" "status" "I" (.int (0 : Int32))) (hs : p0 = (500 : Int32)) :
    MetFree l (⟨"com/example/fanoutd/fanoutd/proxy/NextUpstream$Condition", "ofStatus", "(I)Lcom/example/fanoutd/fanoutd/proxy/NextUpstream$Condition;"⟩ : MethodName) (head1 (Jvm.Cond.code (⟨"com/example/fanoutd/fanoutd/proxy/NextUpstream$Condition", "ofStatus", "(I)Lcom/example/fanoutd/fanoutd/proxy/NextUpstream$Condition;"⟩ : MethodName) prog_62_method_7_code 5 (some (.object "com/example/fanoutd/fanoutd/proxy/NextUpstream$Condition")) :: ws) ({ frames := 0, cells := 0, slots := 0, locals := 0 } : Room)) (fun a U => a = #[(.int p0)] ∧ Z.Warmed39 U.vm ∧ U.heap = h0) (fun _ _ _ _ _ => True) (fun _ U o U' => ∃ v L, o = .returned v ∧ Q_1t500 Z p0 en0 en1 en2 en3 en4 en5 en6 en7 en8 en9 en10 al h0 n0 v U'.heap L ∧ FrameEnd U o U' L ({ frames := 0, cells := 0, slots := 0, locals := 0 } : Room).cells ({ frames := 0, cells := 0, slots := 0, locals := 0 } : Room).slots) := by
  refine MetFree.of_bodySF (plainFor_of_name pn_1) hisR ?_
  intro p e s m args below meth c s₁ Bd hml0 hP hK
  obtain ⟨rfl, hZ, hh⟩ := hP
  have hx := Bd.exec
  have hby := Bd.bytes
  have hml : c.maxLocals = 5 := hml0
  have hown : s.vm.findClass "com/example/fanoutd/fanoutd/proxy/NextUpstream$Condition" = some m.cls := findClass_of_methodNamed Bd.named
  have hnm := (name_of_methodNamed Bd.named Bd.method).1
  have X0 : Stand p l e ({ frames := 0, cells := 0, slots := 0, locals := 0 } : Room) s m #[(.int p0)] below meth c s₁ [] 0 0 := Stand.of_body Bd
  have e0 : s₁.heap = h0 := by rw [← hh, Bd.state]; rfl
  have N0 := Fr.nil n0
  have K0 : Keep h0 h0 [] := Keep.refl h0 _
  have pre0 : ∀ t, Steps p.tables e below (s₁.setTop (mkF m 0 #[.val (.int p0), .unset, .unset, .unset, .unset] [])) t → Steps p.tables e below (s₁.setTop (entryFrame m #[(.int p0)] 5)) t := fun t k => castTop (ef_1t500 m p0) k
  obtain ⟨T1, X1, e1, st1⟩ := getS2 X0 hx hZ hown (host := "") (Or.inl (hw _ (List.mem_of_getElem? (i := 5) rfl))) Via.refl e0 S_ALL (g := (mkF m 0 #[.val (.int p0), .unset, .unset, .unset, .unset] [])) rfl (hb hby d1_0)
  have pre2 : ∀ t, Steps p.tables e below (T1.setTop (mkF m 21 #[.val (.int p0), .val (.ref al), .val (.int (11 : Int32)), .val (.int (0 : Int32)), .val (.ref en0)] [(.ref en0)])) t → Steps p.tables e below (s₁.setTop (entryFrame m #[(.int p0)] 5)) t := by
    intro t k
    refine pre0 t ?_
    show Steps p.tables e below (s₁.setTop (mkF m 0 #[.val (.int p0), .unset, .unset, .unset, .unset] [])) _
    refine st1 _ ?_
    show Steps p.tables e below (T1.setTop (mkF m 3 #[.val (.int p0), .unset, .unset, .unset, .unset] [(.ref al)])) _
    refine XS.astoreN X1.here hx rfl (hb hby d1_3) rfl rfl (l' := #[.val (.int p0), .val (.ref al), .unset, .unset, .unset]) rfl ?_
    show Steps p.tables e below (T1.setTop (mkF m 4 #[.val (.int p0), .val (.ref al), .unset, .unset, .unset] [])) _
    refine XS.aloadN X1.here hx rfl (hb hby d1_4) rfl rfl ?_
    show Steps p.tables e below (T1.setTop (mkF m 5 #[.val (.int p0), .val (.ref al), .unset, .unset, .unset] [(.ref al)])) _
    refine own_len X1 hx hZ e1 A_al (z := (11 : Int32)) rfl (g := (mkF m 5 #[.val (.int p0), .val (.ref al), .unset, .unset, .unset] [(.ref al)])) rfl rfl (hb hby d1_5) ?_
    show Steps p.tables e below (T1.setTop (mkF m 6 #[.val (.int p0), .val (.ref al), .unset, .unset, .unset] [(.int (11 : Int32))])) _
    refine XS.istoreN X1.here hx rfl (hb hby d1_6) rfl (l' := #[.val (.int p0), .val (.ref al), .val (.int (11 : Int32)), .unset, .unset]) rfl ?_
    show Steps p.tables e below (T1.setTop (mkF m 7 #[.val (.int p0), .val (.ref al), .val (.int (11 : Int32)), .unset, .unset] [])) _
    refine XS.iconst X1.here hx rfl (hb hby d1_7) ?_
    show Steps p.tables e below (T1.setTop (mkF m 8 #[.val (.int p0), .val (.ref al), .val (.int (11 : Int32)), .unset, .unset] [(.int (0 : Int32))])) _
    refine XS.istoreN X1.here hx rfl (hb hby d1_8) rfl (l' := #[.val (.int p0), .val (.ref al), .val (.int (11 : Int32)), .val (.int (0 : Int32)), .unset]) rfl ?_
    show Steps p.tables e below (T1.setTop (mkF m 9 #[.val (.int p0), .val (.ref al), .val (.int (11 : Int32)), .val (.int (0 : Int32)), .unset] [])) _
    refine XS.iloadN X1.here hx rfl (hb hby d1_9) rfl  ?_
    show Steps p.tables e below (T1.setTop (mkF m 10 #[.val (.int p0), .val (.ref al), .val (.int (11 : Int32)), .val (.int (0 : Int32)), .unset] [(.int (0 : Int32))])) _
    refine XS.iloadN X1.here hx rfl (hb hby d1_10) rfl  ?_
    show Steps p.tables e below (T1.setTop (mkF m 11 #[.val (.int p0), .val (.ref al), .val (.int (11 : Int32)), .val (.int (0 : Int32)), .unset] [(.int (11 : Int32)), (.int (0 : Int32))])) _
    refine XS.icmpNo X1.here hx rfl (hb hby d1_11) rfl (tlt (by decide : (0 : Int32) < (11 : Int32))).2.1 ?_
    show Steps p.tables e below (T1.setTop (mkF m 14 #[.val (.int p0), .val (.ref al), .val (.int (11 : Int32)), .val (.int (0 : Int32)), .unset] [])) _
    refine XS.aloadN X1.here hx rfl (hb hby d1_14) rfl rfl ?_
    show Steps p.tables e below (T1.setTop (mkF m 15 #[.val (.int p0), .val (.ref al), .val (.int (11 : Int32)), .val (.int (0 : Int32)), .unset] [(.ref al)])) _
    refine XS.iloadN X1.here hx rfl (hb hby d1_15) rfl  ?_
    show Steps p.tables e below (T1.setTop (mkF m 16 #[.val (.int p0), .val (.ref al), .val (.int (11 : Int32)), .val (.int (0 : Int32)), .unset] [(.int (0 : Int32)), (.ref al)])) _
    refine own_ldR X1 hx hZ e1 A_al rfl (j := (0 : Int32)) (k := 0) (v := .ref en0) rfl (by decide) (by decide) (by decide) (g := (mkF m 16 #[.val (.int p0), .val (.ref al), .val (.int (11 : Int32)), .val (.int (0 : Int32)), .unset] [(.int (0 : Int32)), (.ref al)])) rfl rfl (hb hby d1_16) ?_
    show Steps p.tables e below (T1.setTop (mkF m 17 #[.val (.int p0), .val (.ref al), .val (.int (11 : Int32)), .val (.int (0 : Int32)), .unset] [(.ref en0)])) _
    refine XS.astore X1.here hx rfl (hb hby d1_17) rfl rfl (l' := #[.val (.int p0), .val (.ref al), .val (.int (11 : Int32)), .val (.int (0 : Int32)), .val (.ref en0)]) rfl ?_
    show Steps p.tables e below (T1.setTop (mkF m 19 #[.val (.int p0), .val (.ref al), .val (.int (11 : Int32)), .val (.int (0 : Int32)), .val (.ref en0)] [])) _
    refine XS.aload X1.here hx rfl (hb hby d1_19) rfl rfl ?_
    exact k
  obtain ⟨T3, X3, e3, st3⟩ := getF X1 hx hZ hown (host := "") (Or.inl (hw _ (List.mem_of_getElem? (i := 8) rfl))) Via.refl e1 F_en0_status (g := (mkF m 21 #[.val (.int p0), .val (.ref al), .val (.int (11 : Int32)), .val (.int (0 : Int32)), .val (.ref en0)] [(.ref en0)])) rfl rfl (hb hby d1_21)
  have pre4 : ∀ t, Steps p.tables e below (T3.setTop (mkF m 21 #[.val (.int p0), .val (.ref al), .val (.int (11 : Int32)), .val (.int (1 : Int32)), .val (.ref en1)] [(.ref en1)])) t → Steps p.tables e below (s₁.setTop (entryFrame m #[(.int p0)] 5)) t := by
    intro t k
    refine pre2 t ?_
    show Steps p.tables e below (T1.setTop (mkF m 21 #[.val (.int p0), .val (.ref al), .val (.int (11 : Int32)), .val (.int (0 : Int32)), .val (.ref en0)] [(.ref en0)])) _
    refine st3 _ ?_
    show Steps p.tables e below (T3.setTop (mkF m 24 #[.val (.int p0), .val (.ref al), .val (.int (11 : Int32)), .val (.int (0 : Int32)), .val (.ref en0)] [(.int (0 : Int32))])) _
    refine XS.iloadN X3.here hx rfl (hb hby d1_24) rfl  ?_
    show Steps p.tables e below (T3.setTop (mkF m 25 #[.val (.int p0), .val (.ref al), .val (.int (11 : Int32)), .val (.int (0 : Int32)), .val (.ref en0)] [(.int p0), (.int (0 : Int32))])) _
    refine XS.icmpYes X3.here hx rfl (pc0 := 25) (pc' := 31) rfl (hb hby d1_25) rfl (feq ((by rw [hs]; first | done | decide) : ¬ ((0 : Int32) = p0))).2 (by decide) (by decide) ?_
    show Steps p.tables e below (T3.setTop (mkF m 31 #[.val (.int p0), .val (.ref al), .val (.int (11 : Int32)), .val (.int (0 : Int32)), .val (.ref en0)] [])) _
    refine XS.iinc X3.here hx rfl (hb hby d1_31) rfl (l' := #[.val (.int p0), .val (.ref al), .val (.int (11 : Int32)), .val (.int (1 : Int32)), .val (.ref en0)]) rfl ?_
    show Steps p.tables e below (T3.setTop (mkF m 34 #[.val (.int p0), .val (.ref al), .val (.int (11 : Int32)), .val (.int (1 : Int32)), .val (.ref en0)] [])) _
    refine XS.goto X3.here hx rfl (pc0 := 34) (pc' := 9) rfl (hb hby d1_34) (by decide) (by decide) ?_
    show Steps p.tables e below (T3.setTop (mkF m 9 #[.val (.int p0), .val (.ref al), .val (.int (11 : Int32)), .val (.int (1 : Int32)), .val (.ref en0)] [])) _
    refine XS.iloadN X3.here hx rfl (hb hby d1_9) rfl  ?_
    show Steps p.tables e below (T3.setTop (mkF m 10 #[.val (.int p0), .val (.ref al), .val (.int (11 : Int32)), .val (.int (1 : Int32)), .val (.ref en0)] [(.int (1 : Int32))])) _
    refine XS.iloadN X3.here hx rfl (hb hby d1_10) rfl  ?_
    show Steps p.tables e below (T3.setTop (mkF m 11 #[.val (.int p0), .val (.ref al), .val (.int (11 : Int32)), .val (.int (1 : Int32)), .val (.ref en0)] [(.int (11 : Int32)), (.int (1 : Int32))])) _
    refine XS.icmpNo X3.here hx rfl (hb hby d1_11) rfl (tlt (by decide : (1 : Int32) < (11 : Int32))).2.1 ?_
    show Steps p.tables e below (T3.setTop (mkF m 14 #[.val (.int p0), .val (.ref al), .val (.int (11 : Int32)), .val (.int (1 : Int32)), .val (.ref en0)] [])) _
    refine XS.aloadN X3.here hx rfl (hb hby d1_14) rfl rfl ?_
    show Steps p.tables e below (T3.setTop (mkF m 15 #[.val (.int p0), .val (.ref al), .val (.int (11 : Int32)), .val (.int (1 : Int32)), .val (.ref en0)] [(.ref al)])) _
    refine XS.iloadN X3.here hx rfl (hb hby d1_15) rfl  ?_
    show Steps p.tables e below (T3.setTop (mkF m 16 #[.val (.int p0), .val (.ref al), .val (.int (11 : Int32)), .val (.int (1 : Int32)), .val (.ref en0)] [(.int (1 : Int32)), (.ref al)])) _
    refine own_ldR X3 hx hZ e3 A_al rfl (j := (1 : Int32)) (k := 1) (v := .ref en1) rfl (by decide) (by decide) (by decide) (g := (mkF m 16 #[.val (.int p0), .val (.ref al), .val (.int (11 : Int32)), .val (.int (1 : Int32)), .val (.ref en0)] [(.int (1 : Int32)), (.ref al)])) rfl rfl (hb hby d1_16) ?_
    show Steps p.tables e below (T3.setTop (mkF m 17 #[.val (.int p0), .val (.ref al), .val (.int (11 : Int32)), .val (.int (1 : Int32)), .val (.ref en0)] [(.ref en1)])) _
    refine XS.astore X3.here hx rfl (hb hby d1_17) rfl rfl (l' := #[.val (.int p0), .val (.ref al), .val (.int (11 : Int32)), .val (.int (1 : Int32)), .val (.ref en1)]) rfl ?_
    show Steps p.tables e below (T3.setTop (mkF m 19 #[.val (.int p0), .val (.ref al), .val (.int (11 : Int32)), .val (.int (1 : Int32)), .val (.ref en1)] [])) _
    refine XS.aload X3.here hx rfl (hb hby d1_19) rfl rfl ?_
    exact k
  obtain ⟨T5, X5, e5, st5⟩ := getF X3 hx hZ hown (host := "") (Or.inl (hw _ (List.mem_of_getElem? (i := 8) rfl))) Via.refl e3 F_en1_status (g := (mkF m 21 #[.val (.int p0), .val (.ref al), .val (.int (11 : Int32)), .val (.int (1 : Int32)), .val (.ref en1)] [(.ref en1)])) rfl rfl (hb hby d1_21)
  have pre6 : ∀ t, Steps p.tables e below (T5.setTop (mkF m 21 #[.val (.int p0), .val (.ref al), .val (.int (11 : Int32)), .val (.int (2 : Int32)), .val (.ref en2)] [(.ref en2)])) t → Steps p.tables e below (s₁.setTop (entryFrame m #[(.int p0)] 5)) t := by
    intro t k
    refine pre4 t ?_
    show Steps p.tables e below (T3.setTop (mkF m 21 #[.val (.int p0), .val (.ref al), .val (.int (11 : Int32)), .val (.int (1 : Int32)), .val (.ref en1)] [(.ref en1)])) _
    refine st5 _ ?_
    show Steps p.tables e below (T5.setTop (mkF m 24 #[.val (.int p0), .val (.ref al), .val (.int (11 : Int32)), .val (.int (1 : Int32)), .val (.ref en1)] [(.int (0 : Int32))])) _
    refine XS.iloadN X5.here hx rfl (hb hby d1_24) rfl  ?_
    show Steps p.tables e below (T5.setTop (mkF m 25 #[.val (.int p0), .val (.ref al), .val (.int (11 : Int32)), .val (.int (1 : Int32)), .val (.ref en1)] [(.int p0), (.int (0 : Int32))])) _
    refine XS.icmpYes X5.here hx rfl (pc0 := 25) (pc' := 31) rfl (hb hby d1_25) rfl (feq ((by rw [hs]; first | done | decide) : ¬ ((0 : Int32) = p0))).2 (by decide) (by decide) ?_
    show Steps p.tables e below (T5.setTop (mkF m 31 #[.val (.int p0), .val (.ref al), .val (.int (11 : Int32)), .val (.int (1 : Int32)), .val (.ref en1)] [])) _
    refine XS.iinc X5.here hx rfl (hb hby d1_31) rfl (l' := #[.val (.int p0), .val (.ref al), .val (.int (11 : Int32)), .val (.int (2 : Int32)), .val (.ref en1)]) rfl ?_
    show Steps p.tables e below (T5.setTop (mkF m 34 #[.val (.int p0), .val (.ref al), .val (.int (11 : Int32)), .val (.int (2 : Int32)), .val (.ref en1)] [])) _
    refine XS.goto X5.here hx rfl (pc0 := 34) (pc' := 9) rfl (hb hby d1_34) (by decide) (by decide) ?_
    show Steps p.tables e below (T5.setTop (mkF m 9 #[.val (.int p0), .val (.ref al), .val (.int (11 : Int32)), .val (.int (2 : Int32)), .val (.ref en1)] [])) _
    refine XS.iloadN X5.here hx rfl (hb hby d1_9) rfl  ?_
    show Steps p.tables e below (T5.setTop (mkF m 10 #[.val (.int p0), .val (.ref al), .val (.int (11 : Int32)), .val (.int (2 : Int32)), .val (.ref en1)] [(.int (2 : Int32))])) _
    refine XS.iloadN X5.here hx rfl (hb hby d1_10) rfl  ?_
    show Steps p.tables e below (T5.setTop (mkF m 11 #[.val (.int p0), .val (.ref al), .val (.int (11 : Int32)), .val (.int (2 : Int32)), .val (.ref en1)] [(.int (11 : Int32)), (.int (2 : Int32))])) _
    refine XS.icmpNo X5.here hx rfl (hb hby d1_11) rfl (tlt (by decide : (2 : Int32) < (11 : Int32))).2.1 ?_
    show Steps p.tables e below (T5.setTop (mkF m 14 #[.val (.int p0), .val (.ref al), .val (.int (11 : Int32)), .val (.int (2 : Int32)), .val (.ref en1)] [])) _
    refine XS.aloadN X5.here hx rfl (hb hby d1_14) rfl rfl ?_
    show Steps p.tables e below (T5.setTop (mkF m 15 #[.val (.int p0), .val (.ref al), .val (.int (11 : Int32)), .val (.int (2 : Int32)), .val (.ref en1)] [(.ref al)])) _
    refine XS.iloadN X5.here hx rfl (hb hby d1_15) rfl  ?_
    show Steps p.tables e below (T5.setTop (mkF m 16 #[.val (.int p0), .val (.ref al), .val (.int (11 : Int32)), .val (.int (2 : Int32)), .val (.ref en1)] [(.int (2 : Int32)), (.ref al)])) _
    refine own_ldR X5 hx hZ e5 A_al rfl (j := (2 : Int32)) (k := 2) (v := .ref en2) rfl (by decide) (by decide) (by decide) (g := (mkF m 16 #[.val (.int p0), .val (.ref al), .val (.int (11 : Int32)), .val (.int (2 : Int32)), .val (.ref en1)] [(.int (2 : Int32)), (.ref al)])) rfl rfl (hb hby d1_16) ?_
    show Steps p.tables e below (T5.setTop (mkF m 17 #[.val (.int p0), .val (.ref al), .val (.int (11 : Int32)), .val (.int (2 : Int32)), .val (.ref en1)] [(.ref en2)])) _
    refine XS.astore X5.here hx rfl (hb hby d1_17) rfl rfl (l' := #[.val (.int p0), .val (.ref al), .val (.int (11 : Int32)), .val (.int (2 : Int32)), .val (.ref en2)]) rfl ?_
    show Steps p.tables e below (T5.setTop (mkF m 19 #[.val (.int p0), .val (.ref al), .val (.int (11 : Int32)), .val (.int (2 : Int32)), .val (.ref en2)] [])) _
    refine XS.aload X5.here hx rfl (hb hby d1_19) rfl rfl ?_
    exact k
  obtain ⟨T7, X7, e7, st7⟩ := getF X5 hx hZ hown (host := "") (Or.inl (hw _ (List.mem_of_getElem? (i := 8) rfl))) Via.refl e5 F_en2_status (g := (mkF m 21 #[.val (.int p0), .val (.ref al), .val (.int (11 : Int32)), .val (.int (2 : Int32)), .val (.ref en2)] [(.ref en2)])) rfl rfl (hb hby d1_21)
  have pre8 : ∀ t, Steps p.tables e below (T7.setTop (mkF m 21 #[.val (.int p0), .val (.ref al), .val (.int (11 : Int32)), .val (.int (3 : Int32)), .val (.ref en3)] [(.ref en3)])) t → Steps p.tables e below (s₁.setTop (entryFrame m #[(.int p0)] 5)) t := by
    intro t k
    refine pre6 t ?_
    show Steps p.tables e below (T5.setTop (mkF m 21 #[.val (.int p0), .val (.ref al), .val (.int (11 : Int32)), .val (.int (2 : Int32)), .val (.ref en2)] [(.ref en2)])) _
    refine st7 _ ?_
    show Steps p.tables e below (T7.setTop (mkF m 24 #[.val (.int p0), .val (.ref al), .val (.int (11 : Int32)), .val (.int (2 : Int32)), .val (.ref en2)] [(.int (0 : Int32))])) _
    refine XS.iloadN X7.here hx rfl (hb hby d1_24) rfl  ?_
    show Steps p.tables e below (T7.setTop (mkF m 25 #[.val (.int p0), .val (.ref al), .val (.int (11 : Int32)), .val (.int (2 : Int32)), .val (.ref en2)] [(.int p0), (.int (0 : Int32))])) _
    refine XS.icmpYes X7.here hx rfl (pc0 := 25) (pc' := 31) rfl (hb hby d1_25) rfl (feq ((by rw [hs]; first | done | decide) : ¬ ((0 : Int32) = p0))).2 (by decide) (by decide) ?_
    show Steps p.tables e below (T7.setTop (mkF m 31 #[.val (.int p0), .val (.ref al), .val (.int (11 : Int32)), .val (.int (2 : Int32)), .val (.ref en2)] [])) _
    refine XS.iinc X7.here hx rfl (hb hby d1_31) rfl (l' := #[.val (.int p0), .val (.ref al), .val (.int (11 : Int32)), .val (.int (3 : Int32)), .val (.ref en2)]) rfl ?_
    show Steps p.tables e below (T7.setTop (mkF m 34 #[.val (.int p0), .val (.ref al), .val (.int (11 : Int32)), .val (.int (3 : Int32)), .val (.ref en2)] [])) _
    refine XS.goto X7.here hx rfl (pc0 := 34) (pc' := 9) rfl (hb hby d1_34) (by decide) (by decide) ?_
    show Steps p.tables e below (T7.setTop (mkF m 9 #[.val (.int p0), .val (.ref al), .val (.int (11 : Int32)), .val (.int (3 : Int32)), .val (.ref en2)] [])) _
    refine XS.iloadN X7.here hx rfl (hb hby d1_9) rfl  ?_
    show Steps p.tables e below (T7.setTop (mkF m 10 #[.val (.int p0), .val (.ref al), .val (.int (11 : Int32)), .val (.int (3 : Int32)), .val (.ref en2)] [(.int (3 : Int32))])) _
    refine XS.iloadN X7.here hx rfl (hb hby d1_10) rfl  ?_
    show Steps p.tables e below (T7.setTop (mkF m 11 #[.val (.int p0), .val (.ref al), .val (.int (11 : Int32)), .val (.int (3 : Int32)), .val (.ref en2)] [(.int (11 : Int32)), (.int (3 : Int32))])) _
    refine XS.icmpNo X7.here hx rfl (hb hby d1_11) rfl (tlt (by decide : (3 : Int32) < (11 : Int32))).2.1 ?_
    show Steps p.tables e below (T7.setTop (mkF m 14 #[.val (.int p0), .val (.ref al), .val (.int (11 : Int32)), .val (.int (3 : Int32)), .val (.ref en2)] [])) _
    refine XS.aloadN X7.here hx rfl (hb hby d1_14) rfl rfl ?_
    show Steps p.tables e below (T7.setTop (mkF m 15 #[.val (.int p0), .val (.ref al), .val (.int (11 : Int32)), .val (.int (3 : Int32)), .val (.ref en2)] [(.ref al)])) _
    refine XS.iloadN X7.here hx rfl (hb hby d1_15) rfl  ?_
    show Steps p.tables e below (T7.setTop (mkF m 16 #[.val (.int p0), .val (.ref al), .val (.int (11 : Int32)), .val (.int (3 : Int32)), .val (.ref en2)] [(.int (3 : Int32)), (.ref al)])) _
    refine own_ldR X7 hx hZ e7 A_al rfl (j := (3 : Int32)) (k := 3) (v := .ref en3) rfl (by decide) (by decide) (by decide) (g := (mkF m 16 #[.val (.int p0), .val (.ref al), .val (.int (11 : Int32)), .val (.int (3 : Int32)), .val (.ref en2)] [(.int (3 : Int32)), (.ref al)])) rfl rfl (hb hby d1_16) ?_
    show Steps p.tables e below (T7.setTop (mkF m 17 #[.val (.int p0), .val (.ref al), .val (.int (11 : Int32)), .val (.int (3 : Int32)), .val (.ref en2)] [(.ref en3)])) _
    refine XS.astore X7.here hx rfl (hb hby d1_17) rfl rfl (l' := #[.val (.int p0), .val (.ref al), .val (.int (11 : Int32)), .val (.int (3 : Int32)), .val (.ref en3)]) rfl ?_
    show Steps p.tables e below (T7.setTop (mkF m 19 #[.val (.int p0), .val (.ref al), .val (.int (11 : Int32)), .val (.int (3 : Int32)), .val (.ref en3)] [])) _
    refine XS.aload X7.here hx rfl (hb hby d1_19) rfl rfl ?_
    exact k
  obtain ⟨T9, X9, e9, st9⟩ := getF X7 hx hZ hown (host := "") (Or.inl (hw _ (List.mem_of_getElem? (i := 8) rfl))) Via.refl e7 F_en3_status (g := (mkF m 21 #[.val (.int p0), .val (.ref al), .val (.int (11 : Int32)), .val (.int (3 : Int32)), .val (.ref en3)] [(.ref en3)])) rfl rfl (hb hby d1_21)
  obtain ⟨fs, hr, hrun, hended, hW, hsame⟩ := X9.leave (v := some (.ref en3)) (fun h => by rw [Bd.returns] at h; cases h) (BodyLoose.notSynchronized Bd)
  refine ⟨_, _, pre8 _ ?_, hrun, hended, _, _, rfl, ?_, ⟨_, rfl⟩, hW, hsame.mono (by decide) (by decide)⟩
  · show Steps p.tables e below (T7.setTop (mkF m 21 #[.val (.int p0), .val (.ref al), .val (.int (11 : Int32)), .val (.int (3 : Int32)), .val (.ref en3)] [(.ref en3)])) _
    refine st9 _ ?_
    show Steps p.tables e below (T9.setTop (mkF m 24 #[.val (.int p0), .val (.ref al), .val (.int (11 : Int32)), .val (.int (3 : Int32)), .val (.ref en3)] [(.int (500 : Int32))])) _
    refine XS.iloadN X9.here hx rfl (hb hby d1_24) rfl  ?_
    show Steps p.tables e below (T9.setTop (mkF m 25 #[.val (.int p0), .val (.ref al), .val (.int (11 : Int32)), .val (.int (3 : Int32)), .val (.ref en3)] [(.int p0), (.int (500 : Int32))])) _
    refine XS.icmpNo X9.here hx rfl (hb hby d1_25) rfl (teq ((by rw [hs]; first | done | decide) : (500 : Int32) = p0)).2 ?_
    show Steps p.tables e below (T9.setTop (mkF m 28 #[.val (.int p0), .val (.ref al), .val (.int (11 : Int32)), .val (.int (3 : Int32)), .val (.ref en3)] [])) _
    refine XS.aload X9.here hx rfl (hb hby d1_28) rfl rfl ?_
    show Steps p.tables e below (T9.setTop (mkF m 30 #[.val (.int p0), .val (.ref al), .val (.int (11 : Int32)), .val (.int (3 : Int32)), .val (.ref en3)] [(.ref en3)])) _
    exact retOut X9 hx Bd.returns rfl (Or.inr (Or.inr (Or.inr (Or.inr ⟨rfl, rfl, rfl⟩)))) (hb hby d1_30) hr
  · show Q_1t500 Z p0 en0 en1 en2 en3 en4 en5 en6 en7 en8 en9 en10 al h0 n0 _ T9.heap _
    rw [e9]
    exact ⟨rfl, N0, rfl⟩
theorem d2_33 : decode method_3_code 33 = .ok (.iload_n 0, 1) := by decide +kernel
theorem d2_34 : decode method_3_code 34 = .ok (.sipush 500, 3) := by decide +kernel
theorem d2_37 : decode method_3_code 37 = .ok (.if_icmp .ne 7, 3) := by decide +kernel
theorem d2_40 : decode method_3_code 40 = .ok (.getstatic 29, 3) := by decide +kernel
theorem d2_43 : decode method_3_code 43 = .ok (.areturn, 1) := by decide +kernel
theorem ef_2t500 (m : MethodId) (p0 : Int32) : entryFrame m #[(.int p0)] 1 = mkF m 0 #[.val (.int p0)] [] := by first | (simp [entryFrame, mkF, argsToLocals, Value.category]; done) | rfl
def Q_2t500 (Z : State) (p0 : Int32) (en0 : Addr) (en1 : Addr) (en2 : Addr) (en3 : Addr) (en4 : Addr) (en5 : Addr) (en6 : Addr) (en7 : Addr) (en8 : Addr) (en9 : Addr) (en10 : Addr) (h0 : Heap) (n0 : Nat) (v : Option Value) (h : Heap) (L : List Loc) : Prop := v = some (.ref en3) ∧ Fr n0 L ∧ h = h0
set_option maxRecDepth 65536 in
set_option maxHeartbeats 40000000 in
theorem rm_2t500 (l : Launch) (Z : State) (a0 : Array Value) (hw : ∀ d ∈ tables_1, d.before a0 Z = true) (ws : List Jvm.Cond) (p0 : Int32) (en0 : Addr) (en1 : Addr) (en2 : Addr) (en3 : Addr) (en4 : Addr) (en5 : Addr) (en6 : Addr) (en7 : Addr) (en8 : Addr) (en9 : Addr) (en10 : Addr) (h0 : Heap) (n0 : Nat) (Z0 : n0 ≤ h0.size) (S_ERROR : Sta Z h0 "com/example/fanoutd/fanoutd/proxy/NextUpstream$Condition" "ERROR" "Lcom/example/fanoutd/fanoutd/proxy/NextUpstream$Condition;" (.ref en0)) (S_TIMEOUT : Sta Z h0 "com/example/fanoutd/fanoutd/proxy/NextUpstream$Condition" "TIMEOUT" "Lcom/example/fanoutd/fanoutd/proxy/NextUpstream$Condition;" (.ref en1)) (S_INVALID_HEADER : Sta Z h0 "com/example/fanoutd/fanoutd/proxy/NextUpstream$Condition" "INVALID_HEADER" "Lcom/example/fanoutd/fanoutd/proxy/NextUpstream$Condition;" (.ref en2)) (S_HTTP_500 : Sta Z h0 "com/example/fanoutd/fanoutd/proxy/NextUpstream$Condition" "HTTP_500" "Lcom/example/fanoutd/fanoutd/proxy/NextUpstream$Condition;" (.ref en3)) (S_HTTP_502 : Sta Z h0 "com/example/fanoutd/fanoutd/proxy/NextUpstream$Condition" "HTTP_502" "Lcom/example/fanoutd/fanoutd/proxy/NextUpstream$Condition;" (.ref en4)) (S_HTTP_503 : Sta Z h0 "com/example/fanoutd/fanoutd/proxy/NextUpstream$Condition" "HTTP_503" "Lcom/example/fanoutd/fanoutd/proxy/NextUpstream$Condition;" (.ref en5)) (S_HTTP_504 : Sta Z h0 "com/example/fanoutd/fanoutd/proxy/NextUpstream$Condition" "HTTP_504" "Lcom/example/fanoutd/fanoutd/proxy/NextUpstream$Condition;" (.ref en6)) (S_HTTP_403 : Sta Z h0 "com/example/fanoutd/fanoutd/proxy/NextUpstream$Condition" "HTTP_403" "Lcom/example/fanoutd/fanoutd/proxy/NextUpstream$Condition;" (.ref en7)) (S_HTTP_404 : Sta Z h0 "com/example/fanoutd/fanoutd/proxy/NextUpstream$Condition" "HTTP_404" "Lcom/example/fanoutd/fanoutd/proxy/NextUpstream$Condition;" (.ref en8)) (S_HTTP_429 : Sta Z h0 "com/example/fanoutd/fanoutd/proxy/NextUpstream$Condition" "HTTP_429" "Lcom/example/fanoutd/fanoutd/proxy/NextUpstream$Condition;" (.ref en9)) (S_NON_IDEMPOTENT : Sta Z h0 "com/example/fanoutd/fanoutd/proxy/NextUpstream$Condition" "NON_IDEMPOTENT" "Lcom/example/fanoutd/fanoutd/proxy/NextUpstream$Condition;" (.ref en10)) (hs : p0 = (500 : Int32)) :
    MetFree l (⟨"com/example/fanoutd/fanoutd/proxy/ConditionOfStatusPinLaw", "expected", "(I)Lcom/example/fanoutd/fanoutd/proxy/NextUpstream$Condition;"⟩ : MethodName) (head1 (Jvm.Cond.code (⟨"com/example/fanoutd/fanoutd/proxy/ConditionOfStatusPinLaw", "expected", "(I)Lcom/example/fanoutd/fanoutd/proxy/NextUpstream$Condition;"⟩ : MethodName) method_3_code 1 (some (.object "com/example/fanoutd/fanoutd/proxy/NextUpstream$Condition")) :: ws) ({ frames := 0, cells := 0, slots := 0, locals := 0 } : Room)) (fun a U => a = #[(.int p0)] ∧ Z.Warmed39 U.vm ∧ U.heap = h0) (fun _ _ _ _ _ => True) (fun _ U o U' => ∃ v L, o = .returned v ∧ Q_2t500 Z p0 en0 en1 en2 en3 en4 en5 en6 en7 en8 en9 en10 h0 n0 v U'.heap L ∧ FrameEnd U o U' L ({ frames := 0, cells := 0, slots := 0, locals := 0 } : Room).cells ({ frames := 0, cells := 0, slots := 0, locals := 0 } : Room).slots) := by
  refine MetFree.of_bodySF (plainFor_of_name pn_2) hisR ?_
  intro p e s m args below meth c s₁ Bd hml0 hP hK
  obtain ⟨rfl, hZ, hh⟩ := hP
  have hx := Bd.exec
  have hby := Bd.bytes
  have hml : c.maxLocals = 1 := hml0
  have hown : s.vm.findClass "com/example/fanoutd/fanoutd/proxy/ConditionOfStatusPinLaw" = some m.cls := findClass_of_methodNamed Bd.named
  have hnm := (name_of_methodNamed Bd.named Bd.method).1
  have X0 : Stand p l e ({ frames := 0, cells := 0, slots := 0, locals := 0 } : Room) s m #[(.int p0)] below meth c s₁ [] 0 0 := Stand.of_body Bd
  have e0 : s₁.heap = h0 := by rw [← hh, Bd.state]; rfl
  have N0 := Fr.nil n0
  have K0 : Keep h0 h0 [] := Keep.refl h0 _
  have pre0 : ∀ t, Steps p.tables e below (s₁.setTop (mkF m 0 #[.val (.int p0)] [])) t → Steps p.tables e below (s₁.setTop (entryFrame m #[(.int p0)] 1)) t := fun t k => castTop (ef_2t500 m p0) k
  have pre1 : ∀ t, Steps p.tables e below (s₁.setTop (mkF m 40 #[.val (.int p0)] [])) t → Steps p.tables e below (s₁.setTop (entryFrame m #[(.int p0)] 1)) t := by
    intro t k
    refine pre0 t ?_
    show Steps p.tables e below (s₁.setTop (mkF m 0 #[.val (.int p0)] [])) _
    refine XS.iloadN X0.here hx rfl (hb hby d2_0) rfl  ?_
    show Steps p.tables e below (s₁.setTop (mkF m 1 #[.val (.int p0)] [(.int p0)])) _
    refine XS.sipush X0.here hx rfl (hb hby d2_1) ?_
    show Steps p.tables e below (s₁.setTop (mkF m 4 #[.val (.int p0)] [(.int (403 : Int32)), (.int p0)])) _
    refine XS.icmpYes X0.here hx rfl (pc0 := 4) (pc' := 11) rfl (hb hby d2_4) rfl (feq ((by rw [hs]; first | done | decide) : ¬ (p0 = (403 : Int32)))).2 (by decide) (by decide) ?_
    show Steps p.tables e below (s₁.setTop (mkF m 11 #[.val (.int p0)] [])) _
    refine XS.iloadN X0.here hx rfl (hb hby d2_11) rfl  ?_
    show Steps p.tables e below (s₁.setTop (mkF m 12 #[.val (.int p0)] [(.int p0)])) _
    refine XS.sipush X0.here hx rfl (hb hby d2_12) ?_
    show Steps p.tables e below (s₁.setTop (mkF m 15 #[.val (.int p0)] [(.int (404 : Int32)), (.int p0)])) _
    refine XS.icmpYes X0.here hx rfl (pc0 := 15) (pc' := 22) rfl (hb hby d2_15) rfl (feq ((by rw [hs]; first | done | decide) : ¬ (p0 = (404 : Int32)))).2 (by decide) (by decide) ?_
    show Steps p.tables e below (s₁.setTop (mkF m 22 #[.val (.int p0)] [])) _
    refine XS.iloadN X0.here hx rfl (hb hby d2_22) rfl  ?_
    show Steps p.tables e below (s₁.setTop (mkF m 23 #[.val (.int p0)] [(.int p0)])) _
    refine XS.sipush X0.here hx rfl (hb hby d2_23) ?_
    show Steps p.tables e below (s₁.setTop (mkF m 26 #[.val (.int p0)] [(.int (429 : Int32)), (.int p0)])) _
    refine XS.icmpYes X0.here hx rfl (pc0 := 26) (pc' := 33) rfl (hb hby d2_26) rfl (feq ((by rw [hs]; first | done | decide) : ¬ (p0 = (429 : Int32)))).2 (by decide) (by decide) ?_
    show Steps p.tables e below (s₁.setTop (mkF m 33 #[.val (.int p0)] [])) _
    refine XS.iloadN X0.here hx rfl (hb hby d2_33) rfl  ?_
    show Steps p.tables e below (s₁.setTop (mkF m 34 #[.val (.int p0)] [(.int p0)])) _
    refine XS.sipush X0.here hx rfl (hb hby d2_34) ?_
    show Steps p.tables e below (s₁.setTop (mkF m 37 #[.val (.int p0)] [(.int (500 : Int32)), (.int p0)])) _
    refine XS.icmpNo X0.here hx rfl (hb hby d2_37) rfl (teq ((by rw [hs]; first | done | decide) : p0 = (500 : Int32))).2 ?_
    exact k
  obtain ⟨T2, X2, e2, st2⟩ := getS2 X0 hx hZ hown (host := "") (Or.inl (hw _ (List.mem_of_getElem? (i := 26) rfl))) Via.refl e0 S_HTTP_500 (g := (mkF m 40 #[.val (.int p0)] [])) rfl (hb hby d2_40)
  obtain ⟨fs, hr, hrun, hended, hW, hsame⟩ := X2.leave (v := some (.ref en3)) (fun h => by rw [Bd.returns] at h; cases h) (BodyLoose.notSynchronized Bd)
  refine ⟨_, _, pre1 _ ?_, hrun, hended, _, _, rfl, ?_, ⟨_, rfl⟩, hW, hsame.mono (by decide) (by decide)⟩
  · show Steps p.tables e below (s₁.setTop (mkF m 40 #[.val (.int p0)] [])) _
    refine st2 _ ?_
    show Steps p.tables e below (T2.setTop (mkF m 43 #[.val (.int p0)] [(.ref en3)])) _
    exact retOut X2 hx Bd.returns rfl (Or.inr (Or.inr (Or.inr (Or.inr ⟨rfl, rfl, rfl⟩)))) (hb hby d2_43) hr
  · show Q_2t500 Z p0 en0 en1 en2 en3 en4 en5 en6 en7 en8 en9 en10 h0 n0 _ T2.heap _
    rw [e2]
    exact ⟨rfl, N0, rfl⟩
theorem ef_1t502 (m : MethodId) (p0 : Int32) : entryFrame m #[(.int p0)] 5 = mkF m 0 #[.val (.int p0), .unset, .unset, .unset, .unset] [] := by first | (simp [entryFrame, mkF, argsToLocals, Value.category]; done) | rfl
def Q_1t502 (Z : State) (p0 : Int32) (en0 : Addr) (en1 : Addr) (en2 : Addr) (en3 : Addr) (en4 : Addr) (en5 : Addr) (en6 : Addr) (en7 : Addr) (en8 : Addr) (en9 : Addr) (en10 : Addr) (al : Addr) (h0 : Heap) (n0 : Nat) (v : Option Value) (h : Heap) (L : List Loc) : Prop := v = some (.ref en4) ∧ Fr n0 L ∧ h = h0
set_option maxRecDepth 65536 in
set_option maxHeartbeats 40000000 in
theorem rm_1t502 (l : Launch) (Z : State) (a0 : Array Value) (hw : ∀ d ∈ tables_1, d.before a0 Z = true) (ws : List Jvm.Cond) (p0 : Int32) (en0 : Addr) (en1 : Addr) (en2 : Addr) (en3 : Addr) (en4 : Addr) (en5 : Addr) (en6 : Addr) (en7 : Addr) (en8 : Addr) (en9 : Addr) (en10 : Addr) (al : Addr) (h0 : Heap) (n0 : Nat) (Z0 : n0 ≤ h0.size) (S_ERROR : Sta Z h0 "com/example/fanoutd/fanoutd/proxy/NextUpstream$Condition" "ERROR" "Lcom/example/fanoutd/fanoutd/proxy/NextUpstream$Condition;" (.ref en0)) (S_TIMEOUT : Sta Z h0 "com/example/fanoutd/fanoutd/proxy/NextUpstream$Condition" "TIMEOUT" "Lcom/example/fanoutd/fanoutd/proxy/NextUpstream$Condition;" (.ref en1)) (S_INVALID_HEADER : Sta Z h0 "com/example/fanoutd/fanoutd/proxy/NextUpstream$Condition" "INVALID_HEADER" "Lcom/example/fanoutd/fanoutd/proxy/NextUpstream$Condition;" (.ref en2)) (S_HTTP_500 : Sta Z h0 "com/example/fanoutd/fanoutd/proxy/NextUpstream$Condition" "HTTP_500" "Lcom/example/fanoutd/fanoutd/proxy/NextUpstream$Condition;" (.ref en3)) (S_HTTP_502 : Sta Z h0 "com/example/fanoutd/fanoutd/proxy/NextUpstream$Condition" "HTTP_502" "Lcom/example/fanoutd/fanoutd/proxy/NextUpstream$Condition;" (.ref en4)) (S_HTTP_503 : Sta Z h0 "com/example/fanoutd/fanoutd/proxy/NextUpstream$Condition" "HTTP_503" "Lcom/example/fanoutd/fanoutd/proxy/NextUpstream$Condition;" (.ref en5)) (S_HTTP_504 : Sta Z h0 "com/example/fanoutd/fanoutd/proxy/NextUpstream$Condition" "HTTP_504" "Lcom/example/fanoutd/fanoutd/proxy/NextUpstream$Condition;" (.ref en6)) (S_HTTP_403 : Sta Z h0 "com/example/fanoutd/fanoutd/proxy/NextUpstream$Condition" "HTTP_403" "Lcom/example/fanoutd/fanoutd/proxy/NextUpstream$Condition;" (.ref en7)) (S_HTTP_404 : Sta Z h0 "com/example/fanoutd/fanoutd/proxy/NextUpstream$Condition" "HTTP_404" "Lcom/example/fanoutd/fanoutd/proxy/NextUpstream$Condition;" (.ref en8)) (S_HTTP_429 : Sta Z h0 "com/example/fanoutd/fanoutd/proxy/NextUpstream$Condition" "HTTP_429" "Lcom/example/fanoutd/fanoutd/proxy/NextUpstream$Condition;" (.ref en9)) (S_NON_IDEMPOTENT : Sta Z h0 "com/example/fanoutd/fanoutd/proxy/NextUpstream$Condition" "NON_IDEMPOTENT" "Lcom/example/fanoutd/fanoutd/proxy/NextUpstream$Condition;" (.ref en10)) (S_ALL : Sta Z h0 "com/example/fanoutd/fanoutd/proxy/NextUpstream$Condition" "ALL" "[Lcom/example/fanoutd/fanoutd/proxy/NextUpstream$Condition;" (.ref al)) (A_al : own_A Z h0 al (.object "com/example/fanoutd/fanoutd/proxy/NextUpstream$Condition") 11 (fun i => (own_l en0 en1 en2 en3 en4 en5 en6 en7 en8 en9 en10) i)) (F_en0_status : Fld Z h0 en0 "com/example/fanoutd/fanoutd/proxy/NextUpstream$Condition" "status" "I" (.int (0 : Int32))) (F_en1_status : Fld Z h0 en1 "com/example/fanoutd/fanoutd/proxy/NextUpstream$Condition" "status" "I" (.int (0 : Int32))) (F_en2_status : Fld Z h0 en2 "com/example/fanoutd/fanoutd/proxy/NextUpstream$Condition" "status" "I" (.int (0 : Int32))) (F_en3_status : Fld Z h0 en3 "com/example/fanoutd/fanoutd/proxy/NextUpstream$Condition" "status" "I" (.int (500 : Int32))) (F_en4_status : Fld Z h0 en4 "com/example/fanoutd/fanoutd/proxy/NextUpstream$Condition" "status" "I" (.int (502 : Int32))) (F_en5_status : Fld Z h0 en5 "com/example/fanoutd/fanoutd/proxy/NextUpstream$Condition" "status" "I" (.int (503 : Int32))) (F_en6_status : Fld Z h0 en6 "com/example/fanoutd/fanoutd/proxy/NextUpstream$Condition" "status" "I" (.int (504 : Int32))) (F_en7_status : Fld Z h0 en7 "com/example/fanoutd/fanoutd/proxy/NextUpstream$Condition" "status" "I" (.int (403 : Int32))) (F_en8_status : Fld Z h0 en8 "com/example/fanoutd/fanoutd/proxy/NextUpstream$Condition" "status" "I" (.int (404 : Int32))) (F_en9_status : Fld Z h0 en9 "com/example/fanoutd/fanoutd/proxy/NextUpstream$Condition" "status" "I" (.int (429 : Int32))) (F_en10_status : Fld Z h0 en10 "com/example/fanoutd/fanoutd/proxy/NextUpstream$Condition" "status" "I" (.int (0 : Int32))) (hs : p0 = (502 : Int32)) :
    MetFree l (⟨"com/example/fanoutd/fanoutd/proxy/NextUpstream$Condition", "ofStatus", "(I)Lcom/example/fanoutd/fanoutd/proxy/NextUpstream$Condition;"⟩ : MethodName) (head1 (Jvm.Cond.code (⟨"com/example/fanoutd/fanoutd/proxy/NextUpstream$Condition", "ofStatus", "(I)Lcom/example/fanoutd/fanoutd/proxy/NextUpstream$Condition;"⟩ : MethodName) prog_62_method_7_code 5 (some (.object "com/example/fanoutd/fanoutd/proxy/NextUpstream$Condition")) :: ws) ({ frames := 0, cells := 0, slots := 0, locals := 0 } : Room)) (fun a U => a = #[(.int p0)] ∧ Z.Warmed39 U.vm ∧ U.heap = h0) (fun _ _ _ _ _ => True) (fun _ U o U' => ∃ v L, o = .returned v ∧ Q_1t502 Z p0 en0 en1 en2 en3 en4 en5 en6 en7 en8 en9 en10 al h0 n0 v U'.heap L ∧ FrameEnd U o U' L ({ frames := 0, cells := 0, slots := 0, locals := 0 } : Room).cells ({ frames := 0, cells := 0, slots := 0, locals := 0 } : Room).slots) := by
  refine MetFree.of_bodySF (plainFor_of_name pn_1) hisR ?_
  intro p e s m args below meth c s₁ Bd hml0 hP hK
  obtain ⟨rfl, hZ, hh⟩ := hP
  have hx := Bd.exec
  have hby := Bd.bytes
  have hml : c.maxLocals = 5 := hml0
  have hown : s.vm.findClass "com/example/fanoutd/fanoutd/proxy/NextUpstream$Condition" = some m.cls := findClass_of_methodNamed Bd.named
  have hnm := (name_of_methodNamed Bd.named Bd.method).1
  have X0 : Stand p l e ({ frames := 0, cells := 0, slots := 0, locals := 0 } : Room) s m #[(.int p0)] below meth c s₁ [] 0 0 := Stand.of_body Bd
  have e0 : s₁.heap = h0 := by rw [← hh, Bd.state]; rfl
  have N0 := Fr.nil n0
  have K0 : Keep h0 h0 [] := Keep.refl h0 _
  have pre0 : ∀ t, Steps p.tables e below (s₁.setTop (mkF m 0 #[.val (.int p0), .unset, .unset, .unset, .unset] [])) t → Steps p.tables e below (s₁.setTop (entryFrame m #[(.int p0)] 5)) t := fun t k => castTop (ef_1t502 m p0) k
  obtain ⟨T1, X1, e1, st1⟩ := getS2 X0 hx hZ hown (host := "") (Or.inl (hw _ (List.mem_of_getElem? (i := 5) rfl))) Via.refl e0 S_ALL (g := (mkF m 0 #[.val (.int p0), .unset, .unset, .unset, .unset] [])) rfl (hb hby d1_0)
  have pre2 : ∀ t, Steps p.tables e below (T1.setTop (mkF m 21 #[.val (.int p0), .val (.ref al), .val (.int (11 : Int32)), .val (.int (0 : Int32)), .val (.ref en0)] [(.ref en0)])) t → Steps p.tables e below (s₁.setTop (entryFrame m #[(.int p0)] 5)) t := by
    intro t k
    refine pre0 t ?_
    show Steps p.tables e below (s₁.setTop (mkF m 0 #[.val (.int p0), .unset, .unset, .unset, .unset] [])) _
    refine st1 _ ?_
    show Steps p.tables e below (T1.setTop (mkF m 3 #[.val (.int p0), .unset, .unset, .unset, .unset] [(.ref al)])) _
    refine XS.astoreN X1.here hx rfl (hb hby d1_3) rfl rfl (l' := #[.val (.int p0), .val (.ref al), .unset, .unset, .unset]) rfl ?_
    show Steps p.tables e below (T1.setTop (mkF m 4 #[.val (.int p0), .val (.ref al), .unset, .unset, .unset] [])) _
    refine XS.aloadN X1.here hx rfl (hb hby d1_4) rfl rfl ?_
    show Steps p.tables e below (T1.setTop (mkF m 5 #[.val (.int p0), .val (.ref al), .unset, .unset, .unset] [(.ref al)])) _
    refine own_len X1 hx hZ e1 A_al (z := (11 : Int32)) rfl (g := (mkF m 5 #[.val (.int p0), .val (.ref al), .unset, .unset, .unset] [(.ref al)])) rfl rfl (hb hby d1_5) ?_
    show Steps p.tables e below (T1.setTop (mkF m 6 #[.val (.int p0), .val (.ref al), .unset, .unset, .unset] [(.int (11 : Int32))])) _
    refine XS.istoreN X1.here hx rfl (hb hby d1_6) rfl (l' := #[.val (.int p0), .val (.ref al), .val (.int (11 : Int32)), .unset, .unset]) rfl ?_
    show Steps p.tables e below (T1.setTop (mkF m 7 #[.val (.int p0), .val (.ref al), .val (.int (11 : Int32)), .unset, .unset] [])) _
    refine XS.iconst X1.here hx rfl (hb hby d1_7) ?_
    show Steps p.tables e below (T1.setTop (mkF m 8 #[.val (.int p0), .val (.ref al), .val (.int (11 : Int32)), .unset, .unset] [(.int (0 : Int32))])) _
    refine XS.istoreN X1.here hx rfl (hb hby d1_8) rfl (l' := #[.val (.int p0), .val (.ref al), .val (.int (11 : Int32)), .val (.int (0 : Int32)), .unset]) rfl ?_
    show Steps p.tables e below (T1.setTop (mkF m 9 #[.val (.int p0), .val (.ref al), .val (.int (11 : Int32)), .val (.int (0 : Int32)), .unset] [])) _
    refine XS.iloadN X1.here hx rfl (hb hby d1_9) rfl  ?_
    show Steps p.tables e below (T1.setTop (mkF m 10 #[.val (.int p0), .val (.ref al), .val (.int (11 : Int32)), .val (.int (0 : Int32)), .unset] [(.int (0 : Int32))])) _
    refine XS.iloadN X1.here hx rfl (hb hby d1_10) rfl  ?_
    show Steps p.tables e below (T1.setTop (mkF m 11 #[.val (.int p0), .val (.ref al), .val (.int (11 : Int32)), .val (.int (0 : Int32)), .unset] [(.int (11 : Int32)), (.int (0 : Int32))])) _
    refine XS.icmpNo X1.here hx rfl (hb hby d1_11) rfl (tlt (by decide : (0 : Int32) < (11 : Int32))).2.1 ?_
    show Steps p.tables e below (T1.setTop (mkF m 14 #[.val (.int p0), .val (.ref al), .val (.int (11 : Int32)), .val (.int (0 : Int32)), .unset] [])) _
    refine XS.aloadN X1.here hx rfl (hb hby d1_14) rfl rfl ?_
    show Steps p.tables e below (T1.setTop (mkF m 15 #[.val (.int p0), .val (.ref al), .val (.int (11 : Int32)), .val (.int (0 : Int32)), .unset] [(.ref al)])) _
    refine XS.iloadN X1.here hx rfl (hb hby d1_15) rfl  ?_
    show Steps p.tables e below (T1.setTop (mkF m 16 #[.val (.int p0), .val (.ref al), .val (.int (11 : Int32)), .val (.int (0 : Int32)), .unset] [(.int (0 : Int32)), (.ref al)])) _
    refine own_ldR X1 hx hZ e1 A_al rfl (j := (0 : Int32)) (k := 0) (v := .ref en0) rfl (by decide) (by decide) (by decide) (g := (mkF m 16 #[.val (.int p0), .val (.ref al), .val (.int (11 : Int32)), .val (.int (0 : Int32)), .unset] [(.int (0 : Int32)), (.ref al)])) rfl rfl (hb hby d1_16) ?_
    show Steps p.tables e below (T1.setTop (mkF m 17 #[.val (.int p0), .val (.ref al), .val (.int (11 : Int32)), .val (.int (0 : Int32)), .unset] [(.ref en0)])) _
    refine XS.astore X1.here hx rfl (hb hby d1_17) rfl rfl (l' := #[.val (.int p0), .val (.ref al), .val (.int (11 : Int32)), .val (.int (0 : Int32)), .val (.ref en0)]) rfl ?_
    show Steps p.tables e below (T1.setTop (mkF m 19 #[.val (.int p0), .val (.ref al), .val (.int (11 : Int32)), .val (.int (0 : Int32)), .val (.ref en0)] [])) _
    refine XS.aload X1.here hx rfl (hb hby d1_19) rfl rfl ?_
    exact k
  obtain ⟨T3, X3, e3, st3⟩ := getF X1 hx hZ hown (host := "") (Or.inl (hw _ (List.mem_of_getElem? (i := 8) rfl))) Via.refl e1 F_en0_status (g := (mkF m 21 #[.val (.int p0), .val (.ref al), .val (.int (11 : Int32)), .val (.int (0 : Int32)), .val (.ref en0)] [(.ref en0)])) rfl rfl (hb hby d1_21)
  have pre4 : ∀ t, Steps p.tables e below (T3.setTop (mkF m 21 #[.val (.int p0), .val (.ref al), .val (.int (11 : Int32)), .val (.int (1 : Int32)), .val (.ref en1)] [(.ref en1)])) t → Steps p.tables e below (s₁.setTop (entryFrame m #[(.int p0)] 5)) t := by
    intro t k
    refine pre2 t ?_
    show Steps p.tables e below (T1.setTop (mkF m 21 #[.val (.int p0), .val (.ref al), .val (.int (11 : Int32)), .val (.int (0 : Int32)), .val (.ref en0)] [(.ref en0)])) _
    refine st3 _ ?_
    show Steps p.tables e below (T3.setTop (mkF m 24 #[.val (.int p0), .val (.ref al), .val (.int (11 : Int32)), .val (.int (0 : Int32)), .val (.ref en0)] [(.int (0 : Int32))])) _
    refine XS.iloadN X3.here hx rfl (hb hby d1_24) rfl  ?_
    show Steps p.tables e below (T3.setTop (mkF m 25 #[.val (.int p0), .val (.ref al), .val (.int (11 : Int32)), .val (.int (0 : Int32)), .val (.ref en0)] [(.int p0), (.int (0 : Int32))])) _
    refine XS.icmpYes X3.here hx rfl (pc0 := 25) (pc' := 31) rfl (hb hby d1_25) rfl (feq ((by rw [hs]; first | done | decide) : ¬ ((0 : Int32) = p0))).2 (by decide) (by decide) ?_
    show Steps p.tables e below (T3.setTop (mkF m 31 #[.val (.int p0), .val (.ref al), .val (.int (11 : Int32)), .val (.int (0 : Int32)), .val (.ref en0)] [])) _
    refine XS.iinc X3.here hx rfl (hb hby d1_31) rfl (l' := #[.val (.int p0), .val (.ref al), .val (.int (11 : Int32)), .val (.int (1 : Int32)), .val (.ref en0)]) rfl ?_
    show Steps p.tables e below (T3.setTop (mkF m 34 #[.val (.int p0), .val (.ref al), .val (.int (11 : Int32)), .val (.int (1 : Int32)), .val (.ref en0)] [])) _
    refine XS.goto X3.here hx rfl (pc0 := 34) (pc' := 9) rfl (hb hby d1_34) (by decide) (by decide) ?_
    show Steps p.tables e below (T3.setTop (mkF m 9 #[.val (.int p0), .val (.ref al), .val (.int (11 : Int32)), .val (.int (1 : Int32)), .val (.ref en0)] [])) _
    refine XS.iloadN X3.here hx rfl (hb hby d1_9) rfl  ?_
    show Steps p.tables e below (T3.setTop (mkF m 10 #[.val (.int p0), .val (.ref al), .val (.int (11 : Int32)), .val (.int (1 : Int32)), .val (.ref en0)] [(.int (1 : Int32))])) _
    refine XS.iloadN X3.here hx rfl (hb hby d1_10) rfl  ?_
    show Steps p.tables e below (T3.setTop (mkF m 11 #[.val (.int p0), .val (.ref al), .val (.int (11 : Int32)), .val (.int (1 : Int32)), .val (.ref en0)] [(.int (11 : Int32)), (.int (1 : Int32))])) _
    refine XS.icmpNo X3.here hx rfl (hb hby d1_11) rfl (tlt (by decide : (1 : Int32) < (11 : Int32))).2.1 ?_
    show Steps p.tables e below (T3.setTop (mkF m 14 #[.val (.int p0), .val (.ref al), .val (.int (11 : Int32)), .val (.int (1 : Int32)), .val (.ref en0)] [])) _
    refine XS.aloadN X3.here hx rfl (hb hby d1_14) rfl rfl ?_
    show Steps p.tables e below (T3.setTop (mkF m 15 #[.val (.int p0), .val (.ref al), .val (.int (11 : Int32)), .val (.int (1 : Int32)), .val (.ref en0)] [(.ref al)])) _
    refine XS.iloadN X3.here hx rfl (hb hby d1_15) rfl  ?_
    show Steps p.tables e below (T3.setTop (mkF m 16 #[.val (.int p0), .val (.ref al), .val (.int (11 : Int32)), .val (.int (1 : Int32)), .val (.ref en0)] [(.int (1 : Int32)), (.ref al)])) _
    refine own_ldR X3 hx hZ e3 A_al rfl (j := (1 : Int32)) (k := 1) (v := .ref en1) rfl (by decide) (by decide) (by decide) (g := (mkF m 16 #[.val (.int p0), .val (.ref al), .val (.int (11 : Int32)), .val (.int (1 : Int32)), .val (.ref en0)] [(.int (1 : Int32)), (.ref al)])) rfl rfl (hb hby d1_16) ?_
    show Steps p.tables e below (T3.setTop (mkF m 17 #[.val (.int p0), .val (.ref al), .val (.int (11 : Int32)), .val (.int (1 : Int32)), .val (.ref en0)] [(.ref en1)])) _
    refine XS.astore X3.here hx rfl (hb hby d1_17) rfl rfl (l' := #[.val (.int p0), .val (.ref al), .val (.int (11 : Int32)), .val (.int (1 : Int32)), .val (.ref en1)]) rfl ?_
    show Steps p.tables e below (T3.setTop (mkF m 19 #[.val (.int p0), .val (.ref al), .val (.int (11 : Int32)), .val (.int (1 : Int32)), .val (.ref en1)] [])) _
    refine XS.aload X3.here hx rfl (hb hby d1_19) rfl rfl ?_
    exact k
  obtain ⟨T5, X5, e5, st5⟩ := getF X3 hx hZ hown (host := "") (Or.inl (hw _ (List.mem_of_getElem? (i := 8) rfl))) Via.refl e3 F_en1_status (g := (mkF m 21 #[.val (.int p0), .val (.ref al), .val (.int (11 : Int32)), .val (.int (1 : Int32)), .val (.ref en1)] [(.ref en1)])) rfl rfl (hb hby d1_21)
  have pre6 : ∀ t, Steps p.tables e below (T5.setTop (mkF m 21 #[.val (.int p0), .val (.ref al), .val (.int (11 : Int32)), .val (.int (2 : Int32)), .val (.ref en2)] [(.ref en2)])) t → Steps p.tables e below (s₁.setTop (entryFrame m #[(.int p0)] 5)) t := by
    intro t k
    refine pre4 t ?_
    show Steps p.tables e below (T3.setTop (mkF m 21 #[.val (.int p0), .val (.ref al), .val (.int (11 : Int32)), .val (.int (1 : Int32)), .val (.ref en1)] [(.ref en1)])) _
    refine st5 _ ?_
    show Steps p.tables e below (T5.setTop (mkF m 24 #[.val (.int p0), .val (.ref al), .val (.int (11 : Int32)), .val (.int (1 : Int32)), .val (.ref en1)] [(.int (0 : Int32))])) _
    refine XS.iloadN X5.here hx rfl (hb hby d1_24) rfl  ?_
    show Steps p.tables e below (T5.setTop (mkF m 25 #[.val (.int p0), .val (.ref al), .val (.int (11 : Int32)), .val (.int (1 : Int32)), .val (.ref en1)] [(.int p0), (.int (0 : Int32))])) _
    refine XS.icmpYes X5.here hx rfl (pc0 := 25) (pc' := 31) rfl (hb hby d1_25) rfl (feq ((by rw [hs]; first | done | decide) : ¬ ((0 : Int32) = p0))).2 (by decide) (by decide) ?_
    show Steps p.tables e below (T5.setTop (mkF m 31 #[.val (.int p0), .val (.ref al), .val (.int (11 : Int32)), .val (.int (1 : Int32)), .val (.ref en1)] [])) _
    refine XS.iinc X5.here hx rfl (hb hby d1_31) rfl (l' := #[.val (.int p0), .val (.ref al), .val (.int (11 : Int32)), .val (.int (2 : Int32)), .val (.ref en1)]) rfl ?_
    show Steps p.tables e below (T5.setTop (mkF m 34 #[.val (.int p0), .val (.ref al), .val (.int (11 : Int32)), .val (.int (2 : Int32)), .val (.ref en1)] [])) _
    refine XS.goto X5.here hx rfl (pc0 := 34) (pc' := 9) rfl (hb hby d1_34) (by decide) (by decide) ?_
    show Steps p.tables e below (T5.setTop (mkF m 9 #[.val (.int p0), .val (.ref al), .val (.int (11 : Int32)), .val (.int (2 : Int32)), .val (.ref en1)] [])) _
    refine XS.iloadN X5.here hx rfl (hb hby d1_9) rfl  ?_
    show Steps p.tables e below (T5.setTop (mkF m 10 #[.val (.int p0), .val (.ref al), .val (.int (11 : Int32)), .val (.int (2 : Int32)), .val (.ref en1)] [(.int (2 : Int32))])) _
    refine XS.iloadN X5.here hx rfl (hb hby d1_10) rfl  ?_
    show Steps p.tables e below (T5.setTop (mkF m 11 #[.val (.int p0), .val (.ref al), .val (.int (11 : Int32)), .val (.int (2 : Int32)), .val (.ref en1)] [(.int (11 : Int32)), (.int (2 : Int32))])) _
    refine XS.icmpNo X5.here hx rfl (hb hby d1_11) rfl (tlt (by decide : (2 : Int32) < (11 : Int32))).2.1 ?_
    show Steps p.tables e below (T5.setTop (mkF m 14 #[.val (.int p0), .val (.ref al), .val (.int (11 : Int32)), .val (.int (2 : Int32)), .val (.ref en1)] [])) _
    refine XS.aloadN X5.here hx rfl (hb hby d1_14) rfl rfl ?_
    show Steps p.tables e below (T5.setTop (mkF m 15 #[.val (.int p0), .val (.ref al), .val (.int (11 : Int32)), .val (.int (2 : Int32)), .val (.ref en1)] [(.ref al)])) _
    refine XS.iloadN X5.here hx rfl (hb hby d1_15) rfl  ?_
    show Steps p.tables e below (T5.setTop (mkF m 16 #[.val (.int p0), .val (.ref al), .val (.int (11 : Int32)), .val (.int (2 : Int32)), .val (.ref en1)] [(.int (2 : Int32)), (.ref al)])) _
    refine own_ldR X5 hx hZ e5 A_al rfl (j := (2 : Int32)) (k := 2) (v := .ref en2) rfl (by decide) (by decide) (by decide) (g := (mkF m 16 #[.val (.int p0), .val (.ref al), .val (.int (11 : Int32)), .val (.int (2 : Int32)), .val (.ref en1)] [(.int (2 : Int32)), (.ref al)])) rfl rfl (hb hby d1_16) ?_
    show Steps p.tables e below (T5.setTop (mkF m 17 #[.val (.int p0), .val (.ref al), .val (.int (11 : Int32)), .val (.int (2 : Int32)), .val (.ref en1)] [(.ref en2)])) _
    refine XS.astore X5.here hx rfl (hb hby d1_17) rfl rfl (l' := #[.val (.int p0), .val (.ref al), .val (.int (11 : Int32)), .val (.int (2 : Int32)), .val (.ref en2)]) rfl ?_
    show Steps p.tables e below (T5.setTop (mkF m 19 #[.val (.int p0), .val (.ref al), .val (.int (11 : Int32)), .val (.int (2 : Int32)), .val (.ref en2)] [])) _
    refine XS.aload X5.here hx rfl (hb hby d1_19) rfl rfl ?_
    exact k
  obtain ⟨T7, X7, e7, st7⟩ := getF X5 hx hZ hown (host := "") (Or.inl (hw _ (List.mem_of_getElem? (i := 8) rfl))) Via.refl e5 F_en2_status (g := (mkF m 21 #[.val (.int p0), .val (.ref al), .val (.int (11 : Int32)), .val (.int (2 : Int32)), .val (.ref en2)] [(.ref en2)])) rfl rfl (hb hby d1_21)
  have pre8 : ∀ t, Steps p.tables e below (T7.setTop (mkF m 21 #[.val (.int p0), .val (.ref al), .val (.int (11 : Int32)), .val (.int (3 : Int32)), .val (.ref en3)] [(.ref en3)])) t → Steps p.tables e below (s₁.setTop (entryFrame m #[(.int p0)] 5)) t := by
    intro t k
    refine pre6 t ?_
    show Steps p.tables e below (T5.setTop (mkF m 21 #[.val (.int p0), .val (.ref al), .val (.int (11 : Int32)), .val (.int (2 : Int32)), .val (.ref en2)] [(.ref en2)])) _
    refine st7 _ ?_
    show Steps p.tables e below (T7.setTop (mkF m 24 #[.val (.int p0), .val (.ref al), .val (.int (11 : Int32)), .val (.int (2 : Int32)), .val (.ref en2)] [(.int (0 : Int32))])) _
    refine XS.iloadN X7.here hx rfl (hb hby d1_24) rfl  ?_
    show Steps p.tables e below (T7.setTop (mkF m 25 #[.val (.int p0), .val (.ref al), .val (.int (11 : Int32)), .val (.int (2 : Int32)), .val (.ref en2)] [(.int p0), (.int (0 : Int32))])) _
    refine XS.icmpYes X7.here hx rfl (pc0 := 25) (pc' := 31) rfl (hb hby d1_25) rfl (feq ((by rw [hs]; first | done | decide) : ¬ ((0 : Int32) = p0))).2 (by decide) (by decide) ?_
    show Steps p.tables e below (T7.setTop (mkF m 31 #[.val (.int p0), .val (.ref al), .val (.int (11 : Int32)), .val (.int (2 : Int32)), .val (.ref en2)] [])) _
    refine XS.iinc X7.here hx rfl (hb hby d1_31) rfl (l' := #[.val (.int p0), .val (.ref al), .val (.int (11 : Int32)), .val (.int (3 : Int32)), .val (.ref en2)]) rfl ?_
    show Steps p.tables e below (T7.setTop (mkF m 34 #[.val (.int p0), .val (.ref al), .val (.int (11 : Int32)), .val (.int (3 : Int32)), .val (.ref en2)] [])) _
    refine XS.goto X7.here hx rfl (pc0 := 34) (pc' := 9) rfl (hb hby d1_34) (by decide) (by decide) ?_
    show Steps p.tables e below (T7.setTop (mkF m 9 #[.val (.int p0), .val (.ref al), .val (.int (11 : Int32)), .val (.int (3 : Int32)), .val (.ref en2)] [])) _
    refine XS.iloadN X7.here hx rfl (hb hby d1_9) rfl  ?_
    show Steps p.tables e below (T7.setTop (mkF m 10 #[.val (.int p0), .val (.ref al), .val (.int (11 : Int32)), .val (.int (3 : Int32)), .val (.ref en2)] [(.int (3 : Int32))])) _
    refine XS.iloadN X7.here hx rfl (hb hby d1_10) rfl  ?_
    show Steps p.tables e below (T7.setTop (mkF m 11 #[.val (.int p0), .val (.ref al), .val (.int (11 : Int32)), .val (.int (3 : Int32)), .val (.ref en2)] [(.int (11 : Int32)), (.int (3 : Int32))])) _
    refine XS.icmpNo X7.here hx rfl (hb hby d1_11) rfl (tlt (by decide : (3 : Int32) < (11 : Int32))).2.1 ?_
    show Steps p.tables e below (T7.setTop (mkF m 14 #[.val (.int p0), .val (.ref al), .val (.int (11 : Int32)), .val (.int (3 : Int32)), .val (.ref en2)] [])) _
    refine XS.aloadN X7.here hx rfl (hb hby d1_14) rfl rfl ?_
    show Steps p.tables e below (T7.setTop (mkF m 15 #[.val (.int p0), .val (.ref al), .val (.int (11 : Int32)), .val (.int (3 : Int32)), .val (.ref en2)] [(.ref al)])) _
    refine XS.iloadN X7.here hx rfl (hb hby d1_15) rfl  ?_
    show Steps p.tables e below (T7.setTop (mkF m 16 #[.val (.int p0), .val (.ref al), .val (.int (11 : Int32)), .val (.int (3 : Int32)), .val (.ref en2)] [(.int (3 : Int32)), (.ref al)])) _
    refine own_ldR X7 hx hZ e7 A_al rfl (j := (3 : Int32)) (k := 3) (v := .ref en3) rfl (by decide) (by decide) (by decide) (g := (mkF m 16 #[.val (.int p0), .val (.ref al), .val (.int (11 : Int32)), .val (.int (3 : Int32)), .val (.ref en2)] [(.int (3 : Int32)), (.ref al)])) rfl rfl (hb hby d1_16) ?_
    show Steps p.tables e below (T7.setTop (mkF m 17 #[.val (.int p0), .val (.ref al), .val (.int (11 : Int32)), .val (.int (3 : Int32)), .val (.ref en2)] [(.ref en3)])) _
    refine XS.astore X7.here hx rfl (hb hby d1_17) rfl rfl (l' := #[.val (.int p0), .val (.ref al), .val (.int (11 : Int32)), .val (.int (3 : Int32)), .val (.ref en3)]) rfl ?_
    show Steps p.tables e below (T7.setTop (mkF m 19 #[.val (.int p0), .val (.ref al), .val (.int (11 : Int32)), .val (.int (3 : Int32)), .val (.ref en3)] [])) _
    refine XS.aload X7.here hx rfl (hb hby d1_19) rfl rfl ?_
    exact k
  obtain ⟨T9, X9, e9, st9⟩ := getF X7 hx hZ hown (host := "") (Or.inl (hw _ (List.mem_of_getElem? (i := 8) rfl))) Via.refl e7 F_en3_status (g := (mkF m 21 #[.val (.int p0), .val (.ref al), .val (.int (11 : Int32)), .val (.int (3 : Int32)), .val (.ref en3)] [(.ref en3)])) rfl rfl (hb hby d1_21)
  have pre10 : ∀ t, Steps p.tables e below (T9.setTop (mkF m 21 #[.val (.int p0), .val (.ref al), .val (.int (11 : Int32)), .val (.int (4 : Int32)), .val (.ref en4)] [(.ref en4)])) t → Steps p.tables e below (s₁.setTop (entryFrame m #[(.int p0)] 5)) t := by
    intro t k
    refine pre8 t ?_
    show Steps p.tables e below (T7.setTop (mkF m 21 #[.val (.int p0), .val (.ref al), .val (.int (11 : Int32)), .val (.int (3 : Int32)), .val (.ref en3)] [(.ref en3)])) _
    refine st9 _ ?_
    show Steps p.tables e below (T9.setTop (mkF m 24 #[.val (.int p0), .val (.ref al), .val (.int (11 : Int32)), .val (.int (3 : Int32)), .val (.ref en3)] [(.int (500 : Int32))])) _
    refine XS.iloadN X9.here hx rfl (hb hby d1_24) rfl  ?_
    show Steps p.tables e below (T9.setTop (mkF m 25 #[.val (.int p0), .val (.ref al), .val (.int (11 : Int32)), .val (.int (3 : Int32)), .val (.ref en3)] [(.int p0), (.int (500 : Int32))])) _
    refine XS.icmpYes X9.here hx rfl (pc0 := 25) (pc' := 31) rfl (hb hby d1_25) rfl (feq ((by rw [hs]; first | done | decide) : ¬ ((500 : Int32) = p0))).2 (by decide) (by decide) ?_
    show Steps p.tables e below (T9.setTop (mkF m 31 #[.val (.int p0), .val (.ref al), .val (.int (11 : Int32)), .val (.int (3 : Int32)), .val (.ref en3)] [])) _
    refine XS.iinc X9.here hx rfl (hb hby d1_31) rfl (l' := #[.val (.int p0), .val (.ref al), .val (.int (11 : Int32)), .val (.int (4 : Int32)), .val (.ref en3)]) rfl ?_
    show Steps p.tables e below (T9.setTop (mkF m 34 #[.val (.int p0), .val (.ref al), .val (.int (11 : Int32)), .val (.int (4 : Int32)), .val (.ref en3)] [])) _
    refine XS.goto X9.here hx rfl (pc0 := 34) (pc' := 9) rfl (hb hby d1_34) (by decide) (by decide) ?_
    show Steps p.tables e below (T9.setTop (mkF m 9 #[.val (.int p0), .val (.ref al), .val (.int (11 : Int32)), .val (.int (4 : Int32)), .val (.ref en3)] [])) _
    refine XS.iloadN X9.here hx rfl (hb hby d1_9) rfl  ?_
    show Steps p.tables e below (T9.setTop (mkF m 10 #[.val (.int p0), .val (.ref al), .val (.int (11 : Int32)), .val (.int (4 : Int32)), .val (.ref en3)] [(.int (4 : Int32))])) _
    refine XS.iloadN X9.here hx rfl (hb hby d1_10) rfl  ?_
    show Steps p.tables e below (T9.setTop (mkF m 11 #[.val (.int p0), .val (.ref al), .val (.int (11 : Int32)), .val (.int (4 : Int32)), .val (.ref en3)] [(.int (11 : Int32)), (.int (4 : Int32))])) _
    refine XS.icmpNo X9.here hx rfl (hb hby d1_11) rfl (tlt (by decide : (4 : Int32) < (11 : Int32))).2.1 ?_
    show Steps p.tables e below (T9.setTop (mkF m 14 #[.val (.int p0), .val (.ref al), .val (.int (11 : Int32)), .val (.int (4 : Int32)), .val (.ref en3)] [])) _
    refine XS.aloadN X9.here hx rfl (hb hby d1_14) rfl rfl ?_
    show Steps p.tables e below (T9.setTop (mkF m 15 #[.val (.int p0), .val (.ref al), .val (.int (11 : Int32)), .val (.int (4 : Int32)), .val (.ref en3)] [(.ref al)])) _
    refine XS.iloadN X9.here hx rfl (hb hby d1_15) rfl  ?_
    show Steps p.tables e below (T9.setTop (mkF m 16 #[.val (.int p0), .val (.ref al), .val (.int (11 : Int32)), .val (.int (4 : Int32)), .val (.ref en3)] [(.int (4 : Int32)), (.ref al)])) _
    refine own_ldR X9 hx hZ e9 A_al rfl (j := (4 : Int32)) (k := 4) (v := .ref en4) rfl (by decide) (by decide) (by decide) (g := (mkF m 16 #[.val (.int p0), .val (.ref al), .val (.int (11 : Int32)), .val (.int (4 : Int32)), .val (.ref en3)] [(.int (4 : Int32)), (.ref al)])) rfl rfl (hb hby d1_16) ?_
    show Steps p.tables e below (T9.setTop (mkF m 17 #[.val (.int p0), .val (.ref al), .val (.int (11 : Int32)), .val (.int (4 : Int32)), .val (.ref en3)] [(.ref en4)])) _
    refine XS.astore X9.here hx rfl (hb hby d1_17) rfl rfl (l' := #[.val (.int p0), .val (.ref al), .val (.int (11 : Int32)), .val (.int (4 : Int32)), .val (.ref en4)]) rfl ?_
    show Steps p.tables e below (T9.setTop (mkF m 19 #[.val (.int p0), .val (.ref al), .val (.int (11 : Int32)), .val (.int (4 : Int32)), .val (.ref en4)] [])) _
    refine XS.aload X9.here hx rfl (hb hby d1_19) rfl rfl ?_
    exact k
  obtain ⟨T11, X11, e11, st11⟩ := getF X9 hx hZ hown (host := "") (Or.inl (hw _ (List.mem_of_getElem? (i := 8) rfl))) Via.refl e9 F_en4_status (g := (mkF m 21 #[.val (.int p0), .val (.ref al), .val (.int (11 : Int32)), .val (.int (4 : Int32)), .val (.ref en4)] [(.ref en4)])) rfl rfl (hb hby d1_21)
  obtain ⟨fs, hr, hrun, hended, hW, hsame⟩ := X11.leave (v := some (.ref en4)) (fun h => by rw [Bd.returns] at h; cases h) (BodyLoose.notSynchronized Bd)
  refine ⟨_, _, pre10 _ ?_, hrun, hended, _, _, rfl, ?_, ⟨_, rfl⟩, hW, hsame.mono (by decide) (by decide)⟩
  · show Steps p.tables e below (T9.setTop (mkF m 21 #[.val (.int p0), .val (.ref al), .val (.int (11 : Int32)), .val (.int (4 : Int32)), .val (.ref en4)] [(.ref en4)])) _
    refine st11 _ ?_
    show Steps p.tables e below (T11.setTop (mkF m 24 #[.val (.int p0), .val (.ref al), .val (.int (11 : Int32)), .val (.int (4 : Int32)), .val (.ref en4)] [(.int (502 : Int32))])) _
    refine XS.iloadN X11.here hx rfl (hb hby d1_24) rfl  ?_
    show Steps p.tables e below (T11.setTop (mkF m 25 #[.val (.int p0), .val (.ref al), .val (.int (11 : Int32)), .val (.int (4 : Int32)), .val (.ref en4)] [(.int p0), (.int (502 : Int32))])) _
    refine XS.icmpNo X11.here hx rfl (hb hby d1_25) rfl (teq ((by rw [hs]; first | done | decide) : (502 : Int32) = p0)).2 ?_
    show Steps p.tables e below (T11.setTop (mkF m 28 #[.val (.int p0), .val (.ref al), .val (.int (11 : Int32)), .val (.int (4 : Int32)), .val (.ref en4)] [])) _
    refine XS.aload X11.here hx rfl (hb hby d1_28) rfl rfl ?_
    show Steps p.tables e below (T11.setTop (mkF m 30 #[.val (.int p0), .val (.ref al), .val (.int (11 : Int32)), .val (.int (4 : Int32)), .val (.ref en4)] [(.ref en4)])) _
    exact retOut X11 hx Bd.returns rfl (Or.inr (Or.inr (Or.inr (Or.inr ⟨rfl, rfl, rfl⟩)))) (hb hby d1_30) hr
  · show Q_1t502 Z p0 en0 en1 en2 en3 en4 en5 en6 en7 en8 en9 en10 al h0 n0 _ T11.heap _
    rw [e11]
    exact ⟨rfl, N0, rfl⟩
theorem d2_44 : decode method_3_code 44 = .ok (.iload_n 0, 1) := by decide +kernel
theorem d2_45 : decode method_3_code 45 = .ok (.sipush 502, 3) := by decide +kernel
theorem d2_48 : decode method_3_code 48 = .ok (.if_icmp .ne 7, 3) := by decide +kernel
theorem d2_51 : decode method_3_code 51 = .ok (.getstatic 32, 3) := by decide +kernel
theorem d2_54 : decode method_3_code 54 = .ok (.areturn, 1) := by decide +kernel
theorem ef_2t502 (m : MethodId) (p0 : Int32) : entryFrame m #[(.int p0)] 1 = mkF m 0 #[.val (.int p0)] [] := by first | (simp [entryFrame, mkF, argsToLocals, Value.category]; done) | rfl
def Q_2t502 (Z : State) (p0 : Int32) (en0 : Addr) (en1 : Addr) (en2 : Addr) (en3 : Addr) (en4 : Addr) (en5 : Addr) (en6 : Addr) (en7 : Addr) (en8 : Addr) (en9 : Addr) (en10 : Addr) (h0 : Heap) (n0 : Nat) (v : Option Value) (h : Heap) (L : List Loc) : Prop := v = some (.ref en4) ∧ Fr n0 L ∧ h = h0
set_option maxRecDepth 65536 in
set_option maxHeartbeats 40000000 in
theorem rm_2t502 (l : Launch) (Z : State) (a0 : Array Value) (hw : ∀ d ∈ tables_1, d.before a0 Z = true) (ws : List Jvm.Cond) (p0 : Int32) (en0 : Addr) (en1 : Addr) (en2 : Addr) (en3 : Addr) (en4 : Addr) (en5 : Addr) (en6 : Addr) (en7 : Addr) (en8 : Addr) (en9 : Addr) (en10 : Addr) (h0 : Heap) (n0 : Nat) (Z0 : n0 ≤ h0.size) (S_ERROR : Sta Z h0 "com/example/fanoutd/fanoutd/proxy/NextUpstream$Condition" "ERROR" "Lcom/example/fanoutd/fanoutd/proxy/NextUpstream$Condition;" (.ref en0)) (S_TIMEOUT : Sta Z h0 "com/example/fanoutd/fanoutd/proxy/NextUpstream$Condition" "TIMEOUT" "Lcom/example/fanoutd/fanoutd/proxy/NextUpstream$Condition;" (.ref en1)) (S_INVALID_HEADER : Sta Z h0 "com/example/fanoutd/fanoutd/proxy/NextUpstream$Condition" "INVALID_HEADER" "Lcom/example/fanoutd/fanoutd/proxy/NextUpstream$Condition;" (.ref en2)) (S_HTTP_500 : Sta Z h0 "com/example/fanoutd/fanoutd/proxy/NextUpstream$Condition" "HTTP_500" "Lcom/example/fanoutd/fanoutd/proxy/NextUpstream$Condition;" (.ref en3)) (S_HTTP_502 : Sta Z h0 "com/example/fanoutd/fanoutd/proxy/NextUpstream$Condition" "HTTP_502" "Lcom/example/fanoutd/fanoutd/proxy/NextUpstream$Condition;" (.ref en4)) (S_HTTP_503 : Sta Z h0 "com/example/fanoutd/fanoutd/proxy/NextUpstream$Condition" "HTTP_503" "Lcom/example/fanoutd/fanoutd/proxy/NextUpstream$Condition;" (.ref en5)) (S_HTTP_504 : Sta Z h0 "com/example/fanoutd/fanoutd/proxy/NextUpstream$Condition" "HTTP_504" "Lcom/example/fanoutd/fanoutd/proxy/NextUpstream$Condition;" (.ref en6)) (S_HTTP_403 : Sta Z h0 "com/example/fanoutd/fanoutd/proxy/NextUpstream$Condition" "HTTP_403" "Lcom/example/fanoutd/fanoutd/proxy/NextUpstream$Condition;" (.ref en7)) (S_HTTP_404 : Sta Z h0 "com/example/fanoutd/fanoutd/proxy/NextUpstream$Condition" "HTTP_404" "Lcom/example/fanoutd/fanoutd/proxy/NextUpstream$Condition;" (.ref en8)) (S_HTTP_429 : Sta Z h0 "com/example/fanoutd/fanoutd/proxy/NextUpstream$Condition" "HTTP_429" "Lcom/example/fanoutd/fanoutd/proxy/NextUpstream$Condition;" (.ref en9)) (S_NON_IDEMPOTENT : Sta Z h0 "com/example/fanoutd/fanoutd/proxy/NextUpstream$Condition" "NON_IDEMPOTENT" "Lcom/example/fanoutd/fanoutd/proxy/NextUpstream$Condition;" (.ref en10)) (hs : p0 = (502 : Int32)) :
    MetFree l (⟨"com/example/fanoutd/fanoutd/proxy/ConditionOfStatusPinLaw", "expected", "(I)Lcom/example/fanoutd/fanoutd/proxy/NextUpstream$Condition;"⟩ : MethodName) (head1 (Jvm.Cond.code (⟨"com/example/fanoutd/fanoutd/proxy/ConditionOfStatusPinLaw", "expected", "(I)Lcom/example/fanoutd/fanoutd/proxy/NextUpstream$Condition;"⟩ : MethodName) method_3_code 1 (some (.object "com/example/fanoutd/fanoutd/proxy/NextUpstream$Condition")) :: ws) ({ frames := 0, cells := 0, slots := 0, locals := 0 } : Room)) (fun a U => a = #[(.int p0)] ∧ Z.Warmed39 U.vm ∧ U.heap = h0) (fun _ _ _ _ _ => True) (fun _ U o U' => ∃ v L, o = .returned v ∧ Q_2t502 Z p0 en0 en1 en2 en3 en4 en5 en6 en7 en8 en9 en10 h0 n0 v U'.heap L ∧ FrameEnd U o U' L ({ frames := 0, cells := 0, slots := 0, locals := 0 } : Room).cells ({ frames := 0, cells := 0, slots := 0, locals := 0 } : Room).slots) := by
  refine MetFree.of_bodySF (plainFor_of_name pn_2) hisR ?_
  intro p e s m args below meth c s₁ Bd hml0 hP hK
  obtain ⟨rfl, hZ, hh⟩ := hP
  have hx := Bd.exec
  have hby := Bd.bytes
  have hml : c.maxLocals = 1 := hml0
  have hown : s.vm.findClass "com/example/fanoutd/fanoutd/proxy/ConditionOfStatusPinLaw" = some m.cls := findClass_of_methodNamed Bd.named
  have hnm := (name_of_methodNamed Bd.named Bd.method).1
  have X0 : Stand p l e ({ frames := 0, cells := 0, slots := 0, locals := 0 } : Room) s m #[(.int p0)] below meth c s₁ [] 0 0 := Stand.of_body Bd
  have e0 : s₁.heap = h0 := by rw [← hh, Bd.state]; rfl
  have N0 := Fr.nil n0
  have K0 : Keep h0 h0 [] := Keep.refl h0 _
  have pre0 : ∀ t, Steps p.tables e below (s₁.setTop (mkF m 0 #[.val (.int p0)] [])) t → Steps p.tables e below (s₁.setTop (entryFrame m #[(.int p0)] 1)) t := fun t k => castTop (ef_2t502 m p0) k
  have pre1 : ∀ t, Steps p.tables e below (s₁.setTop (mkF m 51 #[.val (.int p0)] [])) t → Steps p.tables e below (s₁.setTop (entryFrame m #[(.int p0)] 1)) t := by
    intro t k
    refine pre0 t ?_
    show Steps p.tables e below (s₁.setTop (mkF m 0 #[.val (.int p0)] [])) _
    refine XS.iloadN X0.here hx rfl (hb hby d2_0) rfl  ?_
    show Steps p.tables e below (s₁.setTop (mkF m 1 #[.val (.int p0)] [(.int p0)])) _
    refine XS.sipush X0.here hx rfl (hb hby d2_1) ?_
    show Steps p.tables e below (s₁.setTop (mkF m 4 #[.val (.int p0)] [(.int (403 : Int32)), (.int p0)])) _
    refine XS.icmpYes X0.here hx rfl (pc0 := 4) (pc' := 11) rfl (hb hby d2_4) rfl (feq ((by rw [hs]; first | done | decide) : ¬ (p0 = (403 : Int32)))).2 (by decide) (by decide) ?_
    show Steps p.tables e below (s₁.setTop (mkF m 11 #[.val (.int p0)] [])) _
    refine XS.iloadN X0.here hx rfl (hb hby d2_11) rfl  ?_
    show Steps p.tables e below (s₁.setTop (mkF m 12 #[.val (.int p0)] [(.int p0)])) _
    refine XS.sipush X0.here hx rfl (hb hby d2_12) ?_
    show Steps p.tables e below (s₁.setTop (mkF m 15 #[.val (.int p0)] [(.int (404 : Int32)), (.int p0)])) _
    refine XS.icmpYes X0.here hx rfl (pc0 := 15) (pc' := 22) rfl (hb hby d2_15) rfl (feq ((by rw [hs]; first | done | decide) : ¬ (p0 = (404 : Int32)))).2 (by decide) (by decide) ?_
    show Steps p.tables e below (s₁.setTop (mkF m 22 #[.val (.int p0)] [])) _
    refine XS.iloadN X0.here hx rfl (hb hby d2_22) rfl  ?_
    show Steps p.tables e below (s₁.setTop (mkF m 23 #[.val (.int p0)] [(.int p0)])) _
    refine XS.sipush X0.here hx rfl (hb hby d2_23) ?_
    show Steps p.tables e below (s₁.setTop (mkF m 26 #[.val (.int p0)] [(.int (429 : Int32)), (.int p0)])) _
    refine XS.icmpYes X0.here hx rfl (pc0 := 26) (pc' := 33) rfl (hb hby d2_26) rfl (feq ((by rw [hs]; first | done | decide) : ¬ (p0 = (429 : Int32)))).2 (by decide) (by decide) ?_
    show Steps p.tables e below (s₁.setTop (mkF m 33 #[.val (.int p0)] [])) _
    refine XS.iloadN X0.here hx rfl (hb hby d2_33) rfl  ?_
    show Steps p.tables e below (s₁.setTop (mkF m 34 #[.val (.int p0)] [(.int p0)])) _
    refine XS.sipush X0.here hx rfl (hb hby d2_34) ?_
    show Steps p.tables e below (s₁.setTop (mkF m 37 #[.val (.int p0)] [(.int (500 : Int32)), (.int p0)])) _
    refine XS.icmpYes X0.here hx rfl (pc0 := 37) (pc' := 44) rfl (hb hby d2_37) rfl (feq ((by rw [hs]; first | done | decide) : ¬ (p0 = (500 : Int32)))).2 (by decide) (by decide) ?_
    show Steps p.tables e below (s₁.setTop (mkF m 44 #[.val (.int p0)] [])) _
    refine XS.iloadN X0.here hx rfl (hb hby d2_44) rfl  ?_
    show Steps p.tables e below (s₁.setTop (mkF m 45 #[.val (.int p0)] [(.int p0)])) _
    refine XS.sipush X0.here hx rfl (hb hby d2_45) ?_
    show Steps p.tables e below (s₁.setTop (mkF m 48 #[.val (.int p0)] [(.int (502 : Int32)), (.int p0)])) _
    refine XS.icmpNo X0.here hx rfl (hb hby d2_48) rfl (teq ((by rw [hs]; first | done | decide) : p0 = (502 : Int32))).2 ?_
    exact k
  obtain ⟨T2, X2, e2, st2⟩ := getS2 X0 hx hZ hown (host := "") (Or.inl (hw _ (List.mem_of_getElem? (i := 28) rfl))) Via.refl e0 S_HTTP_502 (g := (mkF m 51 #[.val (.int p0)] [])) rfl (hb hby d2_51)
  obtain ⟨fs, hr, hrun, hended, hW, hsame⟩ := X2.leave (v := some (.ref en4)) (fun h => by rw [Bd.returns] at h; cases h) (BodyLoose.notSynchronized Bd)
  refine ⟨_, _, pre1 _ ?_, hrun, hended, _, _, rfl, ?_, ⟨_, rfl⟩, hW, hsame.mono (by decide) (by decide)⟩
  · show Steps p.tables e below (s₁.setTop (mkF m 51 #[.val (.int p0)] [])) _
    refine st2 _ ?_
    show Steps p.tables e below (T2.setTop (mkF m 54 #[.val (.int p0)] [(.ref en4)])) _
    exact retOut X2 hx Bd.returns rfl (Or.inr (Or.inr (Or.inr (Or.inr ⟨rfl, rfl, rfl⟩)))) (hb hby d2_54) hr
  · show Q_2t502 Z p0 en0 en1 en2 en3 en4 en5 en6 en7 en8 en9 en10 h0 n0 _ T2.heap _
    rw [e2]
    exact ⟨rfl, N0, rfl⟩
theorem ef_1t503 (m : MethodId) (p0 : Int32) : entryFrame m #[(.int p0)] 5 = mkF m 0 #[.val (.int p0), .unset, .unset, .unset, .unset] [] := by first | (simp [entryFrame, mkF, argsToLocals, Value.category]; done) | rfl
def Q_1t503 (Z : State) (p0 : Int32) (en0 : Addr) (en1 : Addr) (en2 : Addr) (en3 : Addr) (en4 : Addr) (en5 : Addr) (en6 : Addr) (en7 : Addr) (en8 : Addr) (en9 : Addr) (en10 : Addr) (al : Addr) (h0 : Heap) (n0 : Nat) (v : Option Value) (h : Heap) (L : List Loc) : Prop := v = some (.ref en5) ∧ Fr n0 L ∧ h = h0
set_option maxRecDepth 65536 in
set_option maxHeartbeats 40000000 in
theorem rm_1t503 (l : Launch) (Z : State) (a0 : Array Value) (hw : ∀ d ∈ tables_1, d.before a0 Z = true) (ws : List Jvm.Cond) (p0 : Int32) (en0 : Addr) (en1 : Addr) (en2 : Addr) (en3 : Addr) (en4 : Addr) (en5 : Addr) (en6 : Addr) (en7 : Addr) (en8 : Addr) (en9 : Addr) (en10 : Addr) (al : Addr) (h0 : Heap) (n0 : Nat) (Z0 : n0 ≤ h0.size) (S_ERROR : Sta Z h0 "com/example/fanoutd/fanoutd/proxy/NextUpstream$Condition" "ERROR" "Lcom/example/fanoutd/fanoutd/proxy/NextUpstream$Condition;" (.ref en0)) (S_TIMEOUT : Sta Z h0 "com/example/fanoutd/fanoutd/proxy/NextUpstream$Condition" "TIMEOUT" "Lcom/example/fanoutd/fanoutd/proxy/NextUpstream$Condition;" (.ref en1)) (S_INVALID_HEADER : Sta Z h0 "com/example/fanoutd/fanoutd/proxy/NextUpstream$Condition" "INVALID_HEADER" "Lcom/example/fanoutd/fanoutd/proxy/NextUpstream$Condition;" (.ref en2)) (S_HTTP_500 : Sta Z h0 "com/example/fanoutd/fanoutd/proxy/NextUpstream$Condition" "HTTP_500" "Lcom/example/fanoutd/fanoutd/proxy/NextUpstream$Condition;" (.ref en3)) (S_HTTP_502 : Sta Z h0 "com/example/fanoutd/fanoutd/proxy/NextUpstream$Condition" "HTTP_502" "Lcom/example/fanoutd/fanoutd/proxy/NextUpstream$Condition;" (.ref en4)) (S_HTTP_503 : Sta Z h0 "com/example/fanoutd/fanoutd/proxy/NextUpstream$Condition" "HTTP_503" "Lcom/example/fanoutd/fanoutd/proxy/NextUpstream$Condition;" (.ref en5)) (S_HTTP_504 : Sta Z h0 "com/example/fanoutd/fanoutd/proxy/NextUpstream$Condition" "HTTP_504" "Lcom/example/fanoutd/fanoutd/proxy/NextUpstream$Condition;" (.ref en6)) (S_HTTP_403 : Sta Z h0 "com/example/fanoutd/fanoutd/proxy/NextUpstream$Condition" "HTTP_403" "Lcom/example/fanoutd/fanoutd/proxy/NextUpstream$Condition;" (.ref en7)) (S_HTTP_404 : Sta Z h0 "com/example/fanoutd/fanoutd/proxy/NextUpstream$Condition" "HTTP_404" "Lcom/example/fanoutd/fanoutd/proxy/NextUpstream$Condition;" (.ref en8)) (S_HTTP_429 : Sta Z h0 "com/example/fanoutd/fanoutd/proxy/NextUpstream$Condition" "HTTP_429" "Lcom/example/fanoutd/fanoutd/proxy/NextUpstream$Condition;" (.ref en9)) (S_NON_IDEMPOTENT : Sta Z h0 "com/example/fanoutd/fanoutd/proxy/NextUpstream$Condition" "NON_IDEMPOTENT" "Lcom/example/fanoutd/fanoutd/proxy/NextUpstream$Condition;" (.ref en10)) (S_ALL : Sta Z h0 "com/example/fanoutd/fanoutd/proxy/NextUpstream$Condition" "ALL" "[Lcom/example/fanoutd/fanoutd/proxy/NextUpstream$Condition;" (.ref al)) (A_al : own_A Z h0 al (.object "com/example/fanoutd/fanoutd/proxy/NextUpstream$Condition") 11 (fun i => (own_l en0 en1 en2 en3 en4 en5 en6 en7 en8 en9 en10) i)) (F_en0_status : Fld Z h0 en0 "com/example/fanoutd/fanoutd/proxy/NextUpstream$Condition" "status" "I" (.int (0 : Int32))) (F_en1_status : Fld Z h0 en1 "com/example/fanoutd/fanoutd/proxy/NextUpstream$Condition" "status" "I" (.int (0 : Int32))) (F_en2_status : Fld Z h0 en2 "com/example/fanoutd/fanoutd/proxy/NextUpstream$Condition" "status" "I" (.int (0 : Int32))) (F_en3_status : Fld Z h0 en3 "com/example/fanoutd/fanoutd/proxy/NextUpstream$Condition" "status" "I" (.int (500 : Int32))) (F_en4_status : Fld Z h0 en4 "com/example/fanoutd/fanoutd/proxy/NextUpstream$Condition" "status" "I" (.int (502 : Int32))) (F_en5_status : Fld Z h0 en5 "com/example/fanoutd/fanoutd/proxy/NextUpstream$Condition" "status" "I" (.int (503 : Int32))) (F_en6_status : Fld Z h0 en6 "com/example/fanoutd/fanoutd/proxy/NextUpstream$Condition" "status" "I" (.int (504 : Int32))) (F_en7_status : Fld Z h0 en7 "com/example/fanoutd/fanoutd/proxy/NextUpstream$Condition" "status" "I" (.int (403 : Int32))) (F_en8_status : Fld Z h0 en8 "com/example/fanoutd/fanoutd/proxy/NextUpstream$Condition" "status" "I" (.int (404 : Int32))) (F_en9_status : Fld Z h0 en9 "com/example/fanoutd/fanoutd/proxy/NextUpstream$Condition" "status" "I" (.int (429 : Int32))) (F_en10_status : Fld Z h0 en10 "com/example/fanoutd/fanoutd/proxy/NextUpstream$Condition" "status" "I" (.int (0 : Int32))) (hs : p0 = (503 : Int32)) :
    MetFree l (⟨"com/example/fanoutd/fanoutd/proxy/NextUpstream$Condition", "ofStatus", "(I)Lcom/example/fanoutd/fanoutd/proxy/NextUpstream$Condition;"⟩ : MethodName) (head1 (Jvm.Cond.code (⟨"com/example/fanoutd/fanoutd/proxy/NextUpstream$Condition", "ofStatus", "(I)Lcom/example/fanoutd/fanoutd/proxy/NextUpstream$Condition;"⟩ : MethodName) prog_62_method_7_code 5 (some (.object "com/example/fanoutd/fanoutd/proxy/NextUpstream$Condition")) :: ws) ({ frames := 0, cells := 0, slots := 0, locals := 0 } : Room)) (fun a U => a = #[(.int p0)] ∧ Z.Warmed39 U.vm ∧ U.heap = h0) (fun _ _ _ _ _ => True) (fun _ U o U' => ∃ v L, o = .returned v ∧ Q_1t503 Z p0 en0 en1 en2 en3 en4 en5 en6 en7 en8 en9 en10 al h0 n0 v U'.heap L ∧ FrameEnd U o U' L ({ frames := 0, cells := 0, slots := 0, locals := 0 } : Room).cells ({ frames := 0, cells := 0, slots := 0, locals := 0 } : Room).slots) := by
  refine MetFree.of_bodySF (plainFor_of_name pn_1) hisR ?_
  intro p e s m args below meth c s₁ Bd hml0 hP hK
  obtain ⟨rfl, hZ, hh⟩ := hP
  have hx := Bd.exec
  have hby := Bd.bytes
  have hml : c.maxLocals = 5 := hml0
  have hown : s.vm.findClass "com/example/fanoutd/fanoutd/proxy/NextUpstream$Condition" = some m.cls := findClass_of_methodNamed Bd.named
  have hnm := (name_of_methodNamed Bd.named Bd.method).1
  have X0 : Stand p l e ({ frames := 0, cells := 0, slots := 0, locals := 0 } : Room) s m #[(.int p0)] below meth c s₁ [] 0 0 := Stand.of_body Bd
  have e0 : s₁.heap = h0 := by rw [← hh, Bd.state]; rfl
  have N0 := Fr.nil n0
  have K0 : Keep h0 h0 [] := Keep.refl h0 _
  have pre0 : ∀ t, Steps p.tables e below (s₁.setTop (mkF m 0 #[.val (.int p0), .unset, .unset, .unset, .unset] [])) t → Steps p.tables e below (s₁.setTop (entryFrame m #[(.int p0)] 5)) t := fun t k => castTop (ef_1t503 m p0) k
  obtain ⟨T1, X1, e1, st1⟩ := getS2 X0 hx hZ hown (host := "") (Or.inl (hw _ (List.mem_of_getElem? (i := 5) rfl))) Via.refl e0 S_ALL (g := (mkF m 0 #[.val (.int p0), .unset, .unset, .unset, .unset] [])) rfl (hb hby d1_0)
  have pre2 : ∀ t, Steps p.tables e below (T1.setTop (mkF m 21 #[.val (.int p0), .val (.ref al), .val (.int (11 : Int32)), .val (.int (0 : Int32)), .val (.ref en0)] [(.ref en0)])) t → Steps p.tables e below (s₁.setTop (entryFrame m #[(.int p0)] 5)) t := by
    intro t k
    refine pre0 t ?_
    show Steps p.tables e below (s₁.setTop (mkF m 0 #[.val (.int p0), .unset, .unset, .unset, .unset] [])) _
    refine st1 _ ?_
    show Steps p.tables e below (T1.setTop (mkF m 3 #[.val (.int p0), .unset, .unset, .unset, .unset] [(.ref al)])) _
    refine XS.astoreN X1.here hx rfl (hb hby d1_3) rfl rfl (l' := #[.val (.int p0), .val (.ref al), .unset, .unset, .unset]) rfl ?_
    show Steps p.tables e below (T1.setTop (mkF m 4 #[.val (.int p0), .val (.ref al), .unset, .unset, .unset] [])) _
    refine XS.aloadN X1.here hx rfl (hb hby d1_4) rfl rfl ?_
    show Steps p.tables e below (T1.setTop (mkF m 5 #[.val (.int p0), .val (.ref al), .unset, .unset, .unset] [(.ref al)])) _
    refine own_len X1 hx hZ e1 A_al (z := (11 : Int32)) rfl (g := (mkF m 5 #[.val (.int p0), .val (.ref al), .unset, .unset, .unset] [(.ref al)])) rfl rfl (hb hby d1_5) ?_
    show Steps p.tables e below (T1.setTop (mkF m 6 #[.val (.int p0), .val (.ref al), .unset, .unset, .unset] [(.int (11 : Int32))])) _
    refine XS.istoreN X1.here hx rfl (hb hby d1_6) rfl (l' := #[.val (.int p0), .val (.ref al), .val (.int (11 : Int32)), .unset, .unset]) rfl ?_
    show Steps p.tables e below (T1.setTop (mkF m 7 #[.val (.int p0), .val (.ref al), .val (.int (11 : Int32)), .unset, .unset] [])) _
    refine XS.iconst X1.here hx rfl (hb hby d1_7) ?_
    show Steps p.tables e below (T1.setTop (mkF m 8 #[.val (.int p0), .val (.ref al), .val (.int (11 : Int32)), .unset, .unset] [(.int (0 : Int32))])) _
    refine XS.istoreN X1.here hx rfl (hb hby d1_8) rfl (l' := #[.val (.int p0), .val (.ref al), .val (.int (11 : Int32)), .val (.int (0 : Int32)), .unset]) rfl ?_
    show Steps p.tables e below (T1.setTop (mkF m 9 #[.val (.int p0), .val (.ref al), .val (.int (11 : Int32)), .val (.int (0 : Int32)), .unset] [])) _
    refine XS.iloadN X1.here hx rfl (hb hby d1_9) rfl  ?_
    show Steps p.tables e below (T1.setTop (mkF m 10 #[.val (.int p0), .val (.ref al), .val (.int (11 : Int32)), .val (.int (0 : Int32)), .unset] [(.int (0 : Int32))])) _
    refine XS.iloadN X1.here hx rfl (hb hby d1_10) rfl  ?_
    show Steps p.tables e below (T1.setTop (mkF m 11 #[.val (.int p0), .val (.ref al), .val (.int (11 : Int32)), .val (.int (0 : Int32)), .unset] [(.int (11 : Int32)), (.int (0 : Int32))])) _
    refine XS.icmpNo X1.here hx rfl (hb hby d1_11) rfl (tlt (by decide : (0 : Int32) < (11 : Int32))).2.1 ?_
    show Steps p.tables e below (T1.setTop (mkF m 14 #[.val (.int p0), .val (.ref al), .val (.int (11 : Int32)), .val (.int (0 : Int32)), .unset] [])) _
    refine XS.aloadN X1.here hx rfl (hb hby d1_14) rfl rfl ?_
    show Steps p.tables e below (T1.setTop (mkF m 15 #[.val (.int p0), .val (.ref al), .val (.int (11 : Int32)), .val (.int (0 : Int32)), .unset] [(.ref al)])) _
    refine XS.iloadN X1.here hx rfl (hb hby d1_15) rfl  ?_
    show Steps p.tables e below (T1.setTop (mkF m 16 #[.val (.int p0), .val (.ref al), .val (.int (11 : Int32)), .val (.int (0 : Int32)), .unset] [(.int (0 : Int32)), (.ref al)])) _
    refine own_ldR X1 hx hZ e1 A_al rfl (j := (0 : Int32)) (k := 0) (v := .ref en0) rfl (by decide) (by decide) (by decide) (g := (mkF m 16 #[.val (.int p0), .val (.ref al), .val (.int (11 : Int32)), .val (.int (0 : Int32)), .unset] [(.int (0 : Int32)), (.ref al)])) rfl rfl (hb hby d1_16) ?_
    show Steps p.tables e below (T1.setTop (mkF m 17 #[.val (.int p0), .val (.ref al), .val (.int (11 : Int32)), .val (.int (0 : Int32)), .unset] [(.ref en0)])) _
    refine XS.astore X1.here hx rfl (hb hby d1_17) rfl rfl (l' := #[.val (.int p0), .val (.ref al), .val (.int (11 : Int32)), .val (.int (0 : Int32)), .val (.ref en0)]) rfl ?_
    show Steps p.tables e below (T1.setTop (mkF m 19 #[.val (.int p0), .val (.ref al), .val (.int (11 : Int32)), .val (.int (0 : Int32)), .val (.ref en0)] [])) _
    refine XS.aload X1.here hx rfl (hb hby d1_19) rfl rfl ?_
    exact k
  obtain ⟨T3, X3, e3, st3⟩ := getF X1 hx hZ hown (host := "") (Or.inl (hw _ (List.mem_of_getElem? (i := 8) rfl))) Via.refl e1 F_en0_status (g := (mkF m 21 #[.val (.int p0), .val (.ref al), .val (.int (11 : Int32)), .val (.int (0 : Int32)), .val (.ref en0)] [(.ref en0)])) rfl rfl (hb hby d1_21)
  have pre4 : ∀ t, Steps p.tables e below (T3.setTop (mkF m 21 #[.val (.int p0), .val (.ref al), .val (.int (11 : Int32)), .val (.int (1 : Int32)), .val (.ref en1)] [(.ref en1)])) t → Steps p.tables e below (s₁.setTop (entryFrame m #[(.int p0)] 5)) t := by
    intro t k
    refine pre2 t ?_
    show Steps p.tables e below (T1.setTop (mkF m 21 #[.val (.int p0), .val (.ref al), .val (.int (11 : Int32)), .val (.int (0 : Int32)), .val (.ref en0)] [(.ref en0)])) _
    refine st3 _ ?_
    show Steps p.tables e below (T3.setTop (mkF m 24 #[.val (.int p0), .val (.ref al), .val (.int (11 : Int32)), .val (.int (0 : Int32)), .val (.ref en0)] [(.int (0 : Int32))])) _
    refine XS.iloadN X3.here hx rfl (hb hby d1_24) rfl  ?_
    show Steps p.tables e below (T3.setTop (mkF m 25 #[.val (.int p0), .val (.ref al), .val (.int (11 : Int32)), .val (.int (0 : Int32)), .val (.ref en0)] [(.int p0), (.int (0 : Int32))])) _
    refine XS.icmpYes X3.here hx rfl (pc0 := 25) (pc' := 31) rfl (hb hby d1_25) rfl (feq ((by rw [hs]; first | done | decide) : ¬ ((0 : Int32) = p0))).2 (by decide) (by decide) ?_
    show Steps p.tables e below (T3.setTop (mkF m 31 #[.val (.int p0), .val (.ref al), .val (.int (11 : Int32)), .val (.int (0 : Int32)), .val (.ref en0)] [])) _
    refine XS.iinc X3.here hx rfl (hb hby d1_31) rfl (l' := #[.val (.int p0), .val (.ref al), .val (.int (11 : Int32)), .val (.int (1 : Int32)), .val (.ref en0)]) rfl ?_
    show Steps p.tables e below (T3.setTop (mkF m 34 #[.val (.int p0), .val (.ref al), .val (.int (11 : Int32)), .val (.int (1 : Int32)), .val (.ref en0)] [])) _
    refine XS.goto X3.here hx rfl (pc0 := 34) (pc' := 9) rfl (hb hby d1_34) (by decide) (by decide) ?_
    show Steps p.tables e below (T3.setTop (mkF m 9 #[.val (.int p0), .val (.ref al), .val (.int (11 : Int32)), .val (.int (1 : Int32)), .val (.ref en0)] [])) _
    refine XS.iloadN X3.here hx rfl (hb hby d1_9) rfl  ?_
    show Steps p.tables e below (T3.setTop (mkF m 10 #[.val (.int p0), .val (.ref al), .val (.int (11 : Int32)), .val (.int (1 : Int32)), .val (.ref en0)] [(.int (1 : Int32))])) _
    refine XS.iloadN X3.here hx rfl (hb hby d1_10) rfl  ?_
    show Steps p.tables e below (T3.setTop (mkF m 11 #[.val (.int p0), .val (.ref al), .val (.int (11 : Int32)), .val (.int (1 : Int32)), .val (.ref en0)] [(.int (11 : Int32)), (.int (1 : Int32))])) _
    refine XS.icmpNo X3.here hx rfl (hb hby d1_11) rfl (tlt (by decide : (1 : Int32) < (11 : Int32))).2.1 ?_
    show Steps p.tables e below (T3.setTop (mkF m 14 #[.val (.int p0), .val (.ref al), .val (.int (11 : Int32)), .val (.int (1 : Int32)), .val (.ref en0)] [])) _
    refine XS.aloadN X3.here hx rfl (hb hby d1_14) rfl rfl ?_
    show Steps p.tables e below (T3.setTop (mkF m 15 #[.val (.int p0), .val (.ref al), .val (.int (11 : Int32)), .val (.int (1 : Int32)), .val (.ref en0)] [(.ref al)])) _
    refine XS.iloadN X3.here hx rfl (hb hby d1_15) rfl  ?_
    show Steps p.tables e below (T3.setTop (mkF m 16 #[.val (.int p0), .val (.ref al), .val (.int (11 : Int32)), .val (.int (1 : Int32)), .val (.ref en0)] [(.int (1 : Int32)), (.ref al)])) _
    refine own_ldR X3 hx hZ e3 A_al rfl (j := (1 : Int32)) (k := 1) (v := .ref en1) rfl (by decide) (by decide) (by decide) (g := (mkF m 16 #[.val (.int p0), .val (.ref al), .val (.int (11 : Int32)), .val (.int (1 : Int32)), .val (.ref en0)] [(.int (1 : Int32)), (.ref al)])) rfl rfl (hb hby d1_16) ?_
    show Steps p.tables e below (T3.setTop (mkF m 17 #[.val (.int p0), .val (.ref al), .val (.int (11 : Int32)), .val (.int (1 : Int32)), .val (.ref en0)] [(.ref en1)])) _
    refine XS.astore X3.here hx rfl (hb hby d1_17) rfl rfl (l' := #[.val (.int p0), .val (.ref al), .val (.int (11 : Int32)), .val (.int (1 : Int32)), .val (.ref en1)]) rfl ?_
    show Steps p.tables e below (T3.setTop (mkF m 19 #[.val (.int p0), .val (.ref al), .val (.int (11 : Int32)), .val (.int (1 : Int32)), .val (.ref en1)] [])) _
    refine XS.aload X3.here hx rfl (hb hby d1_19) rfl rfl ?_
    exact k
  obtain ⟨T5, X5, e5, st5⟩ := getF X3 hx hZ hown (host := "") (Or.inl (hw _ (List.mem_of_getElem? (i := 8) rfl))) Via.refl e3 F_en1_status (g := (mkF m 21 #[.val (.int p0), .val (.ref al), .val (.int (11 : Int32)), .val (.int (1 : Int32)), .val (.ref en1)] [(.ref en1)])) rfl rfl (hb hby d1_21)
  have pre6 : ∀ t, Steps p.tables e below (T5.setTop (mkF m 21 #[.val (.int p0), .val (.ref al), .val (.int (11 : Int32)), .val (.int (2 : Int32)), .val (.ref en2)] [(.ref en2)])) t → Steps p.tables e below (s₁.setTop (entryFrame m #[(.int p0)] 5)) t := by
    intro t k
    refine pre4 t ?_
    show Steps p.tables e below (T3.setTop (mkF m 21 #[.val (.int p0), .val (.ref al), .val (.int (11 : Int32)), .val (.int (1 : Int32)), .val (.ref en1)] [(.ref en1)])) _
    refine st5 _ ?_
    show Steps p.tables e below (T5.setTop (mkF m 24 #[.val (.int p0), .val (.ref al), .val (.int (11 : Int32)), .val (.int (1 : Int32)), .val (.ref en1)] [(.int (0 : Int32))])) _
    refine XS.iloadN X5.here hx rfl (hb hby d1_24) rfl  ?_
    show Steps p.tables e below (T5.setTop (mkF m 25 #[.val (.int p0), .val (.ref al), .val (.int (11 : Int32)), .val (.int (1 : Int32)), .val (.ref en1)] [(.int p0), (.int (0 : Int32))])) _
    refine XS.icmpYes X5.here hx rfl (pc0 := 25) (pc' := 31) rfl (hb hby d1_25) rfl (feq ((by rw [hs]; first | done | decide) : ¬ ((0 : Int32) = p0))).2 (by decide) (by decide) ?_
    show Steps p.tables e below (T5.setTop (mkF m 31 #[.val (.int p0), .val (.ref al), .val (.int (11 : Int32)), .val (.int (1 : Int32)), .val (.ref en1)] [])) _
    refine XS.iinc X5.here hx rfl (hb hby d1_31) rfl (l' := #[.val (.int p0), .val (.ref al), .val (.int (11 : Int32)), .val (.int (2 : Int32)), .val (.ref en1)]) rfl ?_
    show Steps p.tables e below (T5.setTop (mkF m 34 #[.val (.int p0), .val (.ref al), .val (.int (11 : Int32)), .val (.int (2 : Int32)), .val (.ref en1)] [])) _
    refine XS.goto X5.here hx rfl (pc0 := 34) (pc' := 9) rfl (hb hby d1_34) (by decide) (by decide) ?_
    show Steps p.tables e below (T5.setTop (mkF m 9 #[.val (.int p0), .val (.ref al), .val (.int (11 : Int32)), .val (.int (2 : Int32)), .val (.ref en1)] [])) _
    refine XS.iloadN X5.here hx rfl (hb hby d1_9) rfl  ?_
    show Steps p.tables e below (T5.setTop (mkF m 10 #[.val (.int p0), .val (.ref al), .val (.int (11 : Int32)), .val (.int (2 : Int32)), .val (.ref en1)] [(.int (2 : Int32))])) _
    refine XS.iloadN X5.here hx rfl (hb hby d1_10) rfl  ?_
    show Steps p.tables e below (T5.setTop (mkF m 11 #[.val (.int p0), .val (.ref al), .val (.int (11 : Int32)), .val (.int (2 : Int32)), .val (.ref en1)] [(.int (11 : Int32)), (.int (2 : Int32))])) _
    refine XS.icmpNo X5.here hx rfl (hb hby d1_11) rfl (tlt (by decide : (2 : Int32) < (11 : Int32))).2.1 ?_
    show Steps p.tables e below (T5.setTop (mkF m 14 #[.val (.int p0), .val (.ref al), .val (.int (11 : Int32)), .val (.int (2 : Int32)), .val (.ref en1)] [])) _
    refine XS.aloadN X5.here hx rfl (hb hby d1_14) rfl rfl ?_
    show Steps p.tables e below (T5.setTop (mkF m 15 #[.val (.int p0), .val (.ref al), .val (.int (11 : Int32)), .val (.int (2 : Int32)), .val (.ref en1)] [(.ref al)])) _
    refine XS.iloadN X5.here hx rfl (hb hby d1_15) rfl  ?_
    show Steps p.tables e below (T5.setTop (mkF m 16 #[.val (.int p0), .val (.ref al), .val (.int (11 : Int32)), .val (.int (2 : Int32)), .val (.ref en1)] [(.int (2 : Int32)), (.ref al)])) _
    refine own_ldR X5 hx hZ e5 A_al rfl (j := (2 : Int32)) (k := 2) (v := .ref en2) rfl (by decide) (by decide) (by decide) (g := (mkF m 16 #[.val (.int p0), .val (.ref al), .val (.int (11 : Int32)), .val (.int (2 : Int32)), .val (.ref en1)] [(.int (2 : Int32)), (.ref al)])) rfl rfl (hb hby d1_16) ?_
    show Steps p.tables e below (T5.setTop (mkF m 17 #[.val (.int p0), .val (.ref al), .val (.int (11 : Int32)), .val (.int (2 : Int32)), .val (.ref en1)] [(.ref en2)])) _
    refine XS.astore X5.here hx rfl (hb hby d1_17) rfl rfl (l' := #[.val (.int p0), .val (.ref al), .val (.int (11 : Int32)), .val (.int (2 : Int32)), .val (.ref en2)]) rfl ?_
    show Steps p.tables e below (T5.setTop (mkF m 19 #[.val (.int p0), .val (.ref al), .val (.int (11 : Int32)), .val (.int (2 : Int32)), .val (.ref en2)] [])) _
    refine XS.aload X5.here hx rfl (hb hby d1_19) rfl rfl ?_
    exact k
  obtain ⟨T7, X7, e7, st7⟩ := getF X5 hx hZ hown (host := "") (Or.inl (hw _ (List.mem_of_getElem? (i := 8) rfl))) Via.refl e5 F_en2_status (g := (mkF m 21 #[.val (.int p0), .val (.ref al), .val (.int (11 : Int32)), .val (.int (2 : Int32)), .val (.ref en2)] [(.ref en2)])) rfl rfl (hb hby d1_21)
  have pre8 : ∀ t, Steps p.tables e below (T7.setTop (mkF m 21 #[.val (.int p0), .val (.ref al), .val (.int (11 : Int32)), .val (.int (3 : Int32)), .val (.ref en3)] [(.ref en3)])) t → Steps p.tables e below (s₁.setTop (entryFrame m #[(.int p0)] 5)) t := by
    intro t k
    refine pre6 t ?_
    show Steps p.tables e below (T5.setTop (mkF m 21 #[.val (.int p0), .val (.ref al), .val (.int (11 : Int32)), .val (.int (2 : Int32)), .val (.ref en2)] [(.ref en2)])) _
    refine st7 _ ?_
    show Steps p.tables e below (T7.setTop (mkF m 24 #[.val (.int p0), .val (.ref al), .val (.int (11 : Int32)), .val (.int (2 : Int32)), .val (.ref en2)] [(.int (0 : Int32))])) _
    refine XS.iloadN X7.here hx rfl (hb hby d1_24) rfl  ?_
    show Steps p.tables e below (T7.setTop (mkF m 25 #[.val (.int p0), .val (.ref al), .val (.int (11 : Int32)), .val (.int (2 : Int32)), .val (.ref en2)] [(.int p0), (.int (0 : Int32))])) _
    refine XS.icmpYes X7.here hx rfl (pc0 := 25) (pc' := 31) rfl (hb hby d1_25) rfl (feq ((by rw [hs]; first | done | decide) : ¬ ((0 : Int32) = p0))).2 (by decide) (by decide) ?_
    show Steps p.tables e below (T7.setTop (mkF m 31 #[.val (.int p0), .val (.ref al), .val (.int (11 : Int32)), .val (.int (2 : Int32)), .val (.ref en2)] [])) _
    refine XS.iinc X7.here hx rfl (hb hby d1_31) rfl (l' := #[.val (.int p0), .val (.ref al), .val (.int (11 : Int32)), .val (.int (3 : Int32)), .val (.ref en2)]) rfl ?_
    show Steps p.tables e below (T7.setTop (mkF m 34 #[.val (.int p0), .val (.ref al), .val (.int (11 : Int32)), .val (.int (3 : Int32)), .val (.ref en2)] [])) _
    refine XS.goto X7.here hx rfl (pc0 := 34) (pc' := 9) rfl (hb hby d1_34) (by decide) (by decide) ?_
    show Steps p.tables e below (T7.setTop (mkF m 9 #[.val (.int p0), .val (.ref al), .val (.int (11 : Int32)), .val (.int (3 : Int32)), .val (.ref en2)] [])) _
    refine XS.iloadN X7.here hx rfl (hb hby d1_9) rfl  ?_
    show Steps p.tables e below (T7.setTop (mkF m 10 #[.val (.int p0), .val (.ref al), .val (.int (11 : Int32)), .val (.int (3 : Int32)), .val (.ref en2)] [(.int (3 : Int32))])) _
    refine XS.iloadN X7.here hx rfl (hb hby d1_10) rfl  ?_
    show Steps p.tables e below (T7.setTop (mkF m 11 #[.val (.int p0), .val (.ref al), .val (.int (11 : Int32)), .val (.int (3 : Int32)), .val (.ref en2)] [(.int (11 : Int32)), (.int (3 : Int32))])) _
    refine XS.icmpNo X7.here hx rfl (hb hby d1_11) rfl (tlt (by decide : (3 : Int32) < (11 : Int32))).2.1 ?_
    show Steps p.tables e below (T7.setTop (mkF m 14 #[.val (.int p0), .val (.ref al), .val (.int (11 : Int32)), .val (.int (3 : Int32)), .val (.ref en2)] [])) _
    refine XS.aloadN X7.here hx rfl (hb hby d1_14) rfl rfl ?_
    show Steps p.tables e below (T7.setTop (mkF m 15 #[.val (.int p0), .val (.ref al), .val (.int (11 : Int32)), .val (.int (3 : Int32)), .val (.ref en2)] [(.ref al)])) _
    refine XS.iloadN X7.here hx rfl (hb hby d1_15) rfl  ?_
    show Steps p.tables e below (T7.setTop (mkF m 16 #[.val (.int p0), .val (.ref al), .val (.int (11 : Int32)), .val (.int (3 : Int32)), .val (.ref en2)] [(.int (3 : Int32)), (.ref al)])) _
    refine own_ldR X7 hx hZ e7 A_al rfl (j := (3 : Int32)) (k := 3) (v := .ref en3) rfl (by decide) (by decide) (by decide) (g := (mkF m 16 #[.val (.int p0), .val (.ref al), .val (.int (11 : Int32)), .val (.int (3 : Int32)), .val (.ref en2)] [(.int (3 : Int32)), (.ref al)])) rfl rfl (hb hby d1_16) ?_
    show Steps p.tables e below (T7.setTop (mkF m 17 #[.val (.int p0), .val (.ref al), .val (.int (11 : Int32)), .val (.int (3 : Int32)), .val (.ref en2)] [(.ref en3)])) _
    refine XS.astore X7.here hx rfl (hb hby d1_17) rfl rfl (l' := #[.val (.int p0), .val (.ref al), .val (.int (11 : Int32)), .val (.int (3 : Int32)), .val (.ref en3)]) rfl ?_
    show Steps p.tables e below (T7.setTop (mkF m 19 #[.val (.int p0), .val (.ref al), .val (.int (11 : Int32)), .val (.int (3 : Int32)), .val (.ref en3)] [])) _
    refine XS.aload X7.here hx rfl (hb hby d1_19) rfl rfl ?_
    exact k
  obtain ⟨T9, X9, e9, st9⟩ := getF X7 hx hZ hown (host := "") (Or.inl (hw _ (List.mem_of_getElem? (i := 8) rfl))) Via.refl e7 F_en3_status (g := (mkF m 21 #[.val (.int p0), .val (.ref al), .val (.int (11 : Int32)), .val (.int (3 : Int32)), .val (.ref en3)] [(.ref en3)])) rfl rfl (hb hby d1_21)
  have pre10 : ∀ t, Steps p.tables e below (T9.setTop (mkF m 21 #[.val (.int p0), .val (.ref al), .val (.int (11 : Int32)), .val (.int (4 : Int32)), .val (.ref en4)] [(.ref en4)])) t → Steps p.tables e below (s₁.setTop (entryFrame m #[(.int p0)] 5)) t := by
    intro t k
    refine pre8 t ?_
    show Steps p.tables e below (T7.setTop (mkF m 21 #[.val (.int p0), .val (.ref al), .val (.int (11 : Int32)), .val (.int (3 : Int32)), .val (.ref en3)] [(.ref en3)])) _
    refine st9 _ ?_
    show Steps p.tables e below (T9.setTop (mkF m 24 #[.val (.int p0), .val (.ref al), .val (.int (11 : Int32)), .val (.int (3 : Int32)), .val (.ref en3)] [(.int (500 : Int32))])) _
    refine XS.iloadN X9.here hx rfl (hb hby d1_24) rfl  ?_
    show Steps p.tables e below (T9.setTop (mkF m 25 #[.val (.int p0), .val (.ref al), .val (.int (11 : Int32)), .val (.int (3 : Int32)), .val (.ref en3)] [(.int p0), (.int (500 : Int32))])) _
    refine XS.icmpYes X9.here hx rfl (pc0 := 25) (pc' := 31) rfl (hb hby d1_25) rfl (feq ((by rw [hs]; first | done | decide) : ¬ ((500 : Int32) = p0))).2 (by decide) (by decide) ?_
    show Steps p.tables e below (T9.setTop (mkF m 31 #[.val (.int p0), .val (.ref al), .val (.int (11 : Int32)), .val (.int (3 : Int32)), .val (.ref en3)] [])) _
    refine XS.iinc X9.here hx rfl (hb hby d1_31) rfl (l' := #[.val (.int p0), .val (.ref al), .val (.int (11 : Int32)), .val (.int (4 : Int32)), .val (.ref en3)]) rfl ?_
    show Steps p.tables e below (T9.setTop (mkF m 34 #[.val (.int p0), .val (.ref al), .val (.int (11 : Int32)), .val (.int (4 : Int32)), .val (.ref en3)] [])) _
    refine XS.goto X9.here hx rfl (pc0 := 34) (pc' := 9) rfl (hb hby d1_34) (by decide) (by decide) ?_
    show Steps p.tables e below (T9.setTop (mkF m 9 #[.val (.int p0), .val (.ref al), .val (.int (11 : Int32)), .val (.int (4 : Int32)), .val (.ref en3)] [])) _
    refine XS.iloadN X9.here hx rfl (hb hby d1_9) rfl  ?_
    show Steps p.tables e below (T9.setTop (mkF m 10 #[.val (.int p0), .val (.ref al), .val (.int (11 : Int32)), .val (.int (4 : Int32)), .val (.ref en3)] [(.int (4 : Int32))])) _
    refine XS.iloadN X9.here hx rfl (hb hby d1_10) rfl  ?_
    show Steps p.tables e below (T9.setTop (mkF m 11 #[.val (.int p0), .val (.ref al), .val (.int (11 : Int32)), .val (.int (4 : Int32)), .val (.ref en3)] [(.int (11 : Int32)), (.int (4 : Int32))])) _
    refine XS.icmpNo X9.here hx rfl (hb hby d1_11) rfl (tlt (by decide : (4 : Int32) < (11 : Int32))).2.1 ?_
    show Steps p.tables e below (T9.setTop (mkF m 14 #[.val (.int p0), .val (.ref al), .val (.int (11 : Int32)), .val (.int (4 : Int32)), .val (.ref en3)] [])) _
    refine XS.aloadN X9.here hx rfl (hb hby d1_14) rfl rfl ?_
    show Steps p.tables e below (T9.setTop (mkF m 15 #[.val (.int p0), .val (.ref al), .val (.int (11 : Int32)), .val (.int (4 : Int32)), .val (.ref en3)] [(.ref al)])) _
    refine XS.iloadN X9.here hx rfl (hb hby d1_15) rfl  ?_
    show Steps p.tables e below (T9.setTop (mkF m 16 #[.val (.int p0), .val (.ref al), .val (.int (11 : Int32)), .val (.int (4 : Int32)), .val (.ref en3)] [(.int (4 : Int32)), (.ref al)])) _
    refine own_ldR X9 hx hZ e9 A_al rfl (j := (4 : Int32)) (k := 4) (v := .ref en4) rfl (by decide) (by decide) (by decide) (g := (mkF m 16 #[.val (.int p0), .val (.ref al), .val (.int (11 : Int32)), .val (.int (4 : Int32)), .val (.ref en3)] [(.int (4 : Int32)), (.ref al)])) rfl rfl (hb hby d1_16) ?_
    show Steps p.tables e below (T9.setTop (mkF m 17 #[.val (.int p0), .val (.ref al), .val (.int (11 : Int32)), .val (.int (4 : Int32)), .val (.ref en3)] [(.ref en4)])) _
    refine XS.astore X9.here hx rfl (hb hby d1_17) rfl rfl (l' := #[.val (.int p0), .val (.ref al), .val (.int (11 : Int32)), .val (.int (4 : Int32)), .val (.ref en4)]) rfl ?_
    show Steps p.tables e below (T9.setTop (mkF m 19 #[.val (.int p0), .val (.ref al), .val (.int (11 : Int32)), .val (.int (4 : Int32)), .val (.ref en4)] [])) _
    refine XS.aload X9.here hx rfl (hb hby d1_19) rfl rfl ?_
    exact k
  obtain ⟨T11, X11, e11, st11⟩ := getF X9 hx hZ hown (host := "") (Or.inl (hw _ (List.mem_of_getElem? (i := 8) rfl))) Via.refl e9 F_en4_status (g := (mkF m 21 #[.val (.int p0), .val (.ref al), .val (.int (11 : Int32)), .val (.int (4 : Int32)), .val (.ref en4)] [(.ref en4)])) rfl rfl (hb hby d1_21)
  have pre12 : ∀ t, Steps p.tables e below (T11.setTop (mkF m 21 #[.val (.int p0), .val (.ref al), .val (.int (11 : Int32)), .val (.int (5 : Int32)), .val (.ref en5)] [(.ref en5)])) t → Steps p.tables e below (s₁.setTop (entryFrame m #[(.int p0)] 5)) t := by
    intro t k
    refine pre10 t ?_
    show Steps p.tables e below (T9.setTop (mkF m 21 #[.val (.int p0), .val (.ref al), .val (.int (11 : Int32)), .val (.int (4 : Int32)), .val (.ref en4)] [(.ref en4)])) _
    refine st11 _ ?_
    show Steps p.tables e below (T11.setTop (mkF m 24 #[.val (.int p0), .val (.ref al), .val (.int (11 : Int32)), .val (.int (4 : Int32)), .val (.ref en4)] [(.int (502 : Int32))])) _
    refine XS.iloadN X11.here hx rfl (hb hby d1_24) rfl  ?_
    show Steps p.tables e below (T11.setTop (mkF m 25 #[.val (.int p0), .val (.ref al), .val (.int (11 : Int32)), .val (.int (4 : Int32)), .val (.ref en4)] [(.int p0), (.int (502 : Int32))])) _
    refine XS.icmpYes X11.here hx rfl (pc0 := 25) (pc' := 31) rfl (hb hby d1_25) rfl (feq ((by rw [hs]; first | done | decide) : ¬ ((502 : Int32) = p0))).2 (by decide) (by decide) ?_
    show Steps p.tables e below (T11.setTop (mkF m 31 #[.val (.int p0), .val (.ref al), .val (.int (11 : Int32)), .val (.int (4 : Int32)), .val (.ref en4)] [])) _
    refine XS.iinc X11.here hx rfl (hb hby d1_31) rfl (l' := #[.val (.int p0), .val (.ref al), .val (.int (11 : Int32)), .val (.int (5 : Int32)), .val (.ref en4)]) rfl ?_
    show Steps p.tables e below (T11.setTop (mkF m 34 #[.val (.int p0), .val (.ref al), .val (.int (11 : Int32)), .val (.int (5 : Int32)), .val (.ref en4)] [])) _
    refine XS.goto X11.here hx rfl (pc0 := 34) (pc' := 9) rfl (hb hby d1_34) (by decide) (by decide) ?_
    show Steps p.tables e below (T11.setTop (mkF m 9 #[.val (.int p0), .val (.ref al), .val (.int (11 : Int32)), .val (.int (5 : Int32)), .val (.ref en4)] [])) _
    refine XS.iloadN X11.here hx rfl (hb hby d1_9) rfl  ?_
    show Steps p.tables e below (T11.setTop (mkF m 10 #[.val (.int p0), .val (.ref al), .val (.int (11 : Int32)), .val (.int (5 : Int32)), .val (.ref en4)] [(.int (5 : Int32))])) _
    refine XS.iloadN X11.here hx rfl (hb hby d1_10) rfl  ?_
    show Steps p.tables e below (T11.setTop (mkF m 11 #[.val (.int p0), .val (.ref al), .val (.int (11 : Int32)), .val (.int (5 : Int32)), .val (.ref en4)] [(.int (11 : Int32)), (.int (5 : Int32))])) _
    refine XS.icmpNo X11.here hx rfl (hb hby d1_11) rfl (tlt (by decide : (5 : Int32) < (11 : Int32))).2.1 ?_
    show Steps p.tables e below (T11.setTop (mkF m 14 #[.val (.int p0), .val (.ref al), .val (.int (11 : Int32)), .val (.int (5 : Int32)), .val (.ref en4)] [])) _
    refine XS.aloadN X11.here hx rfl (hb hby d1_14) rfl rfl ?_
    show Steps p.tables e below (T11.setTop (mkF m 15 #[.val (.int p0), .val (.ref al), .val (.int (11 : Int32)), .val (.int (5 : Int32)), .val (.ref en4)] [(.ref al)])) _
    refine XS.iloadN X11.here hx rfl (hb hby d1_15) rfl  ?_
    show Steps p.tables e below (T11.setTop (mkF m 16 #[.val (.int p0), .val (.ref al), .val (.int (11 : Int32)), .val (.int (5 : Int32)), .val (.ref en4)] [(.int (5 : Int32)), (.ref al)])) _
    refine own_ldR X11 hx hZ e11 A_al rfl (j := (5 : Int32)) (k := 5) (v := .ref en5) rfl (by decide) (by decide) (by decide) (g := (mkF m 16 #[.val (.int p0), .val (.ref al), .val (.int (11 : Int32)), .val (.int (5 : Int32)), .val (.ref en4)] [(.int (5 : Int32)), (.ref al)])) rfl rfl (hb hby d1_16) ?_
    show Steps p.tables e below (T11.setTop (mkF m 17 #[.val (.int p0), .val (.ref al), .val (.int (11 : Int32)), .val (.int (5 : Int32)), .val (.ref en4)] [(.ref en5)])) _
    refine XS.astore X11.here hx rfl (hb hby d1_17) rfl rfl (l' := #[.val (.int p0), .val (.ref al), .val (.int (11 : Int32)), .val (.int (5 : Int32)), .val (.ref en5)]) rfl ?_
    show Steps p.tables e below (T11.setTop (mkF m 19 #[.val (.int p0), .val (.ref al), .val (.int (11 : Int32)), .val (.int (5 : Int32)), .val (.ref en5)] [])) _
    refine XS.aload X11.here hx rfl (hb hby d1_19) rfl rfl ?_
    exact k
  obtain ⟨T13, X13, e13, st13⟩ := getF X11 hx hZ hown (host := "") (Or.inl (hw _ (List.mem_of_getElem? (i := 8) rfl))) Via.refl e11 F_en5_status (g := (mkF m 21 #[.val (.int p0), .val (.ref al), .val (.int (11 : Int32)), .val (.int (5 : Int32)), .val (.ref en5)] [(.ref en5)])) rfl rfl (hb hby d1_21)
  obtain ⟨fs, hr, hrun, hended, hW, hsame⟩ := X13.leave (v := some (.ref en5)) (fun h => by rw [Bd.returns] at h; cases h) (BodyLoose.notSynchronized Bd)
  refine ⟨_, _, pre12 _ ?_, hrun, hended, _, _, rfl, ?_, ⟨_, rfl⟩, hW, hsame.mono (by decide) (by decide)⟩
  · show Steps p.tables e below (T11.setTop (mkF m 21 #[.val (.int p0), .val (.ref al), .val (.int (11 : Int32)), .val (.int (5 : Int32)), .val (.ref en5)] [(.ref en5)])) _
    refine st13 _ ?_
    show Steps p.tables e below (T13.setTop (mkF m 24 #[.val (.int p0), .val (.ref al), .val (.int (11 : Int32)), .val (.int (5 : Int32)), .val (.ref en5)] [(.int (503 : Int32))])) _
    refine XS.iloadN X13.here hx rfl (hb hby d1_24) rfl  ?_
    show Steps p.tables e below (T13.setTop (mkF m 25 #[.val (.int p0), .val (.ref al), .val (.int (11 : Int32)), .val (.int (5 : Int32)), .val (.ref en5)] [(.int p0), (.int (503 : Int32))])) _
    refine XS.icmpNo X13.here hx rfl (hb hby d1_25) rfl (teq ((by rw [hs]; first | done | decide) : (503 : Int32) = p0)).2 ?_
    show Steps p.tables e below (T13.setTop (mkF m 28 #[.val (.int p0), .val (.ref al), .val (.int (11 : Int32)), .val (.int (5 : Int32)), .val (.ref en5)] [])) _
    refine XS.aload X13.here hx rfl (hb hby d1_28) rfl rfl ?_
    show Steps p.tables e below (T13.setTop (mkF m 30 #[.val (.int p0), .val (.ref al), .val (.int (11 : Int32)), .val (.int (5 : Int32)), .val (.ref en5)] [(.ref en5)])) _
    exact retOut X13 hx Bd.returns rfl (Or.inr (Or.inr (Or.inr (Or.inr ⟨rfl, rfl, rfl⟩)))) (hb hby d1_30) hr
  · show Q_1t503 Z p0 en0 en1 en2 en3 en4 en5 en6 en7 en8 en9 en10 al h0 n0 _ T13.heap _
    rw [e13]
    exact ⟨rfl, N0, rfl⟩
theorem d2_55 : decode method_3_code 55 = .ok (.iload_n 0, 1) := by decide +kernel
theorem d2_56 : decode method_3_code 56 = .ok (.sipush 503, 3) := by decide +kernel
theorem d2_59 : decode method_3_code 59 = .ok (.if_icmp .ne 7, 3) := by decide +kernel
theorem d2_62 : decode method_3_code 62 = .ok (.getstatic 35, 3) := by decide +kernel
theorem d2_65 : decode method_3_code 65 = .ok (.areturn, 1) := by decide +kernel
theorem ef_2t503 (m : MethodId) (p0 : Int32) : entryFrame m #[(.int p0)] 1 = mkF m 0 #[.val (.int p0)] [] := by first | (simp [entryFrame, mkF, argsToLocals, Value.category]; done) | rfl
def Q_2t503 (Z : State) (p0 : Int32) (en0 : Addr) (en1 : Addr) (en2 : Addr) (en3 : Addr) (en4 : Addr) (en5 : Addr) (en6 : Addr) (en7 : Addr) (en8 : Addr) (en9 : Addr) (en10 : Addr) (h0 : Heap) (n0 : Nat) (v : Option Value) (h : Heap) (L : List Loc) : Prop := v = some (.ref en5) ∧ Fr n0 L ∧ h = h0
set_option maxRecDepth 65536 in
set_option maxHeartbeats 40000000 in
theorem rm_2t503 (l : Launch) (Z : State) (a0 : Array Value) (hw : ∀ d ∈ tables_1, d.before a0 Z = true) (ws : List Jvm.Cond) (p0 : Int32) (en0 : Addr) (en1 : Addr) (en2 : Addr) (en3 : Addr) (en4 : Addr) (en5 : Addr) (en6 : Addr) (en7 : Addr) (en8 : Addr) (en9 : Addr) (en10 : Addr) (h0 : Heap) (n0 : Nat) (Z0 : n0 ≤ h0.size) (S_ERROR : Sta Z h0 "com/example/fanoutd/fanoutd/proxy/NextUpstream$Condition" "ERROR" "Lcom/example/fanoutd/fanoutd/proxy/NextUpstream$Condition;" (.ref en0)) (S_TIMEOUT : Sta Z h0 "com/example/fanoutd/fanoutd/proxy/NextUpstream$Condition" "TIMEOUT" "Lcom/example/fanoutd/fanoutd/proxy/NextUpstream$Condition;" (.ref en1)) (S_INVALID_HEADER : Sta Z h0 "com/example/fanoutd/fanoutd/proxy/NextUpstream$Condition" "INVALID_HEADER" "Lcom/example/fanoutd/fanoutd/proxy/NextUpstream$Condition;" (.ref en2)) (S_HTTP_500 : Sta Z h0 "com/example/fanoutd/fanoutd/proxy/NextUpstream$Condition" "HTTP_500" "Lcom/example/fanoutd/fanoutd/proxy/NextUpstream$Condition;" (.ref en3)) (S_HTTP_502 : Sta Z h0 "com/example/fanoutd/fanoutd/proxy/NextUpstream$Condition" "HTTP_502" "Lcom/example/fanoutd/fanoutd/proxy/NextUpstream$Condition;" (.ref en4)) (S_HTTP_503 : Sta Z h0 "com/example/fanoutd/fanoutd/proxy/NextUpstream$Condition" "HTTP_503" "Lcom/example/fanoutd/fanoutd/proxy/NextUpstream$Condition;" (.ref en5)) (S_HTTP_504 : Sta Z h0 "com/example/fanoutd/fanoutd/proxy/NextUpstream$Condition" "HTTP_504" "Lcom/example/fanoutd/fanoutd/proxy/NextUpstream$Condition;" (.ref en6)) (S_HTTP_403 : Sta Z h0 "com/example/fanoutd/fanoutd/proxy/NextUpstream$Condition" "HTTP_403" "Lcom/example/fanoutd/fanoutd/proxy/NextUpstream$Condition;" (.ref en7)) (S_HTTP_404 : Sta Z h0 "com/example/fanoutd/fanoutd/proxy/NextUpstream$Condition" "HTTP_404" "Lcom/example/fanoutd/fanoutd/proxy/NextUpstream$Condition;" (.ref en8)) (S_HTTP_429 : Sta Z h0 "com/example/fanoutd/fanoutd/proxy/NextUpstream$Condition" "HTTP_429" "Lcom/example/fanoutd/fanoutd/proxy/NextUpstream$Condition;" (.ref en9)) (S_NON_IDEMPOTENT : Sta Z h0 "com/example/fanoutd/fanoutd/proxy/NextUpstream$Condition" "NON_IDEMPOTENT" "Lcom/example/fanoutd/fanoutd/proxy/NextUpstream$Condition;" (.ref en10)) (hs : p0 = (503 : Int32)) :
    MetFree l (⟨"com/example/fanoutd/fanoutd/proxy/ConditionOfStatusPinLaw", "expected", "(I)Lcom/example/fanoutd/fanoutd/proxy/NextUpstream$Condition;"⟩ : MethodName) (head1 (Jvm.Cond.code (⟨"com/example/fanoutd/fanoutd/proxy/ConditionOfStatusPinLaw", "expected", "(I)Lcom/example/fanoutd/fanoutd/proxy/NextUpstream$Condition;"⟩ : MethodName) method_3_code 1 (some (.object "com/example/fanoutd/fanoutd/proxy/NextUpstream$Condition")) :: ws) ({ frames := 0, cells := 0, slots := 0, locals := 0 } : Room)) (fun a U => a = #[(.int p0)] ∧ Z.Warmed39 U.vm ∧ U.heap = h0) (fun _ _ _ _ _ => True) (fun _ U o U' => ∃ v L, o = .returned v ∧ Q_2t503 Z p0 en0 en1 en2 en3 en4 en5 en6 en7 en8 en9 en10 h0 n0 v U'.heap L ∧ FrameEnd U o U' L ({ frames := 0, cells := 0, slots := 0, locals := 0 } : Room).cells ({ frames := 0, cells := 0, slots := 0, locals := 0 } : Room).slots) := by
  refine MetFree.of_bodySF (plainFor_of_name pn_2) hisR ?_
  intro p e s m args below meth c s₁ Bd hml0 hP hK
  obtain ⟨rfl, hZ, hh⟩ := hP
  have hx := Bd.exec
  have hby := Bd.bytes
  have hml : c.maxLocals = 1 := hml0
  have hown : s.vm.findClass "com/example/fanoutd/fanoutd/proxy/ConditionOfStatusPinLaw" = some m.cls := findClass_of_methodNamed Bd.named
  have hnm := (name_of_methodNamed Bd.named Bd.method).1
  have X0 : Stand p l e ({ frames := 0, cells := 0, slots := 0, locals := 0 } : Room) s m #[(.int p0)] below meth c s₁ [] 0 0 := Stand.of_body Bd
  have e0 : s₁.heap = h0 := by rw [← hh, Bd.state]; rfl
  have N0 := Fr.nil n0
  have K0 : Keep h0 h0 [] := Keep.refl h0 _
  have pre0 : ∀ t, Steps p.tables e below (s₁.setTop (mkF m 0 #[.val (.int p0)] [])) t → Steps p.tables e below (s₁.setTop (entryFrame m #[(.int p0)] 1)) t := fun t k => castTop (ef_2t503 m p0) k
  have pre1 : ∀ t, Steps p.tables e below (s₁.setTop (mkF m 62 #[.val (.int p0)] [])) t → Steps p.tables e below (s₁.setTop (entryFrame m #[(.int p0)] 1)) t := by
    intro t k
    refine pre0 t ?_
    show Steps p.tables e below (s₁.setTop (mkF m 0 #[.val (.int p0)] [])) _
    refine XS.iloadN X0.here hx rfl (hb hby d2_0) rfl  ?_
    show Steps p.tables e below (s₁.setTop (mkF m 1 #[.val (.int p0)] [(.int p0)])) _
    refine XS.sipush X0.here hx rfl (hb hby d2_1) ?_
    show Steps p.tables e below (s₁.setTop (mkF m 4 #[.val (.int p0)] [(.int (403 : Int32)), (.int p0)])) _
    refine XS.icmpYes X0.here hx rfl (pc0 := 4) (pc' := 11) rfl (hb hby d2_4) rfl (feq ((by rw [hs]; first | done | decide) : ¬ (p0 = (403 : Int32)))).2 (by decide) (by decide) ?_
    show Steps p.tables e below (s₁.setTop (mkF m 11 #[.val (.int p0)] [])) _
    refine XS.iloadN X0.here hx rfl (hb hby d2_11) rfl  ?_
    show Steps p.tables e below (s₁.setTop (mkF m 12 #[.val (.int p0)] [(.int p0)])) _
    refine XS.sipush X0.here hx rfl (hb hby d2_12) ?_
    show Steps p.tables e below (s₁.setTop (mkF m 15 #[.val (.int p0)] [(.int (404 : Int32)), (.int p0)])) _
    refine XS.icmpYes X0.here hx rfl (pc0 := 15) (pc' := 22) rfl (hb hby d2_15) rfl (feq ((by rw [hs]; first | done | decide) : ¬ (p0 = (404 : Int32)))).2 (by decide) (by decide) ?_
    show Steps p.tables e below (s₁.setTop (mkF m 22 #[.val (.int p0)] [])) _
    refine XS.iloadN X0.here hx rfl (hb hby d2_22) rfl  ?_
    show Steps p.tables e below (s₁.setTop (mkF m 23 #[.val (.int p0)] [(.int p0)])) _
    refine XS.sipush X0.here hx rfl (hb hby d2_23) ?_
    show Steps p.tables e below (s₁.setTop (mkF m 26 #[.val (.int p0)] [(.int (429 : Int32)), (.int p0)])) _
    refine XS.icmpYes X0.here hx rfl (pc0 := 26) (pc' := 33) rfl (hb hby d2_26) rfl (feq ((by rw [hs]; first | done | decide) : ¬ (p0 = (429 : Int32)))).2 (by decide) (by decide) ?_
    show Steps p.tables e below (s₁.setTop (mkF m 33 #[.val (.int p0)] [])) _
    refine XS.iloadN X0.here hx rfl (hb hby d2_33) rfl  ?_
    show Steps p.tables e below (s₁.setTop (mkF m 34 #[.val (.int p0)] [(.int p0)])) _
    refine XS.sipush X0.here hx rfl (hb hby d2_34) ?_
    show Steps p.tables e below (s₁.setTop (mkF m 37 #[.val (.int p0)] [(.int (500 : Int32)), (.int p0)])) _
    refine XS.icmpYes X0.here hx rfl (pc0 := 37) (pc' := 44) rfl (hb hby d2_37) rfl (feq ((by rw [hs]; first | done | decide) : ¬ (p0 = (500 : Int32)))).2 (by decide) (by decide) ?_
    show Steps p.tables e below (s₁.setTop (mkF m 44 #[.val (.int p0)] [])) _
    refine XS.iloadN X0.here hx rfl (hb hby d2_44) rfl  ?_
    show Steps p.tables e below (s₁.setTop (mkF m 45 #[.val (.int p0)] [(.int p0)])) _
    refine XS.sipush X0.here hx rfl (hb hby d2_45) ?_
    show Steps p.tables e below (s₁.setTop (mkF m 48 #[.val (.int p0)] [(.int (502 : Int32)), (.int p0)])) _
    refine XS.icmpYes X0.here hx rfl (pc0 := 48) (pc' := 55) rfl (hb hby d2_48) rfl (feq ((by rw [hs]; first | done | decide) : ¬ (p0 = (502 : Int32)))).2 (by decide) (by decide) ?_
    show Steps p.tables e below (s₁.setTop (mkF m 55 #[.val (.int p0)] [])) _
    refine XS.iloadN X0.here hx rfl (hb hby d2_55) rfl  ?_
    show Steps p.tables e below (s₁.setTop (mkF m 56 #[.val (.int p0)] [(.int p0)])) _
    refine XS.sipush X0.here hx rfl (hb hby d2_56) ?_
    show Steps p.tables e below (s₁.setTop (mkF m 59 #[.val (.int p0)] [(.int (503 : Int32)), (.int p0)])) _
    refine XS.icmpNo X0.here hx rfl (hb hby d2_59) rfl (teq ((by rw [hs]; first | done | decide) : p0 = (503 : Int32))).2 ?_
    exact k
  obtain ⟨T2, X2, e2, st2⟩ := getS2 X0 hx hZ hown (host := "") (Or.inl (hw _ (List.mem_of_getElem? (i := 25) rfl))) Via.refl e0 S_HTTP_503 (g := (mkF m 62 #[.val (.int p0)] [])) rfl (hb hby d2_62)
  obtain ⟨fs, hr, hrun, hended, hW, hsame⟩ := X2.leave (v := some (.ref en5)) (fun h => by rw [Bd.returns] at h; cases h) (BodyLoose.notSynchronized Bd)
  refine ⟨_, _, pre1 _ ?_, hrun, hended, _, _, rfl, ?_, ⟨_, rfl⟩, hW, hsame.mono (by decide) (by decide)⟩
  · show Steps p.tables e below (s₁.setTop (mkF m 62 #[.val (.int p0)] [])) _
    refine st2 _ ?_
    show Steps p.tables e below (T2.setTop (mkF m 65 #[.val (.int p0)] [(.ref en5)])) _
    exact retOut X2 hx Bd.returns rfl (Or.inr (Or.inr (Or.inr (Or.inr ⟨rfl, rfl, rfl⟩)))) (hb hby d2_65) hr
  · show Q_2t503 Z p0 en0 en1 en2 en3 en4 en5 en6 en7 en8 en9 en10 h0 n0 _ T2.heap _
    rw [e2]
    exact ⟨rfl, N0, rfl⟩
theorem ef_1t504 (m : MethodId) (p0 : Int32) : entryFrame m #[(.int p0)] 5 = mkF m 0 #[.val (.int p0), .unset, .unset, .unset, .unset] [] := by first | (simp [entryFrame, mkF, argsToLocals, Value.category]; done) | rfl
def Q_1t504 (Z : State) (p0 : Int32) (en0 : Addr) (en1 : Addr) (en2 : Addr) (en3 : Addr) (en4 : Addr) (en5 : Addr) (en6 : Addr) (en7 : Addr) (en8 : Addr) (en9 : Addr) (en10 : Addr) (al : Addr) (h0 : Heap) (n0 : Nat) (v : Option Value) (h : Heap) (L : List Loc) : Prop := v = some (.ref en6) ∧ Fr n0 L ∧ h = h0
set_option maxRecDepth 65536 in
set_option maxHeartbeats 40000000 in
theorem rm_1t504 (l : Launch) (Z : State) (a0 : Array Value) (hw : ∀ d ∈ tables_1, d.before a0 Z = true) (ws : List Jvm.Cond) (p0 : Int32) (en0 : Addr) (en1 : Addr) (en2 : Addr) (en3 : Addr) (en4 : Addr) (en5 : Addr) (en6 : Addr) (en7 : Addr) (en8 : Addr) (en9 : Addr) (en10 : Addr) (al : Addr) (h0 : Heap) (n0 : Nat) (Z0 : n0 ≤ h0.size) (S_ERROR : Sta Z h0 "com/example/fanoutd/fanoutd/proxy/NextUpstream$Condition" "ERROR" "Lcom/example/fanoutd/fanoutd/proxy/NextUpstream$Condition;" (.ref en0)) (S_TIMEOUT : Sta Z h0 "com/example/fanoutd/fanoutd/proxy/NextUpstream$Condition" "TIMEOUT" "Lcom/example/fanoutd/fanoutd/proxy/NextUpstream$Condition;" (.ref en1)) (S_INVALID_HEADER : Sta Z h0 "com/example/fanoutd/fanoutd/proxy/NextUpstream$Condition" "INVALID_HEADER" "Lcom/example/fanoutd/fanoutd/proxy/NextUpstream$Condition;" (.ref en2)) (S_HTTP_500 : Sta Z h0 "com/example/fanoutd/fanoutd/proxy/NextUpstream$Condition" "HTTP_500" "Lcom/example/fanoutd/fanoutd/proxy/NextUpstream$Condition;" (.ref en3)) (S_HTTP_502 : Sta Z h0 "com/example/fanoutd/fanoutd/proxy/NextUpstream$Condition" "HTTP_502" "Lcom/example/fanoutd/fanoutd/proxy/NextUpstream$Condition;" (.ref en4)) (S_HTTP_503 : Sta Z h0 "com/example/fanoutd/fanoutd/proxy/NextUpstream$Condition" "HTTP_503" "Lcom/example/fanoutd/fanoutd/proxy/NextUpstream$Condition;" (.ref en5)) (S_HTTP_504 : Sta Z h0 "com/example/fanoutd/fanoutd/proxy/NextUpstream$Condition" "HTTP_504" "Lcom/example/fanoutd/fanoutd/proxy/NextUpstream$Condition;" (.ref en6)) (S_HTTP_403 : Sta Z h0 "com/example/fanoutd/fanoutd/proxy/NextUpstream$Condition" "HTTP_403" "Lcom/example/fanoutd/fanoutd/proxy/NextUpstream$Condition;" (.ref en7)) (S_HTTP_404 : Sta Z h0 "com/example/fanoutd/fanoutd/proxy/NextUpstream$Condition" "HTTP_404" "Lcom/example/fanoutd/fanoutd/proxy/NextUpstream$Condition;" (.ref en8)) (S_HTTP_429 : Sta Z h0 "com/example/fanoutd/fanoutd/proxy/NextUpstream$Condition" "HTTP_429" "Lcom/example/fanoutd/fanoutd/proxy/NextUpstream$Condition;" (.ref en9)) (S_NON_IDEMPOTENT : Sta Z h0 "com/example/fanoutd/fanoutd/proxy/NextUpstream$Condition" "NON_IDEMPOTENT" "Lcom/example/fanoutd/fanoutd/proxy/NextUpstream$Condition;" (.ref en10)) (S_ALL : Sta Z h0 "com/example/fanoutd/fanoutd/proxy/NextUpstream$Condition" "ALL" "[Lcom/example/fanoutd/fanoutd/proxy/NextUpstream$Condition;" (.ref al)) (A_al : own_A Z h0 al (.object "com/example/fanoutd/fanoutd/proxy/NextUpstream$Condition") 11 (fun i => (own_l en0 en1 en2 en3 en4 en5 en6 en7 en8 en9 en10) i)) (F_en0_status : Fld Z h0 en0 "com/example/fanoutd/fanoutd/proxy/NextUpstream$Condition" "status" "I" (.int (0 : Int32))) (F_en1_status : Fld Z h0 en1 "com/example/fanoutd/fanoutd/proxy/NextUpstream$Condition" "status" "I" (.int (0 : Int32))) (F_en2_status : Fld Z h0 en2 "com/example/fanoutd/fanoutd/proxy/NextUpstream$Condition" "status" "I" (.int (0 : Int32))) (F_en3_status : Fld Z h0 en3 "com/example/fanoutd/fanoutd/proxy/NextUpstream$Condition" "status" "I" (.int (500 : Int32))) (F_en4_status : Fld Z h0 en4 "com/example/fanoutd/fanoutd/proxy/NextUpstream$Condition" "status" "I" (.int (502 : Int32))) (F_en5_status : Fld Z h0 en5 "com/example/fanoutd/fanoutd/proxy/NextUpstream$Condition" "status" "I" (.int (503 : Int32))) (F_en6_status : Fld Z h0 en6 "com/example/fanoutd/fanoutd/proxy/NextUpstream$Condition" "status" "I" (.int (504 : Int32))) (F_en7_status : Fld Z h0 en7 "com/example/fanoutd/fanoutd/proxy/NextUpstream$Condition" "status" "I" (.int (403 : Int32))) (F_en8_status : Fld Z h0 en8 "com/example/fanoutd/fanoutd/proxy/NextUpstream$Condition" "status" "I" (.int (404 : Int32))) (F_en9_status : Fld Z h0 en9 "com/example/fanoutd/fanoutd/proxy/NextUpstream$Condition" "status" "I" (.int (429 : Int32))) (F_en10_status : Fld Z h0 en10 "com/example/fanoutd/fanoutd/proxy/NextUpstream$Condition" "status" "I" (.int (0 : Int32))) (hs : p0 = (504 : Int32)) :
    MetFree l (⟨"com/example/fanoutd/fanoutd/proxy/NextUpstream$Condition", "ofStatus", "(I)Lcom/example/fanoutd/fanoutd/proxy/NextUpstream$Condition;"⟩ : MethodName) (head1 (Jvm.Cond.code (⟨"com/example/fanoutd/fanoutd/proxy/NextUpstream$Condition", "ofStatus", "(I)Lcom/example/fanoutd/fanoutd/proxy/NextUpstream$Condition;"⟩ : MethodName) prog_62_method_7_code 5 (some (.object "com/example/fanoutd/fanoutd/proxy/NextUpstream$Condition")) :: ws) ({ frames := 0, cells := 0, slots := 0, locals := 0 } : Room)) (fun a U => a = #[(.int p0)] ∧ Z.Warmed39 U.vm ∧ U.heap = h0) (fun _ _ _ _ _ => True) (fun _ U o U' => ∃ v L, o = .returned v ∧ Q_1t504 Z p0 en0 en1 en2 en3 en4 en5 en6 en7 en8 en9 en10 al h0 n0 v U'.heap L ∧ FrameEnd U o U' L ({ frames := 0, cells := 0, slots := 0, locals := 0 } : Room).cells ({ frames := 0, cells := 0, slots := 0, locals := 0 } : Room).slots) := by
  refine MetFree.of_bodySF (plainFor_of_name pn_1) hisR ?_
  intro p e s m args below meth c s₁ Bd hml0 hP hK
  obtain ⟨rfl, hZ, hh⟩ := hP
  have hx := Bd.exec
  have hby := Bd.bytes
  have hml : c.maxLocals = 5 := hml0
  have hown : s.vm.findClass "com/example/fanoutd/fanoutd/proxy/NextUpstream$Condition" = some m.cls := findClass_of_methodNamed Bd.named
  have hnm := (name_of_methodNamed Bd.named Bd.method).1
  have X0 : Stand p l e ({ frames := 0, cells := 0, slots := 0, locals := 0 } : Room) s m #[(.int p0)] below meth c s₁ [] 0 0 := Stand.of_body Bd
  have e0 : s₁.heap = h0 := by rw [← hh, Bd.state]; rfl
  have N0 := Fr.nil n0
  have K0 : Keep h0 h0 [] := Keep.refl h0 _
  have pre0 : ∀ t, Steps p.tables e below (s₁.setTop (mkF m 0 #[.val (.int p0), .unset, .unset, .unset, .unset] [])) t → Steps p.tables e below (s₁.setTop (entryFrame m #[(.int p0)] 5)) t := fun t k => castTop (ef_1t504 m p0) k
  obtain ⟨T1, X1, e1, st1⟩ := getS2 X0 hx hZ hown (host := "") (Or.inl (hw _ (List.mem_of_getElem? (i := 5) rfl))) Via.refl e0 S_ALL (g := (mkF m 0 #[.val (.int p0), .unset, .unset, .unset, .unset] [])) rfl (hb hby d1_0)
  have pre2 : ∀ t, Steps p.tables e below (T1.setTop (mkF m 21 #[.val (.int p0), .val (.ref al), .val (.int (11 : Int32)), .val (.int (0 : Int32)), .val (.ref en0)] [(.ref en0)])) t → Steps p.tables e below (s₁.setTop (entryFrame m #[(.int p0)] 5)) t := by
    intro t k
    refine pre0 t ?_
    show Steps p.tables e below (s₁.setTop (mkF m 0 #[.val (.int p0), .unset, .unset, .unset, .unset] [])) _
    refine st1 _ ?_
    show Steps p.tables e below (T1.setTop (mkF m 3 #[.val (.int p0), .unset, .unset, .unset, .unset] [(.ref al)])) _
    refine XS.astoreN X1.here hx rfl (hb hby d1_3) rfl rfl (l' := #[.val (.int p0), .val (.ref al), .unset, .unset, .unset]) rfl ?_
    show Steps p.tables e below (T1.setTop (mkF m 4 #[.val (.int p0), .val (.ref al), .unset, .unset, .unset] [])) _
    refine XS.aloadN X1.here hx rfl (hb hby d1_4) rfl rfl ?_
    show Steps p.tables e below (T1.setTop (mkF m 5 #[.val (.int p0), .val (.ref al), .unset, .unset, .unset] [(.ref al)])) _
    refine own_len X1 hx hZ e1 A_al (z := (11 : Int32)) rfl (g := (mkF m 5 #[.val (.int p0), .val (.ref al), .unset, .unset, .unset] [(.ref al)])) rfl rfl (hb hby d1_5) ?_
    show Steps p.tables e below (T1.setTop (mkF m 6 #[.val (.int p0), .val (.ref al), .unset, .unset, .unset] [(.int (11 : Int32))])) _
    refine XS.istoreN X1.here hx rfl (hb hby d1_6) rfl (l' := #[.val (.int p0), .val (.ref al), .val (.int (11 : Int32)), .unset, .unset]) rfl ?_
    show Steps p.tables e below (T1.setTop (mkF m 7 #[.val (.int p0), .val (.ref al), .val (.int (11 : Int32)), .unset, .unset] [])) _
    refine XS.iconst X1.here hx rfl (hb hby d1_7) ?_
    show Steps p.tables e below (T1.setTop (mkF m 8 #[.val (.int p0), .val (.ref al), .val (.int (11 : Int32)), .unset, .unset] [(.int (0 : Int32))])) _
    refine XS.istoreN X1.here hx rfl (hb hby d1_8) rfl (l' := #[.val (.int p0), .val (.ref al), .val (.int (11 : Int32)), .val (.int (0 : Int32)), .unset]) rfl ?_
    show Steps p.tables e below (T1.setTop (mkF m 9 #[.val (.int p0), .val (.ref al), .val (.int (11 : Int32)), .val (.int (0 : Int32)), .unset] [])) _
    refine XS.iloadN X1.here hx rfl (hb hby d1_9) rfl  ?_
    show Steps p.tables e below (T1.setTop (mkF m 10 #[.val (.int p0), .val (.ref al), .val (.int (11 : Int32)), .val (.int (0 : Int32)), .unset] [(.int (0 : Int32))])) _
    refine XS.iloadN X1.here hx rfl (hb hby d1_10) rfl  ?_
    show Steps p.tables e below (T1.setTop (mkF m 11 #[.val (.int p0), .val (.ref al), .val (.int (11 : Int32)), .val (.int (0 : Int32)), .unset] [(.int (11 : Int32)), (.int (0 : Int32))])) _
    refine XS.icmpNo X1.here hx rfl (hb hby d1_11) rfl (tlt (by decide : (0 : Int32) < (11 : Int32))).2.1 ?_
    show Steps p.tables e below (T1.setTop (mkF m 14 #[.val (.int p0), .val (.ref al), .val (.int (11 : Int32)), .val (.int (0 : Int32)), .unset] [])) _
    refine XS.aloadN X1.here hx rfl (hb hby d1_14) rfl rfl ?_
    show Steps p.tables e below (T1.setTop (mkF m 15 #[.val (.int p0), .val (.ref al), .val (.int (11 : Int32)), .val (.int (0 : Int32)), .unset] [(.ref al)])) _
    refine XS.iloadN X1.here hx rfl (hb hby d1_15) rfl  ?_
    show Steps p.tables e below (T1.setTop (mkF m 16 #[.val (.int p0), .val (.ref al), .val (.int (11 : Int32)), .val (.int (0 : Int32)), .unset] [(.int (0 : Int32)), (.ref al)])) _
    refine own_ldR X1 hx hZ e1 A_al rfl (j := (0 : Int32)) (k := 0) (v := .ref en0) rfl (by decide) (by decide) (by decide) (g := (mkF m 16 #[.val (.int p0), .val (.ref al), .val (.int (11 : Int32)), .val (.int (0 : Int32)), .unset] [(.int (0 : Int32)), (.ref al)])) rfl rfl (hb hby d1_16) ?_
    show Steps p.tables e below (T1.setTop (mkF m 17 #[.val (.int p0), .val (.ref al), .val (.int (11 : Int32)), .val (.int (0 : Int32)), .unset] [(.ref en0)])) _
    refine XS.astore X1.here hx rfl (hb hby d1_17) rfl rfl (l' := #[.val (.int p0), .val (.ref al), .val (.int (11 : Int32)), .val (.int (0 : Int32)), .val (.ref en0)]) rfl ?_
    show Steps p.tables e below (T1.setTop (mkF m 19 #[.val (.int p0), .val (.ref al), .val (.int (11 : Int32)), .val (.int (0 : Int32)), .val (.ref en0)] [])) _
    refine XS.aload X1.here hx rfl (hb hby d1_19) rfl rfl ?_
    exact k
  obtain ⟨T3, X3, e3, st3⟩ := getF X1 hx hZ hown (host := "") (Or.inl (hw _ (List.mem_of_getElem? (i := 8) rfl))) Via.refl e1 F_en0_status (g := (mkF m 21 #[.val (.int p0), .val (.ref al), .val (.int (11 : Int32)), .val (.int (0 : Int32)), .val (.ref en0)] [(.ref en0)])) rfl rfl (hb hby d1_21)
  have pre4 : ∀ t, Steps p.tables e below (T3.setTop (mkF m 21 #[.val (.int p0), .val (.ref al), .val (.int (11 : Int32)), .val (.int (1 : Int32)), .val (.ref en1)] [(.ref en1)])) t → Steps p.tables e below (s₁.setTop (entryFrame m #[(.int p0)] 5)) t := by
    intro t k
    refine pre2 t ?_
    show Steps p.tables e below (T1.setTop (mkF m 21 #[.val (.int p0), .val (.ref al), .val (.int (11 : Int32)), .val (.int (0 : Int32)), .val (.ref en0)] [(.ref en0)])) _
    refine st3 _ ?_
    show Steps p.tables e below (T3.setTop (mkF m 24 #[.val (.int p0), .val (.ref al), .val (.int (11 : Int32)), .val (.int (0 : Int32)), .val (.ref en0)] [(.int (0 : Int32))])) _
    refine XS.iloadN X3.here hx rfl (hb hby d1_24) rfl  ?_
    show Steps p.tables e below (T3.setTop (mkF m 25 #[.val (.int p0), .val (.ref al), .val (.int (11 : Int32)), .val (.int (0 : Int32)), .val (.ref en0)] [(.int p0), (.int (0 : Int32))])) _
    refine XS.icmpYes X3.here hx rfl (pc0 := 25) (pc' := 31) rfl (hb hby d1_25) rfl (feq ((by rw [hs]; first | done | decide) : ¬ ((0 : Int32) = p0))).2 (by decide) (by decide) ?_
    show Steps p.tables e below (T3.setTop (mkF m 31 #[.val (.int p0), .val (.ref al), .val (.int (11 : Int32)), .val (.int (0 : Int32)), .val (.ref en0)] [])) _
    refine XS.iinc X3.here hx rfl (hb hby d1_31) rfl (l' := #[.val (.int p0), .val (.ref al), .val (.int (11 : Int32)), .val (.int (1 : Int32)), .val (.ref en0)]) rfl ?_
    show Steps p.tables e below (T3.setTop (mkF m 34 #[.val (.int p0), .val (.ref al), .val (.int (11 : Int32)), .val (.int (1 : Int32)), .val (.ref en0)] [])) _
    refine XS.goto X3.here hx rfl (pc0 := 34) (pc' := 9) rfl (hb hby d1_34) (by decide) (by decide) ?_
    show Steps p.tables e below (T3.setTop (mkF m 9 #[.val (.int p0), .val (.ref al), .val (.int (11 : Int32)), .val (.int (1 : Int32)), .val (.ref en0)] [])) _
    refine XS.iloadN X3.here hx rfl (hb hby d1_9) rfl  ?_
    show Steps p.tables e below (T3.setTop (mkF m 10 #[.val (.int p0), .val (.ref al), .val (.int (11 : Int32)), .val (.int (1 : Int32)), .val (.ref en0)] [(.int (1 : Int32))])) _
    refine XS.iloadN X3.here hx rfl (hb hby d1_10) rfl  ?_
    show Steps p.tables e below (T3.setTop (mkF m 11 #[.val (.int p0), .val (.ref al), .val (.int (11 : Int32)), .val (.int (1 : Int32)), .val (.ref en0)] [(.int (11 : Int32)), (.int (1 : Int32))])) _
    refine XS.icmpNo X3.here hx rfl (hb hby d1_11) rfl (tlt (by decide : (1 : Int32) < (11 : Int32))).2.1 ?_
    show Steps p.tables e below (T3.setTop (mkF m 14 #[.val (.int p0), .val (.ref al), .val (.int (11 : Int32)), .val (.int (1 : Int32)), .val (.ref en0)] [])) _
    refine XS.aloadN X3.here hx rfl (hb hby d1_14) rfl rfl ?_
    show Steps p.tables e below (T3.setTop (mkF m 15 #[.val (.int p0), .val (.ref al), .val (.int (11 : Int32)), .val (.int (1 : Int32)), .val (.ref en0)] [(.ref al)])) _
    refine XS.iloadN X3.here hx rfl (hb hby d1_15) rfl  ?_
    show Steps p.tables e below (T3.setTop (mkF m 16 #[.val (.int p0), .val (.ref al), .val (.int (11 : Int32)), .val (.int (1 : Int32)), .val (.ref en0)] [(.int (1 : Int32)), (.ref al)])) _
    refine own_ldR X3 hx hZ e3 A_al rfl (j := (1 : Int32)) (k := 1) (v := .ref en1) rfl (by decide) (by decide) (by decide) (g := (mkF m 16 #[.val (.int p0), .val (.ref al), .val (.int (11 : Int32)), .val (.int (1 : Int32)), .val (.ref en0)] [(.int (1 : Int32)), (.ref al)])) rfl rfl (hb hby d1_16) ?_
    show Steps p.tables e below (T3.setTop (mkF m 17 #[.val (.int p0), .val (.ref al), .val (.int (11 : Int32)), .val (.int (1 : Int32)), .val (.ref en0)] [(.ref en1)])) _
    refine XS.astore X3.here hx rfl (hb hby d1_17) rfl rfl (l' := #[.val (.int p0), .val (.ref al), .val (.int (11 : Int32)), .val (.int (1 : Int32)), .val (.ref en1)]) rfl ?_
    show Steps p.tables e below (T3.setTop (mkF m 19 #[.val (.int p0), .val (.ref al), .val (.int (11 : Int32)), .val (.int (1 : Int32)), .val (.ref en1)] [])) _
    refine XS.aload X3.here hx rfl (hb hby d1_19) rfl rfl ?_
    exact k
  obtain ⟨T5, X5, e5, st5⟩ := getF X3 hx hZ hown (host := "") (Or.inl (hw _ (List.mem_of_getElem? (i := 8) rfl))) Via.refl e3 F_en1_status (g := (mkF m 21 #[.val (.int p0), .val (.ref al), .val (.int (11 : Int32)), .val (.int (1 : Int32)), .val (.ref en1)] [(.ref en1)])) rfl rfl (hb hby d1_21)
  have pre6 : ∀ t, Steps p.tables e below (T5.setTop (mkF m 21 #[.val (.int p0), .val (.ref al), .val (.int (11 : Int32)), .val (.int (2 : Int32)), .val (.ref en2)] [(.ref en2)])) t → Steps p.tables e below (s₁.setTop (entryFrame m #[(.int p0)] 5)) t := by
    intro t k
    refine pre4 t ?_
    show Steps p.tables e below (T3.setTop (mkF m 21 #[.val (.int p0), .val (.ref al), .val (.int (11 : Int32)), .val (.int (1 : Int32)), .val (.ref en1)] [(.ref en1)])) _
    refine st5 _ ?_
    show Steps p.tables e below (T5.setTop (mkF m 24 #[.val (.int p0), .val (.ref al), .val (.int (11 : Int32)), .val (.int (1 : Int32)), .val (.ref en1)] [(.int (0 : Int32))])) _
    refine XS.iloadN X5.here hx rfl (hb hby d1_24) rfl  ?_
    show Steps p.tables e below (T5.setTop (mkF m 25 #[.val (.int p0), .val (.ref al), .val (.int (11 : Int32)), .val (.int (1 : Int32)), .val (.ref en1)] [(.int p0), (.int (0 : Int32))])) _
    refine XS.icmpYes X5.here hx rfl (pc0 := 25) (pc' := 31) rfl (hb hby d1_25) rfl (feq ((by rw [hs]; first | done | decide) : ¬ ((0 : Int32) = p0))).2 (by decide) (by decide) ?_
    show Steps p.tables e below (T5.setTop (mkF m 31 #[.val (.int p0), .val (.ref al), .val (.int (11 : Int32)), .val (.int (1 : Int32)), .val (.ref en1)] [])) _
    refine XS.iinc X5.here hx rfl (hb hby d1_31) rfl (l' := #[.val (.int p0), .val (.ref al), .val (.int (11 : Int32)), .val (.int (2 : Int32)), .val (.ref en1)]) rfl ?_
    show Steps p.tables e below (T5.setTop (mkF m 34 #[.val (.int p0), .val (.ref al), .val (.int (11 : Int32)), .val (.int (2 : Int32)), .val (.ref en1)] [])) _
    refine XS.goto X5.here hx rfl (pc0 := 34) (pc' := 9) rfl (hb hby d1_34) (by decide) (by decide) ?_
    show Steps p.tables e below (T5.setTop (mkF m 9 #[.val (.int p0), .val (.ref al), .val (.int (11 : Int32)), .val (.int (2 : Int32)), .val (.ref en1)] [])) _
    refine XS.iloadN X5.here hx rfl (hb hby d1_9) rfl  ?_
    show Steps p.tables e below (T5.setTop (mkF m 10 #[.val (.int p0), .val (.ref al), .val (.int (11 : Int32)), .val (.int (2 : Int32)), .val (.ref en1)] [(.int (2 : Int32))])) _
    refine XS.iloadN X5.here hx rfl (hb hby d1_10) rfl  ?_
    show Steps p.tables e below (T5.setTop (mkF m 11 #[.val (.int p0), .val (.ref al), .val (.int (11 : Int32)), .val (.int (2 : Int32)), .val (.ref en1)] [(.int (11 : Int32)), (.int (2 : Int32))])) _
    refine XS.icmpNo X5.here hx rfl (hb hby d1_11) rfl (tlt (by decide : (2 : Int32) < (11 : Int32))).2.1 ?_
    show Steps p.tables e below (T5.setTop (mkF m 14 #[.val (.int p0), .val (.ref al), .val (.int (11 : Int32)), .val (.int (2 : Int32)), .val (.ref en1)] [])) _
    refine XS.aloadN X5.here hx rfl (hb hby d1_14) rfl rfl ?_
    show Steps p.tables e below (T5.setTop (mkF m 15 #[.val (.int p0), .val (.ref al), .val (.int (11 : Int32)), .val (.int (2 : Int32)), .val (.ref en1)] [(.ref al)])) _
    refine XS.iloadN X5.here hx rfl (hb hby d1_15) rfl  ?_
    show Steps p.tables e below (T5.setTop (mkF m 16 #[.val (.int p0), .val (.ref al), .val (.int (11 : Int32)), .val (.int (2 : Int32)), .val (.ref en1)] [(.int (2 : Int32)), (.ref al)])) _
    refine own_ldR X5 hx hZ e5 A_al rfl (j := (2 : Int32)) (k := 2) (v := .ref en2) rfl (by decide) (by decide) (by decide) (g := (mkF m 16 #[.val (.int p0), .val (.ref al), .val (.int (11 : Int32)), .val (.int (2 : Int32)), .val (.ref en1)] [(.int (2 : Int32)), (.ref al)])) rfl rfl (hb hby d1_16) ?_
    show Steps p.tables e below (T5.setTop (mkF m 17 #[.val (.int p0), .val (.ref al), .val (.int (11 : Int32)), .val (.int (2 : Int32)), .val (.ref en1)] [(.ref en2)])) _
    refine XS.astore X5.here hx rfl (hb hby d1_17) rfl rfl (l' := #[.val (.int p0), .val (.ref al), .val (.int (11 : Int32)), .val (.int (2 : Int32)), .val (.ref en2)]) rfl ?_
    show Steps p.tables e below (T5.setTop (mkF m 19 #[.val (.int p0), .val (.ref al), .val (.int (11 : Int32)), .val (.int (2 : Int32)), .val (.ref en2)] [])) _
    refine XS.aload X5.here hx rfl (hb hby d1_19) rfl rfl ?_
    exact k
  obtain ⟨T7, X7, e7, st7⟩ := getF X5 hx hZ hown (host := "") (Or.inl (hw _ (List.mem_of_getElem? (i := 8) rfl))) Via.refl e5 F_en2_status (g := (mkF m 21 #[.val (.int p0), .val (.ref al), .val (.int (11 : Int32)), .val (.int (2 : Int32)), .val (.ref en2)] [(.ref en2)])) rfl rfl (hb hby d1_21)
  have pre8 : ∀ t, Steps p.tables e below (T7.setTop (mkF m 21 #[.val (.int p0), .val (.ref al), .val (.int (11 : Int32)), .val (.int (3 : Int32)), .val (.ref en3)] [(.ref en3)])) t → Steps p.tables e below (s₁.setTop (entryFrame m #[(.int p0)] 5)) t := by
    intro t k
    refine pre6 t ?_
    show Steps p.tables e below (T5.setTop (mkF m 21 #[.val (.int p0), .val (.ref al), .val (.int (11 : Int32)), .val (.int (2 : Int32)), .val (.ref en2)] [(.ref en2)])) _
    refine st7 _ ?_
    show Steps p.tables e below (T7.setTop (mkF m 24 #[.val (.int p0), .val (.ref al), .val (.int (11 : Int32)), .val (.int (2 : Int32)), .val (.ref en2)] [(.int (0 : Int32))])) _
    refine XS.iloadN X7.here hx rfl (hb hby d1_24) rfl  ?_
    show Steps p.tables e below (T7.setTop (mkF m 25 #[.val (.int p0), .val (.ref al), .val (.int (11 : Int32)), .val (.int (2 : Int32)), .val (.ref en2)] [(.int p0), (.int (0 : Int32))])) _
    refine XS.icmpYes X7.here hx rfl (pc0 := 25) (pc' := 31) rfl (hb hby d1_25) rfl (feq ((by rw [hs]; first | done | decide) : ¬ ((0 : Int32) = p0))).2 (by decide) (by decide) ?_
    show Steps p.tables e below (T7.setTop (mkF m 31 #[.val (.int p0), .val (.ref al), .val (.int (11 : Int32)), .val (.int (2 : Int32)), .val (.ref en2)] [])) _
    refine XS.iinc X7.here hx rfl (hb hby d1_31) rfl (l' := #[.val (.int p0), .val (.ref al), .val (.int (11 : Int32)), .val (.int (3 : Int32)), .val (.ref en2)]) rfl ?_
    show Steps p.tables e below (T7.setTop (mkF m 34 #[.val (.int p0), .val (.ref al), .val (.int (11 : Int32)), .val (.int (3 : Int32)), .val (.ref en2)] [])) _
    refine XS.goto X7.here hx rfl (pc0 := 34) (pc' := 9) rfl (hb hby d1_34) (by decide) (by decide) ?_
    show Steps p.tables e below (T7.setTop (mkF m 9 #[.val (.int p0), .val (.ref al), .val (.int (11 : Int32)), .val (.int (3 : Int32)), .val (.ref en2)] [])) _
    refine XS.iloadN X7.here hx rfl (hb hby d1_9) rfl  ?_
    show Steps p.tables e below (T7.setTop (mkF m 10 #[.val (.int p0), .val (.ref al), .val (.int (11 : Int32)), .val (.int (3 : Int32)), .val (.ref en2)] [(.int (3 : Int32))])) _
    refine XS.iloadN X7.here hx rfl (hb hby d1_10) rfl  ?_
    show Steps p.tables e below (T7.setTop (mkF m 11 #[.val (.int p0), .val (.ref al), .val (.int (11 : Int32)), .val (.int (3 : Int32)), .val (.ref en2)] [(.int (11 : Int32)), (.int (3 : Int32))])) _
    refine XS.icmpNo X7.here hx rfl (hb hby d1_11) rfl (tlt (by decide : (3 : Int32) < (11 : Int32))).2.1 ?_
    show Steps p.tables e below (T7.setTop (mkF m 14 #[.val (.int p0), .val (.ref al), .val (.int (11 : Int32)), .val (.int (3 : Int32)), .val (.ref en2)] [])) _
    refine XS.aloadN X7.here hx rfl (hb hby d1_14) rfl rfl ?_
    show Steps p.tables e below (T7.setTop (mkF m 15 #[.val (.int p0), .val (.ref al), .val (.int (11 : Int32)), .val (.int (3 : Int32)), .val (.ref en2)] [(.ref al)])) _
    refine XS.iloadN X7.here hx rfl (hb hby d1_15) rfl  ?_
    show Steps p.tables e below (T7.setTop (mkF m 16 #[.val (.int p0), .val (.ref al), .val (.int (11 : Int32)), .val (.int (3 : Int32)), .val (.ref en2)] [(.int (3 : Int32)), (.ref al)])) _
    refine own_ldR X7 hx hZ e7 A_al rfl (j := (3 : Int32)) (k := 3) (v := .ref en3) rfl (by decide) (by decide) (by decide) (g := (mkF m 16 #[.val (.int p0), .val (.ref al), .val (.int (11 : Int32)), .val (.int (3 : Int32)), .val (.ref en2)] [(.int (3 : Int32)), (.ref al)])) rfl rfl (hb hby d1_16) ?_
    show Steps p.tables e below (T7.setTop (mkF m 17 #[.val (.int p0), .val (.ref al), .val (.int (11 : Int32)), .val (.int (3 : Int32)), .val (.ref en2)] [(.ref en3)])) _
    refine XS.astore X7.here hx rfl (hb hby d1_17) rfl rfl (l' := #[.val (.int p0), .val (.ref al), .val (.int (11 : Int32)), .val (.int (3 : Int32)), .val (.ref en3)]) rfl ?_
    show Steps p.tables e below (T7.setTop (mkF m 19 #[.val (.int p0), .val (.ref al), .val (.int (11 : Int32)), .val (.int (3 : Int32)), .val (.ref en3)] [])) _
    refine XS.aload X7.here hx rfl (hb hby d1_19) rfl rfl ?_
    exact k
  obtain ⟨T9, X9, e9, st9⟩ := getF X7 hx hZ hown (host := "") (Or.inl (hw _ (List.mem_of_getElem? (i := 8) rfl))) Via.refl e7 F_en3_status (g := (mkF m 21 #[.val (.int p0), .val (.ref al), .val (.int (11 : Int32)), .val (.int (3 : Int32)), .val (.ref en3)] [(.ref en3)])) rfl rfl (hb hby d1_21)
  have pre10 : ∀ t, Steps p.tables e below (T9.setTop (mkF m 21 #[.val (.int p0), .val (.ref al), .val (.int (11 : Int32)), .val (.int (4 : Int32)), .val (.ref en4)] [(.ref en4)])) t → Steps p.tables e below (s₁.setTop (entryFrame m #[(.int p0)] 5)) t := by
    intro t k
    refine pre8 t ?_
    show Steps p.tables e below (T7.setTop (mkF m 21 #[.val (.int p0), .val (.ref al), .val (.int (11 : Int32)), .val (.int (3 : Int32)), .val (.ref en3)] [(.ref en3)])) _
    refine st9 _ ?_
    show Steps p.tables e below (T9.setTop (mkF m 24 #[.val (.int p0), .val (.ref al), .val (.int (11 : Int32)), .val (.int (3 : Int32)), .val (.ref en3)] [(.int (500 : Int32))])) _
    refine XS.iloadN X9.here hx rfl (hb hby d1_24) rfl  ?_
    show Steps p.tables e below (T9.setTop (mkF m 25 #[.val (.int p0), .val (.ref al), .val (.int (11 : Int32)), .val (.int (3 : Int32)), .val (.ref en3)] [(.int p0), (.int (500 : Int32))])) _
    refine XS.icmpYes X9.here hx rfl (pc0 := 25) (pc' := 31) rfl (hb hby d1_25) rfl (feq ((by rw [hs]; first | done | decide) : ¬ ((500 : Int32) = p0))).2 (by decide) (by decide) ?_
    show Steps p.tables e below (T9.setTop (mkF m 31 #[.val (.int p0), .val (.ref al), .val (.int (11 : Int32)), .val (.int (3 : Int32)), .val (.ref en3)] [])) _
    refine XS.iinc X9.here hx rfl (hb hby d1_31) rfl (l' := #[.val (.int p0), .val (.ref al), .val (.int (11 : Int32)), .val (.int (4 : Int32)), .val (.ref en3)]) rfl ?_
    show Steps p.tables e below (T9.setTop (mkF m 34 #[.val (.int p0), .val (.ref al), .val (.int (11 : Int32)), .val (.int (4 : Int32)), .val (.ref en3)] [])) _
    refine XS.goto X9.here hx rfl (pc0 := 34) (pc' := 9) rfl (hb hby d1_34) (by decide) (by decide) ?_
    show Steps p.tables e below (T9.setTop (mkF m 9 #[.val (.int p0), .val (.ref al), .val (.int (11 : Int32)), .val (.int (4 : Int32)), .val (.ref en3)] [])) _
    refine XS.iloadN X9.here hx rfl (hb hby d1_9) rfl  ?_
    show Steps p.tables e below (T9.setTop (mkF m 10 #[.val (.int p0), .val (.ref al), .val (.int (11 : Int32)), .val (.int (4 : Int32)), .val (.ref en3)] [(.int (4 : Int32))])) _
    refine XS.iloadN X9.here hx rfl (hb hby d1_10) rfl  ?_
    show Steps p.tables e below (T9.setTop (mkF m 11 #[.val (.int p0), .val (.ref al), .val (.int (11 : Int32)), .val (.int (4 : Int32)), .val (.ref en3)] [(.int (11 : Int32)), (.int (4 : Int32))])) _
    refine XS.icmpNo X9.here hx rfl (hb hby d1_11) rfl (tlt (by decide : (4 : Int32) < (11 : Int32))).2.1 ?_
    show Steps p.tables e below (T9.setTop (mkF m 14 #[.val (.int p0), .val (.ref al), .val (.int (11 : Int32)), .val (.int (4 : Int32)), .val (.ref en3)] [])) _
    refine XS.aloadN X9.here hx rfl (hb hby d1_14) rfl rfl ?_
    show Steps p.tables e below (T9.setTop (mkF m 15 #[.val (.int p0), .val (.ref al), .val (.int (11 : Int32)), .val (.int (4 : Int32)), .val (.ref en3)] [(.ref al)])) _
    refine XS.iloadN X9.here hx rfl (hb hby d1_15) rfl  ?_
    show Steps p.tables e below (T9.setTop (mkF m 16 #[.val (.int p0), .val (.ref al), .val (.int (11 : Int32)), .val (.int (4 : Int32)), .val (.ref en3)] [(.int (4 : Int32)), (.ref al)])) _
    refine own_ldR X9 hx hZ e9 A_al rfl (j := (4 : Int32)) (k := 4) (v := .ref en4) rfl (by decide) (by decide) (by decide) (g := (mkF m 16 #[.val (.int p0), .val (.ref al), .val (.int (11 : Int32)), .val (.int (4 : Int32)), .val (.ref en3)] [(.int (4 : Int32)), (.ref al)])) rfl rfl (hb hby d1_16) ?_
    show Steps p.tables e below (T9.setTop (mkF m 17 #[.val (.int p0), .val (.ref al), .val (.int (11 : Int32)), .val (.int (4 : Int32)), .val (.ref en3)] [(.ref en4)])) _
    refine XS.astore X9.here hx rfl (hb hby d1_17) rfl rfl (l' := #[.val (.int p0), .val (.ref al), .val (.int (11 : Int32)), .val (.int (4 : Int32)), .val (.ref en4)]) rfl ?_
    show Steps p.tables e below (T9.setTop (mkF m 19 #[.val (.int p0), .val (.ref al), .val (.int (11 : Int32)), .val (.int (4 : Int32)), .val (.ref en4)] [])) _
    refine XS.aload X9.here hx rfl (hb hby d1_19) rfl rfl ?_
    exact k
  obtain ⟨T11, X11, e11, st11⟩ := getF X9 hx hZ hown (host := "") (Or.inl (hw _ (List.mem_of_getElem? (i := 8) rfl))) Via.refl e9 F_en4_status (g := (mkF m 21 #[.val (.int p0), .val (.ref al), .val (.int (11 : Int32)), .val (.int (4 : Int32)), .val (.ref en4)] [(.ref en4)])) rfl rfl (hb hby d1_21)
  have pre12 : ∀ t, Steps p.tables e below (T11.setTop (mkF m 21 #[.val (.int p0), .val (.ref al), .val (.int (11 : Int32)), .val (.int (5 : Int32)), .val (.ref en5)] [(.ref en5)])) t → Steps p.tables e below (s₁.setTop (entryFrame m #[(.int p0)] 5)) t := by
    intro t k
    refine pre10 t ?_
    show Steps p.tables e below (T9.setTop (mkF m 21 #[.val (.int p0), .val (.ref al), .val (.int (11 : Int32)), .val (.int (4 : Int32)), .val (.ref en4)] [(.ref en4)])) _
    refine st11 _ ?_
    show Steps p.tables e below (T11.setTop (mkF m 24 #[.val (.int p0), .val (.ref al), .val (.int (11 : Int32)), .val (.int (4 : Int32)), .val (.ref en4)] [(.int (502 : Int32))])) _
    refine XS.iloadN X11.here hx rfl (hb hby d1_24) rfl  ?_
    show Steps p.tables e below (T11.setTop (mkF m 25 #[.val (.int p0), .val (.ref al), .val (.int (11 : Int32)), .val (.int (4 : Int32)), .val (.ref en4)] [(.int p0), (.int (502 : Int32))])) _
    refine XS.icmpYes X11.here hx rfl (pc0 := 25) (pc' := 31) rfl (hb hby d1_25) rfl (feq ((by rw [hs]; first | done | decide) : ¬ ((502 : Int32) = p0))).2 (by decide) (by decide) ?_
    show Steps p.tables e below (T11.setTop (mkF m 31 #[.val (.int p0), .val (.ref al), .val (.int (11 : Int32)), .val (.int (4 : Int32)), .val (.ref en4)] [])) _
    refine XS.iinc X11.here hx rfl (hb hby d1_31) rfl (l' := #[.val (.int p0), .val (.ref al), .val (.int (11 : Int32)), .val (.int (5 : Int32)), .val (.ref en4)]) rfl ?_
    show Steps p.tables e below (T11.setTop (mkF m 34 #[.val (.int p0), .val (.ref al), .val (.int (11 : Int32)), .val (.int (5 : Int32)), .val (.ref en4)] [])) _
    refine XS.goto X11.here hx rfl (pc0 := 34) (pc' := 9) rfl (hb hby d1_34) (by decide) (by decide) ?_
    show Steps p.tables e below (T11.setTop (mkF m 9 #[.val (.int p0), .val (.ref al), .val (.int (11 : Int32)), .val (.int (5 : Int32)), .val (.ref en4)] [])) _
    refine XS.iloadN X11.here hx rfl (hb hby d1_9) rfl  ?_
    show Steps p.tables e below (T11.setTop (mkF m 10 #[.val (.int p0), .val (.ref al), .val (.int (11 : Int32)), .val (.int (5 : Int32)), .val (.ref en4)] [(.int (5 : Int32))])) _
    refine XS.iloadN X11.here hx rfl (hb hby d1_10) rfl  ?_
    show Steps p.tables e below (T11.setTop (mkF m 11 #[.val (.int p0), .val (.ref al), .val (.int (11 : Int32)), .val (.int (5 : Int32)), .val (.ref en4)] [(.int (11 : Int32)), (.int (5 : Int32))])) _
    refine XS.icmpNo X11.here hx rfl (hb hby d1_11) rfl (tlt (by decide : (5 : Int32) < (11 : Int32))).2.1 ?_
    show Steps p.tables e below (T11.setTop (mkF m 14 #[.val (.int p0), .val (.ref al), .val (.int (11 : Int32)), .val (.int (5 : Int32)), .val (.ref en4)] [])) _
    refine XS.aloadN X11.here hx rfl (hb hby d1_14) rfl rfl ?_
    show Steps p.tables e below (T11.setTop (mkF m 15 #[.val (.int p0), .val (.ref al), .val (.int (11 : Int32)), .val (.int (5 : Int32)), .val (.ref en4)] [(.ref al)])) _
    refine XS.iloadN X11.here hx rfl (hb hby d1_15) rfl  ?_
    show Steps p.tables e below (T11.setTop (mkF m 16 #[.val (.int p0), .val (.ref al), .val (.int (11 : Int32)), .val (.int (5 : Int32)), .val (.ref en4)] [(.int (5 : Int32)), (.ref al)])) _
    refine own_ldR X11 hx hZ e11 A_al rfl (j := (5 : Int32)) (k := 5) (v := .ref en5) rfl (by decide) (by decide) (by decide) (g := (mkF m 16 #[.val (.int p0), .val (.ref al), .val (.int (11 : Int32)), .val (.int (5 : Int32)), .val (.ref en4)] [(.int (5 : Int32)), (.ref al)])) rfl rfl (hb hby d1_16) ?_
    show Steps p.tables e below (T11.setTop (mkF m 17 #[.val (.int p0), .val (.ref al), .val (.int (11 : Int32)), .val (.int (5 : Int32)), .val (.ref en4)] [(.ref en5)])) _
    refine XS.astore X11.here hx rfl (hb hby d1_17) rfl rfl (l' := #[.val (.int p0), .val (.ref al), .val (.int (11 : Int32)), .val (.int (5 : Int32)), .val (.ref en5)]) rfl ?_
    show Steps p.tables e below (T11.setTop (mkF m 19 #[.val (.int p0), .val (.ref al), .val (.int (11 : Int32)), .val (.int (5 : Int32)), .val (.ref en5)] [])) _
    refine XS.aload X11.here hx rfl (hb hby d1_19) rfl rfl ?_
    exact k
  obtain ⟨T13, X13, e13, st13⟩ := getF X11 hx hZ hown (host := "") (Or.inl (hw _ (List.mem_of_getElem? (i := 8) rfl))) Via.refl e11 F_en5_status (g := (mkF m 21 #[.val (.int p0), .val (.ref al), .val (.int (11 : Int32)), .val (.int (5 : Int32)), .val (.ref en5)] [(.ref en5)])) rfl rfl (hb hby d1_21)
  have pre14 : ∀ t, Steps p.tables e below (T13.setTop (mkF m 21 #[.val (.int p0), .val (.ref al), .val (.int (11 : Int32)), .val (.int (6 : Int32)), .val (.ref en6)] [(.ref en6)])) t → Steps p.tables e below (s₁.setTop (entryFrame m #[(.int p0)] 5)) t := by
    intro t k
    refine pre12 t ?_
    show Steps p.tables e below (T11.setTop (mkF m 21 #[.val (.int p0), .val (.ref al), .val (.int (11 : Int32)), .val (.int (5 : Int32)), .val (.ref en5)] [(.ref en5)])) _
    refine st13 _ ?_
    show Steps p.tables e below (T13.setTop (mkF m 24 #[.val (.int p0), .val (.ref al), .val (.int (11 : Int32)), .val (.int (5 : Int32)), .val (.ref en5)] [(.int (503 : Int32))])) _
    refine XS.iloadN X13.here hx rfl (hb hby d1_24) rfl  ?_
    show Steps p.tables e below (T13.setTop (mkF m 25 #[.val (.int p0), .val (.ref al), .val (.int (11 : Int32)), .val (.int (5 : Int32)), .val (.ref en5)] [(.int p0), (.int (503 : Int32))])) _
    refine XS.icmpYes X13.here hx rfl (pc0 := 25) (pc' := 31) rfl (hb hby d1_25) rfl (feq ((by rw [hs]; first | done | decide) : ¬ ((503 : Int32) = p0))).2 (by decide) (by decide) ?_
    show Steps p.tables e below (T13.setTop (mkF m 31 #[.val (.int p0), .val (.ref al), .val (.int (11 : Int32)), .val (.int (5 : Int32)), .val (.ref en5)] [])) _
    refine XS.iinc X13.here hx rfl (hb hby d1_31) rfl (l' := #[.val (.int p0), .val (.ref al), .val (.int (11 : Int32)), .val (.int (6 : Int32)), .val (.ref en5)]) rfl ?_
    show Steps p.tables e below (T13.setTop (mkF m 34 #[.val (.int p0), .val (.ref al), .val (.int (11 : Int32)), .val (.int (6 : Int32)), .val (.ref en5)] [])) _
    refine XS.goto X13.here hx rfl (pc0 := 34) (pc' := 9) rfl (hb hby d1_34) (by decide) (by decide) ?_
    show Steps p.tables e below (T13.setTop (mkF m 9 #[.val (.int p0), .val (.ref al), .val (.int (11 : Int32)), .val (.int (6 : Int32)), .val (.ref en5)] [])) _
    refine XS.iloadN X13.here hx rfl (hb hby d1_9) rfl  ?_
    show Steps p.tables e below (T13.setTop (mkF m 10 #[.val (.int p0), .val (.ref al), .val (.int (11 : Int32)), .val (.int (6 : Int32)), .val (.ref en5)] [(.int (6 : Int32))])) _
    refine XS.iloadN X13.here hx rfl (hb hby d1_10) rfl  ?_
    show Steps p.tables e below (T13.setTop (mkF m 11 #[.val (.int p0), .val (.ref al), .val (.int (11 : Int32)), .val (.int (6 : Int32)), .val (.ref en5)] [(.int (11 : Int32)), (.int (6 : Int32))])) _
    refine XS.icmpNo X13.here hx rfl (hb hby d1_11) rfl (tlt (by decide : (6 : Int32) < (11 : Int32))).2.1 ?_
    show Steps p.tables e below (T13.setTop (mkF m 14 #[.val (.int p0), .val (.ref al), .val (.int (11 : Int32)), .val (.int (6 : Int32)), .val (.ref en5)] [])) _
    refine XS.aloadN X13.here hx rfl (hb hby d1_14) rfl rfl ?_
    show Steps p.tables e below (T13.setTop (mkF m 15 #[.val (.int p0), .val (.ref al), .val (.int (11 : Int32)), .val (.int (6 : Int32)), .val (.ref en5)] [(.ref al)])) _
    refine XS.iloadN X13.here hx rfl (hb hby d1_15) rfl  ?_
    show Steps p.tables e below (T13.setTop (mkF m 16 #[.val (.int p0), .val (.ref al), .val (.int (11 : Int32)), .val (.int (6 : Int32)), .val (.ref en5)] [(.int (6 : Int32)), (.ref al)])) _
    refine own_ldR X13 hx hZ e13 A_al rfl (j := (6 : Int32)) (k := 6) (v := .ref en6) rfl (by decide) (by decide) (by decide) (g := (mkF m 16 #[.val (.int p0), .val (.ref al), .val (.int (11 : Int32)), .val (.int (6 : Int32)), .val (.ref en5)] [(.int (6 : Int32)), (.ref al)])) rfl rfl (hb hby d1_16) ?_
    show Steps p.tables e below (T13.setTop (mkF m 17 #[.val (.int p0), .val (.ref al), .val (.int (11 : Int32)), .val (.int (6 : Int32)), .val (.ref en5)] [(.ref en6)])) _
    refine XS.astore X13.here hx rfl (hb hby d1_17) rfl rfl (l' := #[.val (.int p0), .val (.ref al), .val (.int (11 : Int32)), .val (.int (6 : Int32)), .val (.ref en6)]) rfl ?_
    show Steps p.tables e below (T13.setTop (mkF m 19 #[.val (.int p0), .val (.ref al), .val (.int (11 : Int32)), .val (.int (6 : Int32)), .val (.ref en6)] [])) _
    refine XS.aload X13.here hx rfl (hb hby d1_19) rfl rfl ?_
    exact k
  obtain ⟨T15, X15, e15, st15⟩ := getF X13 hx hZ hown (host := "") (Or.inl (hw _ (List.mem_of_getElem? (i := 8) rfl))) Via.refl e13 F_en6_status (g := (mkF m 21 #[.val (.int p0), .val (.ref al), .val (.int (11 : Int32)), .val (.int (6 : Int32)), .val (.ref en6)] [(.ref en6)])) rfl rfl (hb hby d1_21)
  obtain ⟨fs, hr, hrun, hended, hW, hsame⟩ := X15.leave (v := some (.ref en6)) (fun h => by rw [Bd.returns] at h; cases h) (BodyLoose.notSynchronized Bd)
  refine ⟨_, _, pre14 _ ?_, hrun, hended, _, _, rfl, ?_, ⟨_, rfl⟩, hW, hsame.mono (by decide) (by decide)⟩
  · show Steps p.tables e below (T13.setTop (mkF m 21 #[.val (.int p0), .val (.ref al), .val (.int (11 : Int32)), .val (.int (6 : Int32)), .val (.ref en6)] [(.ref en6)])) _
    refine st15 _ ?_
    show Steps p.tables e below (T15.setTop (mkF m 24 #[.val (.int p0), .val (.ref al), .val (.int (11 : Int32)), .val (.int (6 : Int32)), .val (.ref en6)] [(.int (504 : Int32))])) _
    refine XS.iloadN X15.here hx rfl (hb hby d1_24) rfl  ?_
    show Steps p.tables e below (T15.setTop (mkF m 25 #[.val (.int p0), .val (.ref al), .val (.int (11 : Int32)), .val (.int (6 : Int32)), .val (.ref en6)] [(.int p0), (.int (504 : Int32))])) _
    refine XS.icmpNo X15.here hx rfl (hb hby d1_25) rfl (teq ((by rw [hs]; first | done | decide) : (504 : Int32) = p0)).2 ?_
    show Steps p.tables e below (T15.setTop (mkF m 28 #[.val (.int p0), .val (.ref al), .val (.int (11 : Int32)), .val (.int (6 : Int32)), .val (.ref en6)] [])) _
    refine XS.aload X15.here hx rfl (hb hby d1_28) rfl rfl ?_
    show Steps p.tables e below (T15.setTop (mkF m 30 #[.val (.int p0), .val (.ref al), .val (.int (11 : Int32)), .val (.int (6 : Int32)), .val (.ref en6)] [(.ref en6)])) _
    exact retOut X15 hx Bd.returns rfl (Or.inr (Or.inr (Or.inr (Or.inr ⟨rfl, rfl, rfl⟩)))) (hb hby d1_30) hr
  · show Q_1t504 Z p0 en0 en1 en2 en3 en4 en5 en6 en7 en8 en9 en10 al h0 n0 _ T15.heap _
    rw [e15]
    exact ⟨rfl, N0, rfl⟩
theorem d2_66 : decode method_3_code 66 = .ok (.iload_n 0, 1) := by decide +kernel
theorem d2_67 : decode method_3_code 67 = .ok (.sipush 504, 3) := by decide +kernel
theorem d2_70 : decode method_3_code 70 = .ok (.if_icmp .ne 7, 3) := by decide +kernel
theorem d2_73 : decode method_3_code 73 = .ok (.getstatic 38, 3) := by decide +kernel
theorem d2_76 : decode method_3_code 76 = .ok (.areturn, 1) := by decide +kernel
theorem ef_2t504 (m : MethodId) (p0 : Int32) : entryFrame m #[(.int p0)] 1 = mkF m 0 #[.val (.int p0)] [] := by first | (simp [entryFrame, mkF, argsToLocals, Value.category]; done) | rfl
def Q_2t504 (Z : State) (p0 : Int32) (en0 : Addr) (en1 : Addr) (en2 : Addr) (en3 : Addr) (en4 : Addr) (en5 : Addr) (en6 : Addr) (en7 : Addr) (en8 : Addr) (en9 : Addr) (en10 : Addr) (h0 : Heap) (n0 : Nat) (v : Option Value) (h : Heap) (L : List Loc) : Prop := v = some (.ref en6) ∧ Fr n0 L ∧ h = h0
set_option maxRecDepth 65536 in
set_option maxHeartbeats 40000000 in
theorem rm_2t504 (l : Launch) (Z : State) (a0 : Array Value) (hw : ∀ d ∈ tables_1, d.before a0 Z = true) (ws : List Jvm.Cond) (p0 : Int32) (en0 : Addr) (en1 : Addr) (en2 : Addr) (en3 : Addr) (en4 : Addr) (en5 : Addr) (en6 : Addr) (en7 : Addr) (en8 : Addr) (en9 : Addr) (en10 : Addr) (h0 : Heap) (n0 : Nat) (Z0 : n0 ≤ h0.size) (S_ERROR : Sta Z h0 "com/example/fanoutd/fanoutd/proxy/NextUpstream$Condition" "ERROR" "Lcom/example/fanoutd/fanoutd/proxy/NextUpstream$Condition;" (.ref en0)) (S_TIMEOUT : Sta Z h0 "com/example/fanoutd/fanoutd/proxy/NextUpstream$Condition" "TIMEOUT" "Lcom/example/fanoutd/fanoutd/proxy/NextUpstream$Condition;" (.ref en1)) (S_INVALID_HEADER : Sta Z h0 "com/example/fanoutd/fanoutd/proxy/NextUpstream$Condition" "INVALID_HEADER" "Lcom/example/fanoutd/fanoutd/proxy/NextUpstream$Condition;" (.ref en2)) (S_HTTP_500 : Sta Z h0 "com/example/fanoutd/fanoutd/proxy/NextUpstream$Condition" "HTTP_500" "Lcom/example/fanoutd/fanoutd/proxy/NextUpstream$Condition;" (.ref en3)) (S_HTTP_502 : Sta Z h0 "com/example/fanoutd/fanoutd/proxy/NextUpstream$Condition" "HTTP_502" "Lcom/example/fanoutd/fanoutd/proxy/NextUpstream$Condition;" (.ref en4)) (S_HTTP_503 : Sta Z h0 "com/example/fanoutd/fanoutd/proxy/NextUpstream$Condition" "HTTP_503" "Lcom/example/fanoutd/fanoutd/proxy/NextUpstream$Condition;" (.ref en5)) (S_HTTP_504 : Sta Z h0 "com/example/fanoutd/fanoutd/proxy/NextUpstream$Condition" "HTTP_504" "Lcom/example/fanoutd/fanoutd/proxy/NextUpstream$Condition;" (.ref en6)) (S_HTTP_403 : Sta Z h0 "com/example/fanoutd/fanoutd/proxy/NextUpstream$Condition" "HTTP_403" "Lcom/example/fanoutd/fanoutd/proxy/NextUpstream$Condition;" (.ref en7)) (S_HTTP_404 : Sta Z h0 "com/example/fanoutd/fanoutd/proxy/NextUpstream$Condition" "HTTP_404" "Lcom/example/fanoutd/fanoutd/proxy/NextUpstream$Condition;" (.ref en8)) (S_HTTP_429 : Sta Z h0 "com/example/fanoutd/fanoutd/proxy/NextUpstream$Condition" "HTTP_429" "Lcom/example/fanoutd/fanoutd/proxy/NextUpstream$Condition;" (.ref en9)) (S_NON_IDEMPOTENT : Sta Z h0 "com/example/fanoutd/fanoutd/proxy/NextUpstream$Condition" "NON_IDEMPOTENT" "Lcom/example/fanoutd/fanoutd/proxy/NextUpstream$Condition;" (.ref en10)) (hs : p0 = (504 : Int32)) :
    MetFree l (⟨"com/example/fanoutd/fanoutd/proxy/ConditionOfStatusPinLaw", "expected", "(I)Lcom/example/fanoutd/fanoutd/proxy/NextUpstream$Condition;"⟩ : MethodName) (head1 (Jvm.Cond.code (⟨"com/example/fanoutd/fanoutd/proxy/ConditionOfStatusPinLaw", "expected", "(I)Lcom/example/fanoutd/fanoutd/proxy/NextUpstream$Condition;"⟩ : MethodName) method_3_code 1 (some (.object "com/example/fanoutd/fanoutd/proxy/NextUpstream$Condition")) :: ws) ({ frames := 0, cells := 0, slots := 0, locals := 0 } : Room)) (fun a U => a = #[(.int p0)] ∧ Z.Warmed39 U.vm ∧ U.heap = h0) (fun _ _ _ _ _ => True) (fun _ U o U' => ∃ v L, o = .returned v ∧ Q_2t504 Z p0 en0 en1 en2 en3 en4 en5 en6 en7 en8 en9 en10 h0 n0 v U'.heap L ∧ FrameEnd U o U' L ({ frames := 0, cells := 0, slots := 0, locals := 0 } : Room).cells ({ frames := 0, cells := 0, slots := 0, locals := 0 } : Room).slots) := by
  refine MetFree.of_bodySF (plainFor_of_name pn_2) hisR ?_
  intro p e s m args below meth c s₁ Bd hml0 hP hK
  obtain ⟨rfl, hZ, hh⟩ := hP
  have hx := Bd.exec
  have hby := Bd.bytes
  have hml : c.maxLocals = 1 := hml0
  have hown : s.vm.findClass "com/example/fanoutd/fanoutd/proxy/ConditionOfStatusPinLaw" = some m.cls := findClass_of_methodNamed Bd.named
  have hnm := (name_of_methodNamed Bd.named Bd.method).1
  have X0 : Stand p l e ({ frames := 0, cells := 0, slots := 0, locals := 0 } : Room) s m #[(.int p0)] below meth c s₁ [] 0 0 := Stand.of_body Bd
  have e0 : s₁.heap = h0 := by rw [← hh, Bd.state]; rfl
  have N0 := Fr.nil n0
  have K0 : Keep h0 h0 [] := Keep.refl h0 _
  have pre0 : ∀ t, Steps p.tables e below (s₁.setTop (mkF m 0 #[.val (.int p0)] [])) t → Steps p.tables e below (s₁.setTop (entryFrame m #[(.int p0)] 1)) t := fun t k => castTop (ef_2t504 m p0) k
  have pre1 : ∀ t, Steps p.tables e below (s₁.setTop (mkF m 73 #[.val (.int p0)] [])) t → Steps p.tables e below (s₁.setTop (entryFrame m #[(.int p0)] 1)) t := by
    intro t k
    refine pre0 t ?_
    show Steps p.tables e below (s₁.setTop (mkF m 0 #[.val (.int p0)] [])) _
    refine XS.iloadN X0.here hx rfl (hb hby d2_0) rfl  ?_
    show Steps p.tables e below (s₁.setTop (mkF m 1 #[.val (.int p0)] [(.int p0)])) _
    refine XS.sipush X0.here hx rfl (hb hby d2_1) ?_
    show Steps p.tables e below (s₁.setTop (mkF m 4 #[.val (.int p0)] [(.int (403 : Int32)), (.int p0)])) _
    refine XS.icmpYes X0.here hx rfl (pc0 := 4) (pc' := 11) rfl (hb hby d2_4) rfl (feq ((by rw [hs]; first | done | decide) : ¬ (p0 = (403 : Int32)))).2 (by decide) (by decide) ?_
    show Steps p.tables e below (s₁.setTop (mkF m 11 #[.val (.int p0)] [])) _
    refine XS.iloadN X0.here hx rfl (hb hby d2_11) rfl  ?_
    show Steps p.tables e below (s₁.setTop (mkF m 12 #[.val (.int p0)] [(.int p0)])) _
    refine XS.sipush X0.here hx rfl (hb hby d2_12) ?_
    show Steps p.tables e below (s₁.setTop (mkF m 15 #[.val (.int p0)] [(.int (404 : Int32)), (.int p0)])) _
    refine XS.icmpYes X0.here hx rfl (pc0 := 15) (pc' := 22) rfl (hb hby d2_15) rfl (feq ((by rw [hs]; first | done | decide) : ¬ (p0 = (404 : Int32)))).2 (by decide) (by decide) ?_
    show Steps p.tables e below (s₁.setTop (mkF m 22 #[.val (.int p0)] [])) _
    refine XS.iloadN X0.here hx rfl (hb hby d2_22) rfl  ?_
    show Steps p.tables e below (s₁.setTop (mkF m 23 #[.val (.int p0)] [(.int p0)])) _
    refine XS.sipush X0.here hx rfl (hb hby d2_23) ?_
    show Steps p.tables e below (s₁.setTop (mkF m 26 #[.val (.int p0)] [(.int (429 : Int32)), (.int p0)])) _
    refine XS.icmpYes X0.here hx rfl (pc0 := 26) (pc' := 33) rfl (hb hby d2_26) rfl (feq ((by rw [hs]; first | done | decide) : ¬ (p0 = (429 : Int32)))).2 (by decide) (by decide) ?_
    show Steps p.tables e below (s₁.setTop (mkF m 33 #[.val (.int p0)] [])) _
    refine XS.iloadN X0.here hx rfl (hb hby d2_33) rfl  ?_
    show Steps p.tables e below (s₁.setTop (mkF m 34 #[.val (.int p0)] [(.int p0)])) _
    refine XS.sipush X0.here hx rfl (hb hby d2_34) ?_
    show Steps p.tables e below (s₁.setTop (mkF m 37 #[.val (.int p0)] [(.int (500 : Int32)), (.int p0)])) _
    refine XS.icmpYes X0.here hx rfl (pc0 := 37) (pc' := 44) rfl (hb hby d2_37) rfl (feq ((by rw [hs]; first | done | decide) : ¬ (p0 = (500 : Int32)))).2 (by decide) (by decide) ?_
    show Steps p.tables e below (s₁.setTop (mkF m 44 #[.val (.int p0)] [])) _
    refine XS.iloadN X0.here hx rfl (hb hby d2_44) rfl  ?_
    show Steps p.tables e below (s₁.setTop (mkF m 45 #[.val (.int p0)] [(.int p0)])) _
    refine XS.sipush X0.here hx rfl (hb hby d2_45) ?_
    show Steps p.tables e below (s₁.setTop (mkF m 48 #[.val (.int p0)] [(.int (502 : Int32)), (.int p0)])) _
    refine XS.icmpYes X0.here hx rfl (pc0 := 48) (pc' := 55) rfl (hb hby d2_48) rfl (feq ((by rw [hs]; first | done | decide) : ¬ (p0 = (502 : Int32)))).2 (by decide) (by decide) ?_
    show Steps p.tables e below (s₁.setTop (mkF m 55 #[.val (.int p0)] [])) _
    refine XS.iloadN X0.here hx rfl (hb hby d2_55) rfl  ?_
    show Steps p.tables e below (s₁.setTop (mkF m 56 #[.val (.int p0)] [(.int p0)])) _
    refine XS.sipush X0.here hx rfl (hb hby d2_56) ?_
    show Steps p.tables e below (s₁.setTop (mkF m 59 #[.val (.int p0)] [(.int (503 : Int32)), (.int p0)])) _
    refine XS.icmpYes X0.here hx rfl (pc0 := 59) (pc' := 66) rfl (hb hby d2_59) rfl (feq ((by rw [hs]; first | done | decide) : ¬ (p0 = (503 : Int32)))).2 (by decide) (by decide) ?_
    show Steps p.tables e below (s₁.setTop (mkF m 66 #[.val (.int p0)] [])) _
    refine XS.iloadN X0.here hx rfl (hb hby d2_66) rfl  ?_
    show Steps p.tables e below (s₁.setTop (mkF m 67 #[.val (.int p0)] [(.int p0)])) _
    refine XS.sipush X0.here hx rfl (hb hby d2_67) ?_
    show Steps p.tables e below (s₁.setTop (mkF m 70 #[.val (.int p0)] [(.int (504 : Int32)), (.int p0)])) _
    refine XS.icmpNo X0.here hx rfl (hb hby d2_70) rfl (teq ((by rw [hs]; first | done | decide) : p0 = (504 : Int32))).2 ?_
    exact k
  obtain ⟨T2, X2, e2, st2⟩ := getS2 X0 hx hZ hown (host := "") (Or.inl (hw _ (List.mem_of_getElem? (i := 29) rfl))) Via.refl e0 S_HTTP_504 (g := (mkF m 73 #[.val (.int p0)] [])) rfl (hb hby d2_73)
  obtain ⟨fs, hr, hrun, hended, hW, hsame⟩ := X2.leave (v := some (.ref en6)) (fun h => by rw [Bd.returns] at h; cases h) (BodyLoose.notSynchronized Bd)
  refine ⟨_, _, pre1 _ ?_, hrun, hended, _, _, rfl, ?_, ⟨_, rfl⟩, hW, hsame.mono (by decide) (by decide)⟩
  · show Steps p.tables e below (s₁.setTop (mkF m 73 #[.val (.int p0)] [])) _
    refine st2 _ ?_
    show Steps p.tables e below (T2.setTop (mkF m 76 #[.val (.int p0)] [(.ref en6)])) _
    exact retOut X2 hx Bd.returns rfl (Or.inr (Or.inr (Or.inr (Or.inr ⟨rfl, rfl, rfl⟩)))) (hb hby d2_76) hr
  · show Q_2t504 Z p0 en0 en1 en2 en3 en4 en5 en6 en7 en8 en9 en10 h0 n0 _ T2.heap _
    rw [e2]
    exact ⟨rfl, N0, rfl⟩
theorem d1_37 : decode prog_62_method_7_code 37 = .ok (.aconst_null, 1) := by decide +kernel
theorem d1_38 : decode prog_62_method_7_code 38 = .ok (.areturn, 1) := by decide +kernel
theorem ef_1tn (m : MethodId) (p0 : Int32) : entryFrame m #[(.int p0)] 5 = mkF m 0 #[.val (.int p0), .unset, .unset, .unset, .unset] [] := by first | (simp [entryFrame, mkF, argsToLocals, Value.category]; done) | rfl
def Q_1tn (Z : State) (p0 : Int32) (en0 : Addr) (en1 : Addr) (en2 : Addr) (en3 : Addr) (en4 : Addr) (en5 : Addr) (en6 : Addr) (en7 : Addr) (en8 : Addr) (en9 : Addr) (en10 : Addr) (al : Addr) (h0 : Heap) (n0 : Nat) (v : Option Value) (h : Heap) (L : List Loc) : Prop := v = some .null ∧ Fr n0 L ∧ h = h0
set_option maxRecDepth 65536 in
set_option maxHeartbeats 40000000 in
theorem rm_1tn (l : Launch) (Z : State) (a0 : Array Value) (hw : ∀ d ∈ tables_1, d.before a0 Z = true) (ws : List Jvm.Cond) (p0 : Int32) (en0 : Addr) (en1 : Addr) (en2 : Addr) (en3 : Addr) (en4 : Addr) (en5 : Addr) (en6 : Addr) (en7 : Addr) (en8 : Addr) (en9 : Addr) (en10 : Addr) (al : Addr) (h0 : Heap) (n0 : Nat) (Z0 : n0 ≤ h0.size) (S_ERROR : Sta Z h0 "com/example/fanoutd/fanoutd/proxy/NextUpstream$Condition" "ERROR" "Lcom/example/fanoutd/fanoutd/proxy/NextUpstream$Condition;" (.ref en0)) (S_TIMEOUT : Sta Z h0 "com/example/fanoutd/fanoutd/proxy/NextUpstream$Condition" "TIMEOUT" "Lcom/example/fanoutd/fanoutd/proxy/NextUpstream$Condition;" (.ref en1)) (S_INVALID_HEADER : Sta Z h0 "com/example/fanoutd/fanoutd/proxy/NextUpstream$Condition" "INVALID_HEADER" "Lcom/example/fanoutd/fanoutd/proxy/NextUpstream$Condition;" (.ref en2)) (S_HTTP_500 : Sta Z h0 "com/example/fanoutd/fanoutd/proxy/NextUpstream$Condition" "HTTP_500" "Lcom/example/fanoutd/fanoutd/proxy/NextUpstream$Condition;" (.ref en3)) (S_HTTP_502 : Sta Z h0 "com/example/fanoutd/fanoutd/proxy/NextUpstream$Condition" "HTTP_502" "Lcom/example/fanoutd/fanoutd/proxy/NextUpstream$Condition;" (.ref en4)) (S_HTTP_503 : Sta Z h0 "com/example/fanoutd/fanoutd/proxy/NextUpstream$Condition" "HTTP_503" "Lcom/example/fanoutd/fanoutd/proxy/NextUpstream$Condition;" (.ref en5)) (S_HTTP_504 : Sta Z h0 "com/example/fanoutd/fanoutd/proxy/NextUpstream$Condition" "HTTP_504" "Lcom/example/fanoutd/fanoutd/proxy/NextUpstream$Condition;" (.ref en6)) (S_HTTP_403 : Sta Z h0 "com/example/fanoutd/fanoutd/proxy/NextUpstream$Condition" "HTTP_403" "Lcom/example/fanoutd/fanoutd/proxy/NextUpstream$Condition;" (.ref en7)) (S_HTTP_404 : Sta Z h0 "com/example/fanoutd/fanoutd/proxy/NextUpstream$Condition" "HTTP_404" "Lcom/example/fanoutd/fanoutd/proxy/NextUpstream$Condition;" (.ref en8)) (S_HTTP_429 : Sta Z h0 "com/example/fanoutd/fanoutd/proxy/NextUpstream$Condition" "HTTP_429" "Lcom/example/fanoutd/fanoutd/proxy/NextUpstream$Condition;" (.ref en9)) (S_NON_IDEMPOTENT : Sta Z h0 "com/example/fanoutd/fanoutd/proxy/NextUpstream$Condition" "NON_IDEMPOTENT" "Lcom/example/fanoutd/fanoutd/proxy/NextUpstream$Condition;" (.ref en10)) (S_ALL : Sta Z h0 "com/example/fanoutd/fanoutd/proxy/NextUpstream$Condition" "ALL" "[Lcom/example/fanoutd/fanoutd/proxy/NextUpstream$Condition;" (.ref al)) (A_al : own_A Z h0 al (.object "com/example/fanoutd/fanoutd/proxy/NextUpstream$Condition") 11 (fun i => (own_l en0 en1 en2 en3 en4 en5 en6 en7 en8 en9 en10) i)) (F_en0_status : Fld Z h0 en0 "com/example/fanoutd/fanoutd/proxy/NextUpstream$Condition" "status" "I" (.int (0 : Int32))) (F_en1_status : Fld Z h0 en1 "com/example/fanoutd/fanoutd/proxy/NextUpstream$Condition" "status" "I" (.int (0 : Int32))) (F_en2_status : Fld Z h0 en2 "com/example/fanoutd/fanoutd/proxy/NextUpstream$Condition" "status" "I" (.int (0 : Int32))) (F_en3_status : Fld Z h0 en3 "com/example/fanoutd/fanoutd/proxy/NextUpstream$Condition" "status" "I" (.int (500 : Int32))) (F_en4_status : Fld Z h0 en4 "com/example/fanoutd/fanoutd/proxy/NextUpstream$Condition" "status" "I" (.int (502 : Int32))) (F_en5_status : Fld Z h0 en5 "com/example/fanoutd/fanoutd/proxy/NextUpstream$Condition" "status" "I" (.int (503 : Int32))) (F_en6_status : Fld Z h0 en6 "com/example/fanoutd/fanoutd/proxy/NextUpstream$Condition" "status" "I" (.int (504 : Int32))) (F_en7_status : Fld Z h0 en7 "com/example/fanoutd/fanoutd/proxy/NextUpstream$Condition" "status" "I" (.int (403 : Int32))) (F_en8_status : Fld Z h0 en8 "com/example/fanoutd/fanoutd/proxy/NextUpstream$Condition" "status" "I" (.int (404 : Int32))) (F_en9_status : Fld Z h0 en9 "com/example/fanoutd/fanoutd/proxy/NextUpstream$Condition" "status" "I" (.int (429 : Int32))) (F_en10_status : Fld Z h0 en10 "com/example/fanoutd/fanoutd/proxy/NextUpstream$Condition" "status" "I" (.int (0 : Int32))) (hz : ¬ p0 = (0 : Int32)) (h403 : ¬ p0 = (403 : Int32)) (h404 : ¬ p0 = (404 : Int32)) (h429 : ¬ p0 = (429 : Int32)) (h500 : ¬ p0 = (500 : Int32)) (h502 : ¬ p0 = (502 : Int32)) (h503 : ¬ p0 = (503 : Int32)) (h504 : ¬ p0 = (504 : Int32)) :
    MetFree l (⟨"com/example/fanoutd/fanoutd/proxy/NextUpstream$Condition", "ofStatus", "(I)Lcom/example/fanoutd/fanoutd/proxy/NextUpstream$Condition;"⟩ : MethodName) (head1 (Jvm.Cond.code (⟨"com/example/fanoutd/fanoutd/proxy/NextUpstream$Condition", "ofStatus", "(I)Lcom/example/fanoutd/fanoutd/proxy/NextUpstream$Condition;"⟩ : MethodName) prog_62_method_7_code 5 (some (.object "com/example/fanoutd/fanoutd/proxy/NextUpstream$Condition")) :: ws) ({ frames := 0, cells := 0, slots := 0, locals := 0 } : Room)) (fun a U => a = #[(.int p0)] ∧ Z.Warmed39 U.vm ∧ U.heap = h0) (fun _ _ _ _ _ => True) (fun _ U o U' => ∃ v L, o = .returned v ∧ Q_1tn Z p0 en0 en1 en2 en3 en4 en5 en6 en7 en8 en9 en10 al h0 n0 v U'.heap L ∧ FrameEnd U o U' L ({ frames := 0, cells := 0, slots := 0, locals := 0 } : Room).cells ({ frames := 0, cells := 0, slots := 0, locals := 0 } : Room).slots) := by
  refine MetFree.of_bodySF (plainFor_of_name pn_1) hisR ?_
  intro p e s m args below meth c s₁ Bd hml0 hP hK
  obtain ⟨rfl, hZ, hh⟩ := hP
  have hx := Bd.exec
  have hby := Bd.bytes
  have hml : c.maxLocals = 5 := hml0
  have hown : s.vm.findClass "com/example/fanoutd/fanoutd/proxy/NextUpstream$Condition" = some m.cls := findClass_of_methodNamed Bd.named
  have hnm := (name_of_methodNamed Bd.named Bd.method).1
  have X0 : Stand p l e ({ frames := 0, cells := 0, slots := 0, locals := 0 } : Room) s m #[(.int p0)] below meth c s₁ [] 0 0 := Stand.of_body Bd
  have e0 : s₁.heap = h0 := by rw [← hh, Bd.state]; rfl
  have N0 := Fr.nil n0
  have K0 : Keep h0 h0 [] := Keep.refl h0 _
  have pre0 : ∀ t, Steps p.tables e below (s₁.setTop (mkF m 0 #[.val (.int p0), .unset, .unset, .unset, .unset] [])) t → Steps p.tables e below (s₁.setTop (entryFrame m #[(.int p0)] 5)) t := fun t k => castTop (ef_1tn m p0) k
  obtain ⟨T1, X1, e1, st1⟩ := getS2 X0 hx hZ hown (host := "") (Or.inl (hw _ (List.mem_of_getElem? (i := 5) rfl))) Via.refl e0 S_ALL (g := (mkF m 0 #[.val (.int p0), .unset, .unset, .unset, .unset] [])) rfl (hb hby d1_0)
  have pre2 : ∀ t, Steps p.tables e below (T1.setTop (mkF m 21 #[.val (.int p0), .val (.ref al), .val (.int (11 : Int32)), .val (.int (0 : Int32)), .val (.ref en0)] [(.ref en0)])) t → Steps p.tables e below (s₁.setTop (entryFrame m #[(.int p0)] 5)) t := by
    intro t k
    refine pre0 t ?_
    show Steps p.tables e below (s₁.setTop (mkF m 0 #[.val (.int p0), .unset, .unset, .unset, .unset] [])) _
    refine st1 _ ?_
    show Steps p.tables e below (T1.setTop (mkF m 3 #[.val (.int p0), .unset, .unset, .unset, .unset] [(.ref al)])) _
    refine XS.astoreN X1.here hx rfl (hb hby d1_3) rfl rfl (l' := #[.val (.int p0), .val (.ref al), .unset, .unset, .unset]) rfl ?_
    show Steps p.tables e below (T1.setTop (mkF m 4 #[.val (.int p0), .val (.ref al), .unset, .unset, .unset] [])) _
    refine XS.aloadN X1.here hx rfl (hb hby d1_4) rfl rfl ?_
    show Steps p.tables e below (T1.setTop (mkF m 5 #[.val (.int p0), .val (.ref al), .unset, .unset, .unset] [(.ref al)])) _
    refine own_len X1 hx hZ e1 A_al (z := (11 : Int32)) rfl (g := (mkF m 5 #[.val (.int p0), .val (.ref al), .unset, .unset, .unset] [(.ref al)])) rfl rfl (hb hby d1_5) ?_
    show Steps p.tables e below (T1.setTop (mkF m 6 #[.val (.int p0), .val (.ref al), .unset, .unset, .unset] [(.int (11 : Int32))])) _
    refine XS.istoreN X1.here hx rfl (hb hby d1_6) rfl (l' := #[.val (.int p0), .val (.ref al), .val (.int (11 : Int32)), .unset, .unset]) rfl ?_
    show Steps p.tables e below (T1.setTop (mkF m 7 #[.val (.int p0), .val (.ref al), .val (.int (11 : Int32)), .unset, .unset] [])) _
    refine XS.iconst X1.here hx rfl (hb hby d1_7) ?_
    show Steps p.tables e below (T1.setTop (mkF m 8 #[.val (.int p0), .val (.ref al), .val (.int (11 : Int32)), .unset, .unset] [(.int (0 : Int32))])) _
    refine XS.istoreN X1.here hx rfl (hb hby d1_8) rfl (l' := #[.val (.int p0), .val (.ref al), .val (.int (11 : Int32)), .val (.int (0 : Int32)), .unset]) rfl ?_
    show Steps p.tables e below (T1.setTop (mkF m 9 #[.val (.int p0), .val (.ref al), .val (.int (11 : Int32)), .val (.int (0 : Int32)), .unset] [])) _
    refine XS.iloadN X1.here hx rfl (hb hby d1_9) rfl  ?_
    show Steps p.tables e below (T1.setTop (mkF m 10 #[.val (.int p0), .val (.ref al), .val (.int (11 : Int32)), .val (.int (0 : Int32)), .unset] [(.int (0 : Int32))])) _
    refine XS.iloadN X1.here hx rfl (hb hby d1_10) rfl  ?_
    show Steps p.tables e below (T1.setTop (mkF m 11 #[.val (.int p0), .val (.ref al), .val (.int (11 : Int32)), .val (.int (0 : Int32)), .unset] [(.int (11 : Int32)), (.int (0 : Int32))])) _
    refine XS.icmpNo X1.here hx rfl (hb hby d1_11) rfl (tlt (by decide : (0 : Int32) < (11 : Int32))).2.1 ?_
    show Steps p.tables e below (T1.setTop (mkF m 14 #[.val (.int p0), .val (.ref al), .val (.int (11 : Int32)), .val (.int (0 : Int32)), .unset] [])) _
    refine XS.aloadN X1.here hx rfl (hb hby d1_14) rfl rfl ?_
    show Steps p.tables e below (T1.setTop (mkF m 15 #[.val (.int p0), .val (.ref al), .val (.int (11 : Int32)), .val (.int (0 : Int32)), .unset] [(.ref al)])) _
    refine XS.iloadN X1.here hx rfl (hb hby d1_15) rfl  ?_
    show Steps p.tables e below (T1.setTop (mkF m 16 #[.val (.int p0), .val (.ref al), .val (.int (11 : Int32)), .val (.int (0 : Int32)), .unset] [(.int (0 : Int32)), (.ref al)])) _
    refine own_ldR X1 hx hZ e1 A_al rfl (j := (0 : Int32)) (k := 0) (v := .ref en0) rfl (by decide) (by decide) (by decide) (g := (mkF m 16 #[.val (.int p0), .val (.ref al), .val (.int (11 : Int32)), .val (.int (0 : Int32)), .unset] [(.int (0 : Int32)), (.ref al)])) rfl rfl (hb hby d1_16) ?_
    show Steps p.tables e below (T1.setTop (mkF m 17 #[.val (.int p0), .val (.ref al), .val (.int (11 : Int32)), .val (.int (0 : Int32)), .unset] [(.ref en0)])) _
    refine XS.astore X1.here hx rfl (hb hby d1_17) rfl rfl (l' := #[.val (.int p0), .val (.ref al), .val (.int (11 : Int32)), .val (.int (0 : Int32)), .val (.ref en0)]) rfl ?_
    show Steps p.tables e below (T1.setTop (mkF m 19 #[.val (.int p0), .val (.ref al), .val (.int (11 : Int32)), .val (.int (0 : Int32)), .val (.ref en0)] [])) _
    refine XS.aload X1.here hx rfl (hb hby d1_19) rfl rfl ?_
    exact k
  obtain ⟨T3, X3, e3, st3⟩ := getF X1 hx hZ hown (host := "") (Or.inl (hw _ (List.mem_of_getElem? (i := 8) rfl))) Via.refl e1 F_en0_status (g := (mkF m 21 #[.val (.int p0), .val (.ref al), .val (.int (11 : Int32)), .val (.int (0 : Int32)), .val (.ref en0)] [(.ref en0)])) rfl rfl (hb hby d1_21)
  have pre4 : ∀ t, Steps p.tables e below (T3.setTop (mkF m 21 #[.val (.int p0), .val (.ref al), .val (.int (11 : Int32)), .val (.int (1 : Int32)), .val (.ref en1)] [(.ref en1)])) t → Steps p.tables e below (s₁.setTop (entryFrame m #[(.int p0)] 5)) t := by
    intro t k
    refine pre2 t ?_
    show Steps p.tables e below (T1.setTop (mkF m 21 #[.val (.int p0), .val (.ref al), .val (.int (11 : Int32)), .val (.int (0 : Int32)), .val (.ref en0)] [(.ref en0)])) _
    refine st3 _ ?_
    show Steps p.tables e below (T3.setTop (mkF m 24 #[.val (.int p0), .val (.ref al), .val (.int (11 : Int32)), .val (.int (0 : Int32)), .val (.ref en0)] [(.int (0 : Int32))])) _
    refine XS.iloadN X3.here hx rfl (hb hby d1_24) rfl  ?_
    show Steps p.tables e below (T3.setTop (mkF m 25 #[.val (.int p0), .val (.ref al), .val (.int (11 : Int32)), .val (.int (0 : Int32)), .val (.ref en0)] [(.int p0), (.int (0 : Int32))])) _
    refine XS.icmpYes X3.here hx rfl (pc0 := 25) (pc' := 31) rfl (hb hby d1_25) rfl (feq ((fun q => hz q.symm) : ¬ ((0 : Int32) = p0))).2 (by decide) (by decide) ?_
    show Steps p.tables e below (T3.setTop (mkF m 31 #[.val (.int p0), .val (.ref al), .val (.int (11 : Int32)), .val (.int (0 : Int32)), .val (.ref en0)] [])) _
    refine XS.iinc X3.here hx rfl (hb hby d1_31) rfl (l' := #[.val (.int p0), .val (.ref al), .val (.int (11 : Int32)), .val (.int (1 : Int32)), .val (.ref en0)]) rfl ?_
    show Steps p.tables e below (T3.setTop (mkF m 34 #[.val (.int p0), .val (.ref al), .val (.int (11 : Int32)), .val (.int (1 : Int32)), .val (.ref en0)] [])) _
    refine XS.goto X3.here hx rfl (pc0 := 34) (pc' := 9) rfl (hb hby d1_34) (by decide) (by decide) ?_
    show Steps p.tables e below (T3.setTop (mkF m 9 #[.val (.int p0), .val (.ref al), .val (.int (11 : Int32)), .val (.int (1 : Int32)), .val (.ref en0)] [])) _
    refine XS.iloadN X3.here hx rfl (hb hby d1_9) rfl  ?_
    show Steps p.tables e below (T3.setTop (mkF m 10 #[.val (.int p0), .val (.ref al), .val (.int (11 : Int32)), .val (.int (1 : Int32)), .val (.ref en0)] [(.int (1 : Int32))])) _
    refine XS.iloadN X3.here hx rfl (hb hby d1_10) rfl  ?_
    show Steps p.tables e below (T3.setTop (mkF m 11 #[.val (.int p0), .val (.ref al), .val (.int (11 : Int32)), .val (.int (1 : Int32)), .val (.ref en0)] [(.int (11 : Int32)), (.int (1 : Int32))])) _
    refine XS.icmpNo X3.here hx rfl (hb hby d1_11) rfl (tlt (by decide : (1 : Int32) < (11 : Int32))).2.1 ?_
    show Steps p.tables e below (T3.setTop (mkF m 14 #[.val (.int p0), .val (.ref al), .val (.int (11 : Int32)), .val (.int (1 : Int32)), .val (.ref en0)] [])) _
    refine XS.aloadN X3.here hx rfl (hb hby d1_14) rfl rfl ?_
    show Steps p.tables e below (T3.setTop (mkF m 15 #[.val (.int p0), .val (.ref al), .val (.int (11 : Int32)), .val (.int (1 : Int32)), .val (.ref en0)] [(.ref al)])) _
    refine XS.iloadN X3.here hx rfl (hb hby d1_15) rfl  ?_
    show Steps p.tables e below (T3.setTop (mkF m 16 #[.val (.int p0), .val (.ref al), .val (.int (11 : Int32)), .val (.int (1 : Int32)), .val (.ref en0)] [(.int (1 : Int32)), (.ref al)])) _
    refine own_ldR X3 hx hZ e3 A_al rfl (j := (1 : Int32)) (k := 1) (v := .ref en1) rfl (by decide) (by decide) (by decide) (g := (mkF m 16 #[.val (.int p0), .val (.ref al), .val (.int (11 : Int32)), .val (.int (1 : Int32)), .val (.ref en0)] [(.int (1 : Int32)), (.ref al)])) rfl rfl (hb hby d1_16) ?_
    show Steps p.tables e below (T3.setTop (mkF m 17 #[.val (.int p0), .val (.ref al), .val (.int (11 : Int32)), .val (.int (1 : Int32)), .val (.ref en0)] [(.ref en1)])) _
    refine XS.astore X3.here hx rfl (hb hby d1_17) rfl rfl (l' := #[.val (.int p0), .val (.ref al), .val (.int (11 : Int32)), .val (.int (1 : Int32)), .val (.ref en1)]) rfl ?_
    show Steps p.tables e below (T3.setTop (mkF m 19 #[.val (.int p0), .val (.ref al), .val (.int (11 : Int32)), .val (.int (1 : Int32)), .val (.ref en1)] [])) _
    refine XS.aload X3.here hx rfl (hb hby d1_19) rfl rfl ?_
    exact k
  obtain ⟨T5, X5, e5, st5⟩ := getF X3 hx hZ hown (host := "") (Or.inl (hw _ (List.mem_of_getElem? (i := 8) rfl))) Via.refl e3 F_en1_status (g := (mkF m 21 #[.val (.int p0), .val (.ref al), .val (.int (11 : Int32)), .val (.int (1 : Int32)), .val (.ref en1)] [(.ref en1)])) rfl rfl (hb hby d1_21)
  have pre6 : ∀ t, Steps p.tables e below (T5.setTop (mkF m 21 #[.val (.int p0), .val (.ref al), .val (.int (11 : Int32)), .val (.int (2 : Int32)), .val (.ref en2)] [(.ref en2)])) t → Steps p.tables e below (s₁.setTop (entryFrame m #[(.int p0)] 5)) t := by
    intro t k
    refine pre4 t ?_
    show Steps p.tables e below (T3.setTop (mkF m 21 #[.val (.int p0), .val (.ref al), .val (.int (11 : Int32)), .val (.int (1 : Int32)), .val (.ref en1)] [(.ref en1)])) _
    refine st5 _ ?_
    show Steps p.tables e below (T5.setTop (mkF m 24 #[.val (.int p0), .val (.ref al), .val (.int (11 : Int32)), .val (.int (1 : Int32)), .val (.ref en1)] [(.int (0 : Int32))])) _
    refine XS.iloadN X5.here hx rfl (hb hby d1_24) rfl  ?_
    show Steps p.tables e below (T5.setTop (mkF m 25 #[.val (.int p0), .val (.ref al), .val (.int (11 : Int32)), .val (.int (1 : Int32)), .val (.ref en1)] [(.int p0), (.int (0 : Int32))])) _
    refine XS.icmpYes X5.here hx rfl (pc0 := 25) (pc' := 31) rfl (hb hby d1_25) rfl (feq ((fun q => hz q.symm) : ¬ ((0 : Int32) = p0))).2 (by decide) (by decide) ?_
    show Steps p.tables e below (T5.setTop (mkF m 31 #[.val (.int p0), .val (.ref al), .val (.int (11 : Int32)), .val (.int (1 : Int32)), .val (.ref en1)] [])) _
    refine XS.iinc X5.here hx rfl (hb hby d1_31) rfl (l' := #[.val (.int p0), .val (.ref al), .val (.int (11 : Int32)), .val (.int (2 : Int32)), .val (.ref en1)]) rfl ?_
    show Steps p.tables e below (T5.setTop (mkF m 34 #[.val (.int p0), .val (.ref al), .val (.int (11 : Int32)), .val (.int (2 : Int32)), .val (.ref en1)] [])) _
    refine XS.goto X5.here hx rfl (pc0 := 34) (pc' := 9) rfl (hb hby d1_34) (by decide) (by decide) ?_
    show Steps p.tables e below (T5.setTop (mkF m 9 #[.val (.int p0), .val (.ref al), .val (.int (11 : Int32)), .val (.int (2 : Int32)), .val (.ref en1)] [])) _
    refine XS.iloadN X5.here hx rfl (hb hby d1_9) rfl  ?_
    show Steps p.tables e below (T5.setTop (mkF m 10 #[.val (.int p0), .val (.ref al), .val (.int (11 : Int32)), .val (.int (2 : Int32)), .val (.ref en1)] [(.int (2 : Int32))])) _
    refine XS.iloadN X5.here hx rfl (hb hby d1_10) rfl  ?_
    show Steps p.tables e below (T5.setTop (mkF m 11 #[.val (.int p0), .val (.ref al), .val (.int (11 : Int32)), .val (.int (2 : Int32)), .val (.ref en1)] [(.int (11 : Int32)), (.int (2 : Int32))])) _
    refine XS.icmpNo X5.here hx rfl (hb hby d1_11) rfl (tlt (by decide : (2 : Int32) < (11 : Int32))).2.1 ?_
    show Steps p.tables e below (T5.setTop (mkF m 14 #[.val (.int p0), .val (.ref al), .val (.int (11 : Int32)), .val (.int (2 : Int32)), .val (.ref en1)] [])) _
    refine XS.aloadN X5.here hx rfl (hb hby d1_14) rfl rfl ?_
    show Steps p.tables e below (T5.setTop (mkF m 15 #[.val (.int p0), .val (.ref al), .val (.int (11 : Int32)), .val (.int (2 : Int32)), .val (.ref en1)] [(.ref al)])) _
    refine XS.iloadN X5.here hx rfl (hb hby d1_15) rfl  ?_
    show Steps p.tables e below (T5.setTop (mkF m 16 #[.val (.int p0), .val (.ref al), .val (.int (11 : Int32)), .val (.int (2 : Int32)), .val (.ref en1)] [(.int (2 : Int32)), (.ref al)])) _
    refine own_ldR X5 hx hZ e5 A_al rfl (j := (2 : Int32)) (k := 2) (v := .ref en2) rfl (by decide) (by decide) (by decide) (g := (mkF m 16 #[.val (.int p0), .val (.ref al), .val (.int (11 : Int32)), .val (.int (2 : Int32)), .val (.ref en1)] [(.int (2 : Int32)), (.ref al)])) rfl rfl (hb hby d1_16) ?_
    show Steps p.tables e below (T5.setTop (mkF m 17 #[.val (.int p0), .val (.ref al), .val (.int (11 : Int32)), .val (.int (2 : Int32)), .val (.ref en1)] [(.ref en2)])) _
    refine XS.astore X5.here hx rfl (hb hby d1_17) rfl rfl (l' := #[.val (.int p0), .val (.ref al), .val (.int (11 : Int32)), .val (.int (2 : Int32)), .val (.ref en2)]) rfl ?_
    show Steps p.tables e below (T5.setTop (mkF m 19 #[.val (.int p0), .val (.ref al), .val (.int (11 : Int32)), .val (.int (2 : Int32)), .val (.ref en2)] [])) _
    refine XS.aload X5.here hx rfl (hb hby d1_19) rfl rfl ?_
    exact k
  obtain ⟨T7, X7, e7, st7⟩ := getF X5 hx hZ hown (host := "") (Or.inl (hw _ (List.mem_of_getElem? (i := 8) rfl))) Via.refl e5 F_en2_status (g := (mkF m 21 #[.val (.int p0), .val (.ref al), .val (.int (11 : Int32)), .val (.int (2 : Int32)), .val (.ref en2)] [(.ref en2)])) rfl rfl (hb hby d1_21)
  have pre8 : ∀ t, Steps p.tables e below (T7.setTop (mkF m 21 #[.val (.int p0), .val (.ref al), .val (.int (11 : Int32)), .val (.int (3 : Int32)), .val (.ref en3)] [(.ref en3)])) t → Steps p.tables e below (s₁.setTop (entryFrame m #[(.int p0)] 5)) t := by
    intro t k
    refine pre6 t ?_
    show Steps p.tables e below (T5.setTop (mkF m 21 #[.val (.int p0), .val (.ref al), .val (.int (11 : Int32)), .val (.int (2 : Int32)), .val (.ref en2)] [(.ref en2)])) _
    refine st7 _ ?_
    show Steps p.tables e below (T7.setTop (mkF m 24 #[.val (.int p0), .val (.ref al), .val (.int (11 : Int32)), .val (.int (2 : Int32)), .val (.ref en2)] [(.int (0 : Int32))])) _
    refine XS.iloadN X7.here hx rfl (hb hby d1_24) rfl  ?_
    show Steps p.tables e below (T7.setTop (mkF m 25 #[.val (.int p0), .val (.ref al), .val (.int (11 : Int32)), .val (.int (2 : Int32)), .val (.ref en2)] [(.int p0), (.int (0 : Int32))])) _
    refine XS.icmpYes X7.here hx rfl (pc0 := 25) (pc' := 31) rfl (hb hby d1_25) rfl (feq ((fun q => hz q.symm) : ¬ ((0 : Int32) = p0))).2 (by decide) (by decide) ?_
    show Steps p.tables e below (T7.setTop (mkF m 31 #[.val (.int p0), .val (.ref al), .val (.int (11 : Int32)), .val (.int (2 : Int32)), .val (.ref en2)] [])) _
    refine XS.iinc X7.here hx rfl (hb hby d1_31) rfl (l' := #[.val (.int p0), .val (.ref al), .val (.int (11 : Int32)), .val (.int (3 : Int32)), .val (.ref en2)]) rfl ?_
    show Steps p.tables e below (T7.setTop (mkF m 34 #[.val (.int p0), .val (.ref al), .val (.int (11 : Int32)), .val (.int (3 : Int32)), .val (.ref en2)] [])) _
    refine XS.goto X7.here hx rfl (pc0 := 34) (pc' := 9) rfl (hb hby d1_34) (by decide) (by decide) ?_
    show Steps p.tables e below (T7.setTop (mkF m 9 #[.val (.int p0), .val (.ref al), .val (.int (11 : Int32)), .val (.int (3 : Int32)), .val (.ref en2)] [])) _
    refine XS.iloadN X7.here hx rfl (hb hby d1_9) rfl  ?_
    show Steps p.tables e below (T7.setTop (mkF m 10 #[.val (.int p0), .val (.ref al), .val (.int (11 : Int32)), .val (.int (3 : Int32)), .val (.ref en2)] [(.int (3 : Int32))])) _
    refine XS.iloadN X7.here hx rfl (hb hby d1_10) rfl  ?_
    show Steps p.tables e below (T7.setTop (mkF m 11 #[.val (.int p0), .val (.ref al), .val (.int (11 : Int32)), .val (.int (3 : Int32)), .val (.ref en2)] [(.int (11 : Int32)), (.int (3 : Int32))])) _
    refine XS.icmpNo X7.here hx rfl (hb hby d1_11) rfl (tlt (by decide : (3 : Int32) < (11 : Int32))).2.1 ?_
    show Steps p.tables e below (T7.setTop (mkF m 14 #[.val (.int p0), .val (.ref al), .val (.int (11 : Int32)), .val (.int (3 : Int32)), .val (.ref en2)] [])) _
    refine XS.aloadN X7.here hx rfl (hb hby d1_14) rfl rfl ?_
    show Steps p.tables e below (T7.setTop (mkF m 15 #[.val (.int p0), .val (.ref al), .val (.int (11 : Int32)), .val (.int (3 : Int32)), .val (.ref en2)] [(.ref al)])) _
    refine XS.iloadN X7.here hx rfl (hb hby d1_15) rfl  ?_
    show Steps p.tables e below (T7.setTop (mkF m 16 #[.val (.int p0), .val (.ref al), .val (.int (11 : Int32)), .val (.int (3 : Int32)), .val (.ref en2)] [(.int (3 : Int32)), (.ref al)])) _
    refine own_ldR X7 hx hZ e7 A_al rfl (j := (3 : Int32)) (k := 3) (v := .ref en3) rfl (by decide) (by decide) (by decide) (g := (mkF m 16 #[.val (.int p0), .val (.ref al), .val (.int (11 : Int32)), .val (.int (3 : Int32)), .val (.ref en2)] [(.int (3 : Int32)), (.ref al)])) rfl rfl (hb hby d1_16) ?_
    show Steps p.tables e below (T7.setTop (mkF m 17 #[.val (.int p0), .val (.ref al), .val (.int (11 : Int32)), .val (.int (3 : Int32)), .val (.ref en2)] [(.ref en3)])) _
    refine XS.astore X7.here hx rfl (hb hby d1_17) rfl rfl (l' := #[.val (.int p0), .val (.ref al), .val (.int (11 : Int32)), .val (.int (3 : Int32)), .val (.ref en3)]) rfl ?_
    show Steps p.tables e below (T7.setTop (mkF m 19 #[.val (.int p0), .val (.ref al), .val (.int (11 : Int32)), .val (.int (3 : Int32)), .val (.ref en3)] [])) _
    refine XS.aload X7.here hx rfl (hb hby d1_19) rfl rfl ?_
    exact k
  obtain ⟨T9, X9, e9, st9⟩ := getF X7 hx hZ hown (host := "") (Or.inl (hw _ (List.mem_of_getElem? (i := 8) rfl))) Via.refl e7 F_en3_status (g := (mkF m 21 #[.val (.int p0), .val (.ref al), .val (.int (11 : Int32)), .val (.int (3 : Int32)), .val (.ref en3)] [(.ref en3)])) rfl rfl (hb hby d1_21)
  have pre10 : ∀ t, Steps p.tables e below (T9.setTop (mkF m 21 #[.val (.int p0), .val (.ref al), .val (.int (11 : Int32)), .val (.int (4 : Int32)), .val (.ref en4)] [(.ref en4)])) t → Steps p.tables e below (s₁.setTop (entryFrame m #[(.int p0)] 5)) t := by
    intro t k
    refine pre8 t ?_
    show Steps p.tables e below (T7.setTop (mkF m 21 #[.val (.int p0), .val (.ref al), .val (.int (11 : Int32)), .val (.int (3 : Int32)), .val (.ref en3)] [(.ref en3)])) _
    refine st9 _ ?_
    show Steps p.tables e below (T9.setTop (mkF m 24 #[.val (.int p0), .val (.ref al), .val (.int (11 : Int32)), .val (.int (3 : Int32)), .val (.ref en3)] [(.int (500 : Int32))])) _
    refine XS.iloadN X9.here hx rfl (hb hby d1_24) rfl  ?_
    show Steps p.tables e below (T9.setTop (mkF m 25 #[.val (.int p0), .val (.ref al), .val (.int (11 : Int32)), .val (.int (3 : Int32)), .val (.ref en3)] [(.int p0), (.int (500 : Int32))])) _
    refine XS.icmpYes X9.here hx rfl (pc0 := 25) (pc' := 31) rfl (hb hby d1_25) rfl (feq ((fun q => h500 q.symm) : ¬ ((500 : Int32) = p0))).2 (by decide) (by decide) ?_
    show Steps p.tables e below (T9.setTop (mkF m 31 #[.val (.int p0), .val (.ref al), .val (.int (11 : Int32)), .val (.int (3 : Int32)), .val (.ref en3)] [])) _
    refine XS.iinc X9.here hx rfl (hb hby d1_31) rfl (l' := #[.val (.int p0), .val (.ref al), .val (.int (11 : Int32)), .val (.int (4 : Int32)), .val (.ref en3)]) rfl ?_
    show Steps p.tables e below (T9.setTop (mkF m 34 #[.val (.int p0), .val (.ref al), .val (.int (11 : Int32)), .val (.int (4 : Int32)), .val (.ref en3)] [])) _
    refine XS.goto X9.here hx rfl (pc0 := 34) (pc' := 9) rfl (hb hby d1_34) (by decide) (by decide) ?_
    show Steps p.tables e below (T9.setTop (mkF m 9 #[.val (.int p0), .val (.ref al), .val (.int (11 : Int32)), .val (.int (4 : Int32)), .val (.ref en3)] [])) _
    refine XS.iloadN X9.here hx rfl (hb hby d1_9) rfl  ?_
    show Steps p.tables e below (T9.setTop (mkF m 10 #[.val (.int p0), .val (.ref al), .val (.int (11 : Int32)), .val (.int (4 : Int32)), .val (.ref en3)] [(.int (4 : Int32))])) _
    refine XS.iloadN X9.here hx rfl (hb hby d1_10) rfl  ?_
    show Steps p.tables e below (T9.setTop (mkF m 11 #[.val (.int p0), .val (.ref al), .val (.int (11 : Int32)), .val (.int (4 : Int32)), .val (.ref en3)] [(.int (11 : Int32)), (.int (4 : Int32))])) _
    refine XS.icmpNo X9.here hx rfl (hb hby d1_11) rfl (tlt (by decide : (4 : Int32) < (11 : Int32))).2.1 ?_
    show Steps p.tables e below (T9.setTop (mkF m 14 #[.val (.int p0), .val (.ref al), .val (.int (11 : Int32)), .val (.int (4 : Int32)), .val (.ref en3)] [])) _
    refine XS.aloadN X9.here hx rfl (hb hby d1_14) rfl rfl ?_
    show Steps p.tables e below (T9.setTop (mkF m 15 #[.val (.int p0), .val (.ref al), .val (.int (11 : Int32)), .val (.int (4 : Int32)), .val (.ref en3)] [(.ref al)])) _
    refine XS.iloadN X9.here hx rfl (hb hby d1_15) rfl  ?_
    show Steps p.tables e below (T9.setTop (mkF m 16 #[.val (.int p0), .val (.ref al), .val (.int (11 : Int32)), .val (.int (4 : Int32)), .val (.ref en3)] [(.int (4 : Int32)), (.ref al)])) _
    refine own_ldR X9 hx hZ e9 A_al rfl (j := (4 : Int32)) (k := 4) (v := .ref en4) rfl (by decide) (by decide) (by decide) (g := (mkF m 16 #[.val (.int p0), .val (.ref al), .val (.int (11 : Int32)), .val (.int (4 : Int32)), .val (.ref en3)] [(.int (4 : Int32)), (.ref al)])) rfl rfl (hb hby d1_16) ?_
    show Steps p.tables e below (T9.setTop (mkF m 17 #[.val (.int p0), .val (.ref al), .val (.int (11 : Int32)), .val (.int (4 : Int32)), .val (.ref en3)] [(.ref en4)])) _
    refine XS.astore X9.here hx rfl (hb hby d1_17) rfl rfl (l' := #[.val (.int p0), .val (.ref al), .val (.int (11 : Int32)), .val (.int (4 : Int32)), .val (.ref en4)]) rfl ?_
    show Steps p.tables e below (T9.setTop (mkF m 19 #[.val (.int p0), .val (.ref al), .val (.int (11 : Int32)), .val (.int (4 : Int32)), .val (.ref en4)] [])) _
    refine XS.aload X9.here hx rfl (hb hby d1_19) rfl rfl ?_
    exact k
  obtain ⟨T11, X11, e11, st11⟩ := getF X9 hx hZ hown (host := "") (Or.inl (hw _ (List.mem_of_getElem? (i := 8) rfl))) Via.refl e9 F_en4_status (g := (mkF m 21 #[.val (.int p0), .val (.ref al), .val (.int (11 : Int32)), .val (.int (4 : Int32)), .val (.ref en4)] [(.ref en4)])) rfl rfl (hb hby d1_21)
  have pre12 : ∀ t, Steps p.tables e below (T11.setTop (mkF m 21 #[.val (.int p0), .val (.ref al), .val (.int (11 : Int32)), .val (.int (5 : Int32)), .val (.ref en5)] [(.ref en5)])) t → Steps p.tables e below (s₁.setTop (entryFrame m #[(.int p0)] 5)) t := by
    intro t k
    refine pre10 t ?_
    show Steps p.tables e below (T9.setTop (mkF m 21 #[.val (.int p0), .val (.ref al), .val (.int (11 : Int32)), .val (.int (4 : Int32)), .val (.ref en4)] [(.ref en4)])) _
    refine st11 _ ?_
    show Steps p.tables e below (T11.setTop (mkF m 24 #[.val (.int p0), .val (.ref al), .val (.int (11 : Int32)), .val (.int (4 : Int32)), .val (.ref en4)] [(.int (502 : Int32))])) _
    refine XS.iloadN X11.here hx rfl (hb hby d1_24) rfl  ?_
    show Steps p.tables e below (T11.setTop (mkF m 25 #[.val (.int p0), .val (.ref al), .val (.int (11 : Int32)), .val (.int (4 : Int32)), .val (.ref en4)] [(.int p0), (.int (502 : Int32))])) _
    refine XS.icmpYes X11.here hx rfl (pc0 := 25) (pc' := 31) rfl (hb hby d1_25) rfl (feq ((fun q => h502 q.symm) : ¬ ((502 : Int32) = p0))).2 (by decide) (by decide) ?_
    show Steps p.tables e below (T11.setTop (mkF m 31 #[.val (.int p0), .val (.ref al), .val (.int (11 : Int32)), .val (.int (4 : Int32)), .val (.ref en4)] [])) _
    refine XS.iinc X11.here hx rfl (hb hby d1_31) rfl (l' := #[.val (.int p0), .val (.ref al), .val (.int (11 : Int32)), .val (.int (5 : Int32)), .val (.ref en4)]) rfl ?_
    show Steps p.tables e below (T11.setTop (mkF m 34 #[.val (.int p0), .val (.ref al), .val (.int (11 : Int32)), .val (.int (5 : Int32)), .val (.ref en4)] [])) _
    refine XS.goto X11.here hx rfl (pc0 := 34) (pc' := 9) rfl (hb hby d1_34) (by decide) (by decide) ?_
    show Steps p.tables e below (T11.setTop (mkF m 9 #[.val (.int p0), .val (.ref al), .val (.int (11 : Int32)), .val (.int (5 : Int32)), .val (.ref en4)] [])) _
    refine XS.iloadN X11.here hx rfl (hb hby d1_9) rfl  ?_
    show Steps p.tables e below (T11.setTop (mkF m 10 #[.val (.int p0), .val (.ref al), .val (.int (11 : Int32)), .val (.int (5 : Int32)), .val (.ref en4)] [(.int (5 : Int32))])) _
    refine XS.iloadN X11.here hx rfl (hb hby d1_10) rfl  ?_
    show Steps p.tables e below (T11.setTop (mkF m 11 #[.val (.int p0), .val (.ref al), .val (.int (11 : Int32)), .val (.int (5 : Int32)), .val (.ref en4)] [(.int (11 : Int32)), (.int (5 : Int32))])) _
    refine XS.icmpNo X11.here hx rfl (hb hby d1_11) rfl (tlt (by decide : (5 : Int32) < (11 : Int32))).2.1 ?_
    show Steps p.tables e below (T11.setTop (mkF m 14 #[.val (.int p0), .val (.ref al), .val (.int (11 : Int32)), .val (.int (5 : Int32)), .val (.ref en4)] [])) _
    refine XS.aloadN X11.here hx rfl (hb hby d1_14) rfl rfl ?_
    show Steps p.tables e below (T11.setTop (mkF m 15 #[.val (.int p0), .val (.ref al), .val (.int (11 : Int32)), .val (.int (5 : Int32)), .val (.ref en4)] [(.ref al)])) _
    refine XS.iloadN X11.here hx rfl (hb hby d1_15) rfl  ?_
    show Steps p.tables e below (T11.setTop (mkF m 16 #[.val (.int p0), .val (.ref al), .val (.int (11 : Int32)), .val (.int (5 : Int32)), .val (.ref en4)] [(.int (5 : Int32)), (.ref al)])) _
    refine own_ldR X11 hx hZ e11 A_al rfl (j := (5 : Int32)) (k := 5) (v := .ref en5) rfl (by decide) (by decide) (by decide) (g := (mkF m 16 #[.val (.int p0), .val (.ref al), .val (.int (11 : Int32)), .val (.int (5 : Int32)), .val (.ref en4)] [(.int (5 : Int32)), (.ref al)])) rfl rfl (hb hby d1_16) ?_
    show Steps p.tables e below (T11.setTop (mkF m 17 #[.val (.int p0), .val (.ref al), .val (.int (11 : Int32)), .val (.int (5 : Int32)), .val (.ref en4)] [(.ref en5)])) _
    refine XS.astore X11.here hx rfl (hb hby d1_17) rfl rfl (l' := #[.val (.int p0), .val (.ref al), .val (.int (11 : Int32)), .val (.int (5 : Int32)), .val (.ref en5)]) rfl ?_
    show Steps p.tables e below (T11.setTop (mkF m 19 #[.val (.int p0), .val (.ref al), .val (.int (11 : Int32)), .val (.int (5 : Int32)), .val (.ref en5)] [])) _
    refine XS.aload X11.here hx rfl (hb hby d1_19) rfl rfl ?_
    exact k
  obtain ⟨T13, X13, e13, st13⟩ := getF X11 hx hZ hown (host := "") (Or.inl (hw _ (List.mem_of_getElem? (i := 8) rfl))) Via.refl e11 F_en5_status (g := (mkF m 21 #[.val (.int p0), .val (.ref al), .val (.int (11 : Int32)), .val (.int (5 : Int32)), .val (.ref en5)] [(.ref en5)])) rfl rfl (hb hby d1_21)
  have pre14 : ∀ t, Steps p.tables e below (T13.setTop (mkF m 21 #[.val (.int p0), .val (.ref al), .val (.int (11 : Int32)), .val (.int (6 : Int32)), .val (.ref en6)] [(.ref en6)])) t → Steps p.tables e below (s₁.setTop (entryFrame m #[(.int p0)] 5)) t := by
    intro t k
    refine pre12 t ?_
    show Steps p.tables e below (T11.setTop (mkF m 21 #[.val (.int p0), .val (.ref al), .val (.int (11 : Int32)), .val (.int (5 : Int32)), .val (.ref en5)] [(.ref en5)])) _
    refine st13 _ ?_
    show Steps p.tables e below (T13.setTop (mkF m 24 #[.val (.int p0), .val (.ref al), .val (.int (11 : Int32)), .val (.int (5 : Int32)), .val (.ref en5)] [(.int (503 : Int32))])) _
    refine XS.iloadN X13.here hx rfl (hb hby d1_24) rfl  ?_
    show Steps p.tables e below (T13.setTop (mkF m 25 #[.val (.int p0), .val (.ref al), .val (.int (11 : Int32)), .val (.int (5 : Int32)), .val (.ref en5)] [(.int p0), (.int (503 : Int32))])) _
    refine XS.icmpYes X13.here hx rfl (pc0 := 25) (pc' := 31) rfl (hb hby d1_25) rfl (feq ((fun q => h503 q.symm) : ¬ ((503 : Int32) = p0))).2 (by decide) (by decide) ?_
    show Steps p.tables e below (T13.setTop (mkF m 31 #[.val (.int p0), .val (.ref al), .val (.int (11 : Int32)), .val (.int (5 : Int32)), .val (.ref en5)] [])) _
    refine XS.iinc X13.here hx rfl (hb hby d1_31) rfl (l' := #[.val (.int p0), .val (.ref al), .val (.int (11 : Int32)), .val (.int (6 : Int32)), .val (.ref en5)]) rfl ?_
    show Steps p.tables e below (T13.setTop (mkF m 34 #[.val (.int p0), .val (.ref al), .val (.int (11 : Int32)), .val (.int (6 : Int32)), .val (.ref en5)] [])) _
    refine XS.goto X13.here hx rfl (pc0 := 34) (pc' := 9) rfl (hb hby d1_34) (by decide) (by decide) ?_
    show Steps p.tables e below (T13.setTop (mkF m 9 #[.val (.int p0), .val (.ref al), .val (.int (11 : Int32)), .val (.int (6 : Int32)), .val (.ref en5)] [])) _
    refine XS.iloadN X13.here hx rfl (hb hby d1_9) rfl  ?_
    show Steps p.tables e below (T13.setTop (mkF m 10 #[.val (.int p0), .val (.ref al), .val (.int (11 : Int32)), .val (.int (6 : Int32)), .val (.ref en5)] [(.int (6 : Int32))])) _
    refine XS.iloadN X13.here hx rfl (hb hby d1_10) rfl  ?_
    show Steps p.tables e below (T13.setTop (mkF m 11 #[.val (.int p0), .val (.ref al), .val (.int (11 : Int32)), .val (.int (6 : Int32)), .val (.ref en5)] [(.int (11 : Int32)), (.int (6 : Int32))])) _
    refine XS.icmpNo X13.here hx rfl (hb hby d1_11) rfl (tlt (by decide : (6 : Int32) < (11 : Int32))).2.1 ?_
    show Steps p.tables e below (T13.setTop (mkF m 14 #[.val (.int p0), .val (.ref al), .val (.int (11 : Int32)), .val (.int (6 : Int32)), .val (.ref en5)] [])) _
    refine XS.aloadN X13.here hx rfl (hb hby d1_14) rfl rfl ?_
    show Steps p.tables e below (T13.setTop (mkF m 15 #[.val (.int p0), .val (.ref al), .val (.int (11 : Int32)), .val (.int (6 : Int32)), .val (.ref en5)] [(.ref al)])) _
    refine XS.iloadN X13.here hx rfl (hb hby d1_15) rfl  ?_
    show Steps p.tables e below (T13.setTop (mkF m 16 #[.val (.int p0), .val (.ref al), .val (.int (11 : Int32)), .val (.int (6 : Int32)), .val (.ref en5)] [(.int (6 : Int32)), (.ref al)])) _
    refine own_ldR X13 hx hZ e13 A_al rfl (j := (6 : Int32)) (k := 6) (v := .ref en6) rfl (by decide) (by decide) (by decide) (g := (mkF m 16 #[.val (.int p0), .val (.ref al), .val (.int (11 : Int32)), .val (.int (6 : Int32)), .val (.ref en5)] [(.int (6 : Int32)), (.ref al)])) rfl rfl (hb hby d1_16) ?_
    show Steps p.tables e below (T13.setTop (mkF m 17 #[.val (.int p0), .val (.ref al), .val (.int (11 : Int32)), .val (.int (6 : Int32)), .val (.ref en5)] [(.ref en6)])) _
    refine XS.astore X13.here hx rfl (hb hby d1_17) rfl rfl (l' := #[.val (.int p0), .val (.ref al), .val (.int (11 : Int32)), .val (.int (6 : Int32)), .val (.ref en6)]) rfl ?_
    show Steps p.tables e below (T13.setTop (mkF m 19 #[.val (.int p0), .val (.ref al), .val (.int (11 : Int32)), .val (.int (6 : Int32)), .val (.ref en6)] [])) _
    refine XS.aload X13.here hx rfl (hb hby d1_19) rfl rfl ?_
    exact k
  obtain ⟨T15, X15, e15, st15⟩ := getF X13 hx hZ hown (host := "") (Or.inl (hw _ (List.mem_of_getElem? (i := 8) rfl))) Via.refl e13 F_en6_status (g := (mkF m 21 #[.val (.int p0), .val (.ref al), .val (.int (11 : Int32)), .val (.int (6 : Int32)), .val (.ref en6)] [(.ref en6)])) rfl rfl (hb hby d1_21)
  have pre16 : ∀ t, Steps p.tables e below (T15.setTop (mkF m 21 #[.val (.int p0), .val (.ref al), .val (.int (11 : Int32)), .val (.int (7 : Int32)), .val (.ref en7)] [(.ref en7)])) t → Steps p.tables e below (s₁.setTop (entryFrame m #[(.int p0)] 5)) t := by
    intro t k
    refine pre14 t ?_
    show Steps p.tables e below (T13.setTop (mkF m 21 #[.val (.int p0), .val (.ref al), .val (.int (11 : Int32)), .val (.int (6 : Int32)), .val (.ref en6)] [(.ref en6)])) _
    refine st15 _ ?_
    show Steps p.tables e below (T15.setTop (mkF m 24 #[.val (.int p0), .val (.ref al), .val (.int (11 : Int32)), .val (.int (6 : Int32)), .val (.ref en6)] [(.int (504 : Int32))])) _
    refine XS.iloadN X15.here hx rfl (hb hby d1_24) rfl  ?_
    show Steps p.tables e below (T15.setTop (mkF m 25 #[.val (.int p0), .val (.ref al), .val (.int (11 : Int32)), .val (.int (6 : Int32)), .val (.ref en6)] [(.int p0), (.int (504 : Int32))])) _
    refine XS.icmpYes X15.here hx rfl (pc0 := 25) (pc' := 31) rfl (hb hby d1_25) rfl (feq ((fun q => h504 q.symm) : ¬ ((504 : Int32) = p0))).2 (by decide) (by decide) ?_
    show Steps p.tables e below (T15.setTop (mkF m 31 #[.val (.int p0), .val (.ref al), .val (.int (11 : Int32)), .val (.int (6 : Int32)), .val (.ref en6)] [])) _
    refine XS.iinc X15.here hx rfl (hb hby d1_31) rfl (l' := #[.val (.int p0), .val (.ref al), .val (.int (11 : Int32)), .val (.int (7 : Int32)), .val (.ref en6)]) rfl ?_
    show Steps p.tables e below (T15.setTop (mkF m 34 #[.val (.int p0), .val (.ref al), .val (.int (11 : Int32)), .val (.int (7 : Int32)), .val (.ref en6)] [])) _
    refine XS.goto X15.here hx rfl (pc0 := 34) (pc' := 9) rfl (hb hby d1_34) (by decide) (by decide) ?_
    show Steps p.tables e below (T15.setTop (mkF m 9 #[.val (.int p0), .val (.ref al), .val (.int (11 : Int32)), .val (.int (7 : Int32)), .val (.ref en6)] [])) _
    refine XS.iloadN X15.here hx rfl (hb hby d1_9) rfl  ?_
    show Steps p.tables e below (T15.setTop (mkF m 10 #[.val (.int p0), .val (.ref al), .val (.int (11 : Int32)), .val (.int (7 : Int32)), .val (.ref en6)] [(.int (7 : Int32))])) _
    refine XS.iloadN X15.here hx rfl (hb hby d1_10) rfl  ?_
    show Steps p.tables e below (T15.setTop (mkF m 11 #[.val (.int p0), .val (.ref al), .val (.int (11 : Int32)), .val (.int (7 : Int32)), .val (.ref en6)] [(.int (11 : Int32)), (.int (7 : Int32))])) _
    refine XS.icmpNo X15.here hx rfl (hb hby d1_11) rfl (tlt (by decide : (7 : Int32) < (11 : Int32))).2.1 ?_
    show Steps p.tables e below (T15.setTop (mkF m 14 #[.val (.int p0), .val (.ref al), .val (.int (11 : Int32)), .val (.int (7 : Int32)), .val (.ref en6)] [])) _
    refine XS.aloadN X15.here hx rfl (hb hby d1_14) rfl rfl ?_
    show Steps p.tables e below (T15.setTop (mkF m 15 #[.val (.int p0), .val (.ref al), .val (.int (11 : Int32)), .val (.int (7 : Int32)), .val (.ref en6)] [(.ref al)])) _
    refine XS.iloadN X15.here hx rfl (hb hby d1_15) rfl  ?_
    show Steps p.tables e below (T15.setTop (mkF m 16 #[.val (.int p0), .val (.ref al), .val (.int (11 : Int32)), .val (.int (7 : Int32)), .val (.ref en6)] [(.int (7 : Int32)), (.ref al)])) _
    refine own_ldR X15 hx hZ e15 A_al rfl (j := (7 : Int32)) (k := 7) (v := .ref en7) rfl (by decide) (by decide) (by decide) (g := (mkF m 16 #[.val (.int p0), .val (.ref al), .val (.int (11 : Int32)), .val (.int (7 : Int32)), .val (.ref en6)] [(.int (7 : Int32)), (.ref al)])) rfl rfl (hb hby d1_16) ?_
    show Steps p.tables e below (T15.setTop (mkF m 17 #[.val (.int p0), .val (.ref al), .val (.int (11 : Int32)), .val (.int (7 : Int32)), .val (.ref en6)] [(.ref en7)])) _
    refine XS.astore X15.here hx rfl (hb hby d1_17) rfl rfl (l' := #[.val (.int p0), .val (.ref al), .val (.int (11 : Int32)), .val (.int (7 : Int32)), .val (.ref en7)]) rfl ?_
    show Steps p.tables e below (T15.setTop (mkF m 19 #[.val (.int p0), .val (.ref al), .val (.int (11 : Int32)), .val (.int (7 : Int32)), .val (.ref en7)] [])) _
    refine XS.aload X15.here hx rfl (hb hby d1_19) rfl rfl ?_
    exact k
  obtain ⟨T17, X17, e17, st17⟩ := getF X15 hx hZ hown (host := "") (Or.inl (hw _ (List.mem_of_getElem? (i := 8) rfl))) Via.refl e15 F_en7_status (g := (mkF m 21 #[.val (.int p0), .val (.ref al), .val (.int (11 : Int32)), .val (.int (7 : Int32)), .val (.ref en7)] [(.ref en7)])) rfl rfl (hb hby d1_21)
  have pre18 : ∀ t, Steps p.tables e below (T17.setTop (mkF m 21 #[.val (.int p0), .val (.ref al), .val (.int (11 : Int32)), .val (.int (8 : Int32)), .val (.ref en8)] [(.ref en8)])) t → Steps p.tables e below (s₁.setTop (entryFrame m #[(.int p0)] 5)) t := by
    intro t k
    refine pre16 t ?_
    show Steps p.tables e below (T15.setTop (mkF m 21 #[.val (.int p0), .val (.ref al), .val (.int (11 : Int32)), .val (.int (7 : Int32)), .val (.ref en7)] [(.ref en7)])) _
    refine st17 _ ?_
    show Steps p.tables e below (T17.setTop (mkF m 24 #[.val (.int p0), .val (.ref al), .val (.int (11 : Int32)), .val (.int (7 : Int32)), .val (.ref en7)] [(.int (403 : Int32))])) _
    refine XS.iloadN X17.here hx rfl (hb hby d1_24) rfl  ?_
    show Steps p.tables e below (T17.setTop (mkF m 25 #[.val (.int p0), .val (.ref al), .val (.int (11 : Int32)), .val (.int (7 : Int32)), .val (.ref en7)] [(.int p0), (.int (403 : Int32))])) _
    refine XS.icmpYes X17.here hx rfl (pc0 := 25) (pc' := 31) rfl (hb hby d1_25) rfl (feq ((fun q => h403 q.symm) : ¬ ((403 : Int32) = p0))).2 (by decide) (by decide) ?_
    show Steps p.tables e below (T17.setTop (mkF m 31 #[.val (.int p0), .val (.ref al), .val (.int (11 : Int32)), .val (.int (7 : Int32)), .val (.ref en7)] [])) _
    refine XS.iinc X17.here hx rfl (hb hby d1_31) rfl (l' := #[.val (.int p0), .val (.ref al), .val (.int (11 : Int32)), .val (.int (8 : Int32)), .val (.ref en7)]) rfl ?_
    show Steps p.tables e below (T17.setTop (mkF m 34 #[.val (.int p0), .val (.ref al), .val (.int (11 : Int32)), .val (.int (8 : Int32)), .val (.ref en7)] [])) _
    refine XS.goto X17.here hx rfl (pc0 := 34) (pc' := 9) rfl (hb hby d1_34) (by decide) (by decide) ?_
    show Steps p.tables e below (T17.setTop (mkF m 9 #[.val (.int p0), .val (.ref al), .val (.int (11 : Int32)), .val (.int (8 : Int32)), .val (.ref en7)] [])) _
    refine XS.iloadN X17.here hx rfl (hb hby d1_9) rfl  ?_
    show Steps p.tables e below (T17.setTop (mkF m 10 #[.val (.int p0), .val (.ref al), .val (.int (11 : Int32)), .val (.int (8 : Int32)), .val (.ref en7)] [(.int (8 : Int32))])) _
    refine XS.iloadN X17.here hx rfl (hb hby d1_10) rfl  ?_
    show Steps p.tables e below (T17.setTop (mkF m 11 #[.val (.int p0), .val (.ref al), .val (.int (11 : Int32)), .val (.int (8 : Int32)), .val (.ref en7)] [(.int (11 : Int32)), (.int (8 : Int32))])) _
    refine XS.icmpNo X17.here hx rfl (hb hby d1_11) rfl (tlt (by decide : (8 : Int32) < (11 : Int32))).2.1 ?_
    show Steps p.tables e below (T17.setTop (mkF m 14 #[.val (.int p0), .val (.ref al), .val (.int (11 : Int32)), .val (.int (8 : Int32)), .val (.ref en7)] [])) _
    refine XS.aloadN X17.here hx rfl (hb hby d1_14) rfl rfl ?_
    show Steps p.tables e below (T17.setTop (mkF m 15 #[.val (.int p0), .val (.ref al), .val (.int (11 : Int32)), .val (.int (8 : Int32)), .val (.ref en7)] [(.ref al)])) _
    refine XS.iloadN X17.here hx rfl (hb hby d1_15) rfl  ?_
    show Steps p.tables e below (T17.setTop (mkF m 16 #[.val (.int p0), .val (.ref al), .val (.int (11 : Int32)), .val (.int (8 : Int32)), .val (.ref en7)] [(.int (8 : Int32)), (.ref al)])) _
    refine own_ldR X17 hx hZ e17 A_al rfl (j := (8 : Int32)) (k := 8) (v := .ref en8) rfl (by decide) (by decide) (by decide) (g := (mkF m 16 #[.val (.int p0), .val (.ref al), .val (.int (11 : Int32)), .val (.int (8 : Int32)), .val (.ref en7)] [(.int (8 : Int32)), (.ref al)])) rfl rfl (hb hby d1_16) ?_
    show Steps p.tables e below (T17.setTop (mkF m 17 #[.val (.int p0), .val (.ref al), .val (.int (11 : Int32)), .val (.int (8 : Int32)), .val (.ref en7)] [(.ref en8)])) _
    refine XS.astore X17.here hx rfl (hb hby d1_17) rfl rfl (l' := #[.val (.int p0), .val (.ref al), .val (.int (11 : Int32)), .val (.int (8 : Int32)), .val (.ref en8)]) rfl ?_
    show Steps p.tables e below (T17.setTop (mkF m 19 #[.val (.int p0), .val (.ref al), .val (.int (11 : Int32)), .val (.int (8 : Int32)), .val (.ref en8)] [])) _
    refine XS.aload X17.here hx rfl (hb hby d1_19) rfl rfl ?_
    exact k
  obtain ⟨T19, X19, e19, st19⟩ := getF X17 hx hZ hown (host := "") (Or.inl (hw _ (List.mem_of_getElem? (i := 8) rfl))) Via.refl e17 F_en8_status (g := (mkF m 21 #[.val (.int p0), .val (.ref al), .val (.int (11 : Int32)), .val (.int (8 : Int32)), .val (.ref en8)] [(.ref en8)])) rfl rfl (hb hby d1_21)
  have pre20 : ∀ t, Steps p.tables e below (T19.setTop (mkF m 21 #[.val (.int p0), .val (.ref al), .val (.int (11 : Int32)), .val (.int (9 : Int32)), .val (.ref en9)] [(.ref en9)])) t → Steps p.tables e below (s₁.setTop (entryFrame m #[(.int p0)] 5)) t := by
    intro t k
    refine pre18 t ?_
    show Steps p.tables e below (T17.setTop (mkF m 21 #[.val (.int p0), .val (.ref al), .val (.int (11 : Int32)), .val (.int (8 : Int32)), .val (.ref en8)] [(.ref en8)])) _
    refine st19 _ ?_
    show Steps p.tables e below (T19.setTop (mkF m 24 #[.val (.int p0), .val (.ref al), .val (.int (11 : Int32)), .val (.int (8 : Int32)), .val (.ref en8)] [(.int (404 : Int32))])) _
    refine XS.iloadN X19.here hx rfl (hb hby d1_24) rfl  ?_
    show Steps p.tables e below (T19.setTop (mkF m 25 #[.val (.int p0), .val (.ref al), .val (.int (11 : Int32)), .val (.int (8 : Int32)), .val (.ref en8)] [(.int p0), (.int (404 : Int32))])) _
    refine XS.icmpYes X19.here hx rfl (pc0 := 25) (pc' := 31) rfl (hb hby d1_25) rfl (feq ((fun q => h404 q.symm) : ¬ ((404 : Int32) = p0))).2 (by decide) (by decide) ?_
    show Steps p.tables e below (T19.setTop (mkF m 31 #[.val (.int p0), .val (.ref al), .val (.int (11 : Int32)), .val (.int (8 : Int32)), .val (.ref en8)] [])) _
    refine XS.iinc X19.here hx rfl (hb hby d1_31) rfl (l' := #[.val (.int p0), .val (.ref al), .val (.int (11 : Int32)), .val (.int (9 : Int32)), .val (.ref en8)]) rfl ?_
    show Steps p.tables e below (T19.setTop (mkF m 34 #[.val (.int p0), .val (.ref al), .val (.int (11 : Int32)), .val (.int (9 : Int32)), .val (.ref en8)] [])) _
    refine XS.goto X19.here hx rfl (pc0 := 34) (pc' := 9) rfl (hb hby d1_34) (by decide) (by decide) ?_
    show Steps p.tables e below (T19.setTop (mkF m 9 #[.val (.int p0), .val (.ref al), .val (.int (11 : Int32)), .val (.int (9 : Int32)), .val (.ref en8)] [])) _
    refine XS.iloadN X19.here hx rfl (hb hby d1_9) rfl  ?_
    show Steps p.tables e below (T19.setTop (mkF m 10 #[.val (.int p0), .val (.ref al), .val (.int (11 : Int32)), .val (.int (9 : Int32)), .val (.ref en8)] [(.int (9 : Int32))])) _
    refine XS.iloadN X19.here hx rfl (hb hby d1_10) rfl  ?_
    show Steps p.tables e below (T19.setTop (mkF m 11 #[.val (.int p0), .val (.ref al), .val (.int (11 : Int32)), .val (.int (9 : Int32)), .val (.ref en8)] [(.int (11 : Int32)), (.int (9 : Int32))])) _
    refine XS.icmpNo X19.here hx rfl (hb hby d1_11) rfl (tlt (by decide : (9 : Int32) < (11 : Int32))).2.1 ?_
    show Steps p.tables e below (T19.setTop (mkF m 14 #[.val (.int p0), .val (.ref al), .val (.int (11 : Int32)), .val (.int (9 : Int32)), .val (.ref en8)] [])) _
    refine XS.aloadN X19.here hx rfl (hb hby d1_14) rfl rfl ?_
    show Steps p.tables e below (T19.setTop (mkF m 15 #[.val (.int p0), .val (.ref al), .val (.int (11 : Int32)), .val (.int (9 : Int32)), .val (.ref en8)] [(.ref al)])) _
    refine XS.iloadN X19.here hx rfl (hb hby d1_15) rfl  ?_
    show Steps p.tables e below (T19.setTop (mkF m 16 #[.val (.int p0), .val (.ref al), .val (.int (11 : Int32)), .val (.int (9 : Int32)), .val (.ref en8)] [(.int (9 : Int32)), (.ref al)])) _
    refine own_ldR X19 hx hZ e19 A_al rfl (j := (9 : Int32)) (k := 9) (v := .ref en9) rfl (by decide) (by decide) (by decide) (g := (mkF m 16 #[.val (.int p0), .val (.ref al), .val (.int (11 : Int32)), .val (.int (9 : Int32)), .val (.ref en8)] [(.int (9 : Int32)), (.ref al)])) rfl rfl (hb hby d1_16) ?_
    show Steps p.tables e below (T19.setTop (mkF m 17 #[.val (.int p0), .val (.ref al), .val (.int (11 : Int32)), .val (.int (9 : Int32)), .val (.ref en8)] [(.ref en9)])) _
    refine XS.astore X19.here hx rfl (hb hby d1_17) rfl rfl (l' := #[.val (.int p0), .val (.ref al), .val (.int (11 : Int32)), .val (.int (9 : Int32)), .val (.ref en9)]) rfl ?_
    show Steps p.tables e below (T19.setTop (mkF m 19 #[.val (.int p0), .val (.ref al), .val (.int (11 : Int32)), .val (.int (9 : Int32)), .val (.ref en9)] [])) _
    refine XS.aload X19.here hx rfl (hb hby d1_19) rfl rfl ?_
    exact k
  obtain ⟨T21, X21, e21, st21⟩ := getF X19 hx hZ hown (host := "") (Or.inl (hw _ (List.mem_of_getElem? (i := 8) rfl))) Via.refl e19 F_en9_status (g := (mkF m 21 #[.val (.int p0), .val (.ref al), .val (.int (11 : Int32)), .val (.int (9 : Int32)), .val (.ref en9)] [(.ref en9)])) rfl rfl (hb hby d1_21)
  have pre22 : ∀ t, Steps p.tables e below (T21.setTop (mkF m 21 #[.val (.int p0), .val (.ref al), .val (.int (11 : Int32)), .val (.int (10 : Int32)), .val (.ref en10)] [(.ref en10)])) t → Steps p.tables e below (s₁.setTop (entryFrame m #[(.int p0)] 5)) t := by
    intro t k
    refine pre20 t ?_
    show Steps p.tables e below (T19.setTop (mkF m 21 #[.val (.int p0), .val (.ref al), .val (.int (11 : Int32)), .val (.int (9 : Int32)), .val (.ref en9)] [(.ref en9)])) _
    refine st21 _ ?_
    show Steps p.tables e below (T21.setTop (mkF m 24 #[.val (.int p0), .val (.ref al), .val (.int (11 : Int32)), .val (.int (9 : Int32)), .val (.ref en9)] [(.int (429 : Int32))])) _
    refine XS.iloadN X21.here hx rfl (hb hby d1_24) rfl  ?_
    show Steps p.tables e below (T21.setTop (mkF m 25 #[.val (.int p0), .val (.ref al), .val (.int (11 : Int32)), .val (.int (9 : Int32)), .val (.ref en9)] [(.int p0), (.int (429 : Int32))])) _
    refine XS.icmpYes X21.here hx rfl (pc0 := 25) (pc' := 31) rfl (hb hby d1_25) rfl (feq ((fun q => h429 q.symm) : ¬ ((429 : Int32) = p0))).2 (by decide) (by decide) ?_
    show Steps p.tables e below (T21.setTop (mkF m 31 #[.val (.int p0), .val (.ref al), .val (.int (11 : Int32)), .val (.int (9 : Int32)), .val (.ref en9)] [])) _
    refine XS.iinc X21.here hx rfl (hb hby d1_31) rfl (l' := #[.val (.int p0), .val (.ref al), .val (.int (11 : Int32)), .val (.int (10 : Int32)), .val (.ref en9)]) rfl ?_
    show Steps p.tables e below (T21.setTop (mkF m 34 #[.val (.int p0), .val (.ref al), .val (.int (11 : Int32)), .val (.int (10 : Int32)), .val (.ref en9)] [])) _
    refine XS.goto X21.here hx rfl (pc0 := 34) (pc' := 9) rfl (hb hby d1_34) (by decide) (by decide) ?_
    show Steps p.tables e below (T21.setTop (mkF m 9 #[.val (.int p0), .val (.ref al), .val (.int (11 : Int32)), .val (.int (10 : Int32)), .val (.ref en9)] [])) _
    refine XS.iloadN X21.here hx rfl (hb hby d1_9) rfl  ?_
    show Steps p.tables e below (T21.setTop (mkF m 10 #[.val (.int p0), .val (.ref al), .val (.int (11 : Int32)), .val (.int (10 : Int32)), .val (.ref en9)] [(.int (10 : Int32))])) _
    refine XS.iloadN X21.here hx rfl (hb hby d1_10) rfl  ?_
    show Steps p.tables e below (T21.setTop (mkF m 11 #[.val (.int p0), .val (.ref al), .val (.int (11 : Int32)), .val (.int (10 : Int32)), .val (.ref en9)] [(.int (11 : Int32)), (.int (10 : Int32))])) _
    refine XS.icmpNo X21.here hx rfl (hb hby d1_11) rfl (tlt (by decide : (10 : Int32) < (11 : Int32))).2.1 ?_
    show Steps p.tables e below (T21.setTop (mkF m 14 #[.val (.int p0), .val (.ref al), .val (.int (11 : Int32)), .val (.int (10 : Int32)), .val (.ref en9)] [])) _
    refine XS.aloadN X21.here hx rfl (hb hby d1_14) rfl rfl ?_
    show Steps p.tables e below (T21.setTop (mkF m 15 #[.val (.int p0), .val (.ref al), .val (.int (11 : Int32)), .val (.int (10 : Int32)), .val (.ref en9)] [(.ref al)])) _
    refine XS.iloadN X21.here hx rfl (hb hby d1_15) rfl  ?_
    show Steps p.tables e below (T21.setTop (mkF m 16 #[.val (.int p0), .val (.ref al), .val (.int (11 : Int32)), .val (.int (10 : Int32)), .val (.ref en9)] [(.int (10 : Int32)), (.ref al)])) _
    refine own_ldR X21 hx hZ e21 A_al rfl (j := (10 : Int32)) (k := 10) (v := .ref en10) rfl (by decide) (by decide) (by decide) (g := (mkF m 16 #[.val (.int p0), .val (.ref al), .val (.int (11 : Int32)), .val (.int (10 : Int32)), .val (.ref en9)] [(.int (10 : Int32)), (.ref al)])) rfl rfl (hb hby d1_16) ?_
    show Steps p.tables e below (T21.setTop (mkF m 17 #[.val (.int p0), .val (.ref al), .val (.int (11 : Int32)), .val (.int (10 : Int32)), .val (.ref en9)] [(.ref en10)])) _
    refine XS.astore X21.here hx rfl (hb hby d1_17) rfl rfl (l' := #[.val (.int p0), .val (.ref al), .val (.int (11 : Int32)), .val (.int (10 : Int32)), .val (.ref en10)]) rfl ?_
    show Steps p.tables e below (T21.setTop (mkF m 19 #[.val (.int p0), .val (.ref al), .val (.int (11 : Int32)), .val (.int (10 : Int32)), .val (.ref en10)] [])) _
    refine XS.aload X21.here hx rfl (hb hby d1_19) rfl rfl ?_
    exact k
  obtain ⟨T23, X23, e23, st23⟩ := getF X21 hx hZ hown (host := "") (Or.inl (hw _ (List.mem_of_getElem? (i := 8) rfl))) Via.refl e21 F_en10_status (g := (mkF m 21 #[.val (.int p0), .val (.ref al), .val (.int (11 : Int32)), .val (.int (10 : Int32)), .val (.ref en10)] [(.ref en10)])) rfl rfl (hb hby d1_21)
  obtain ⟨fs, hr, hrun, hended, hW, hsame⟩ := X23.leave (v := some .null) (fun h => by rw [Bd.returns] at h; cases h) (BodyLoose.notSynchronized Bd)
  refine ⟨_, _, pre22 _ ?_, hrun, hended, _, _, rfl, ?_, ⟨_, rfl⟩, hW, hsame.mono (by decide) (by decide)⟩
  · show Steps p.tables e below (T21.setTop (mkF m 21 #[.val (.int p0), .val (.ref al), .val (.int (11 : Int32)), .val (.int (10 : Int32)), .val (.ref en10)] [(.ref en10)])) _
    refine st23 _ ?_
    show Steps p.tables e below (T23.setTop (mkF m 24 #[.val (.int p0), .val (.ref al), .val (.int (11 : Int32)), .val (.int (10 : Int32)), .val (.ref en10)] [(.int (0 : Int32))])) _
    refine XS.iloadN X23.here hx rfl (hb hby d1_24) rfl  ?_
    show Steps p.tables e below (T23.setTop (mkF m 25 #[.val (.int p0), .val (.ref al), .val (.int (11 : Int32)), .val (.int (10 : Int32)), .val (.ref en10)] [(.int p0), (.int (0 : Int32))])) _
    refine XS.icmpYes X23.here hx rfl (pc0 := 25) (pc' := 31) rfl (hb hby d1_25) rfl (feq ((fun q => hz q.symm) : ¬ ((0 : Int32) = p0))).2 (by decide) (by decide) ?_
    show Steps p.tables e below (T23.setTop (mkF m 31 #[.val (.int p0), .val (.ref al), .val (.int (11 : Int32)), .val (.int (10 : Int32)), .val (.ref en10)] [])) _
    refine XS.iinc X23.here hx rfl (hb hby d1_31) rfl (l' := #[.val (.int p0), .val (.ref al), .val (.int (11 : Int32)), .val (.int (11 : Int32)), .val (.ref en10)]) rfl ?_
    show Steps p.tables e below (T23.setTop (mkF m 34 #[.val (.int p0), .val (.ref al), .val (.int (11 : Int32)), .val (.int (11 : Int32)), .val (.ref en10)] [])) _
    refine XS.goto X23.here hx rfl (pc0 := 34) (pc' := 9) rfl (hb hby d1_34) (by decide) (by decide) ?_
    show Steps p.tables e below (T23.setTop (mkF m 9 #[.val (.int p0), .val (.ref al), .val (.int (11 : Int32)), .val (.int (11 : Int32)), .val (.ref en10)] [])) _
    refine XS.iloadN X23.here hx rfl (hb hby d1_9) rfl  ?_
    show Steps p.tables e below (T23.setTop (mkF m 10 #[.val (.int p0), .val (.ref al), .val (.int (11 : Int32)), .val (.int (11 : Int32)), .val (.ref en10)] [(.int (11 : Int32))])) _
    refine XS.iloadN X23.here hx rfl (hb hby d1_10) rfl  ?_
    show Steps p.tables e below (T23.setTop (mkF m 11 #[.val (.int p0), .val (.ref al), .val (.int (11 : Int32)), .val (.int (11 : Int32)), .val (.ref en10)] [(.int (11 : Int32)), (.int (11 : Int32))])) _
    refine XS.icmpYes X23.here hx rfl (pc0 := 11) (pc' := 37) rfl (hb hby d1_11) rfl (flt (by decide : ¬ ((11 : Int32) < (11 : Int32)))).2.1 (by decide) (by decide) ?_
    show Steps p.tables e below (T23.setTop (mkF m 37 #[.val (.int p0), .val (.ref al), .val (.int (11 : Int32)), .val (.int (11 : Int32)), .val (.ref en10)] [])) _
    refine XS.aconstNull X23.here hx rfl (hb hby d1_37) ?_
    show Steps p.tables e below (T23.setTop (mkF m 38 #[.val (.int p0), .val (.ref al), .val (.int (11 : Int32)), .val (.int (11 : Int32)), .val (.ref en10)] [.null])) _
    exact retOut X23 hx Bd.returns rfl (Or.inr (Or.inr (Or.inr (Or.inr ⟨rfl, rfl, rfl⟩)))) (hb hby d1_38) hr
  · show Q_1tn Z p0 en0 en1 en2 en3 en4 en5 en6 en7 en8 en9 en10 al h0 n0 _ T23.heap _
    rw [e23]
    exact ⟨rfl, N0, rfl⟩
theorem d2_77 : decode method_3_code 77 = .ok (.aconst_null, 1) := by decide +kernel
theorem d2_78 : decode method_3_code 78 = .ok (.areturn, 1) := by decide +kernel
theorem ef_2tn (m : MethodId) (p0 : Int32) : entryFrame m #[(.int p0)] 1 = mkF m 0 #[.val (.int p0)] [] := by first | (simp [entryFrame, mkF, argsToLocals, Value.category]; done) | rfl
def Q_2tn (Z : State) (p0 : Int32) (en0 : Addr) (en1 : Addr) (en2 : Addr) (en3 : Addr) (en4 : Addr) (en5 : Addr) (en6 : Addr) (en7 : Addr) (en8 : Addr) (en9 : Addr) (en10 : Addr) (h0 : Heap) (n0 : Nat) (v : Option Value) (h : Heap) (L : List Loc) : Prop := v = some .null ∧ Fr n0 L ∧ h = h0
set_option maxRecDepth 65536 in
set_option maxHeartbeats 40000000 in
theorem rm_2tn (l : Launch) (Z : State) (a0 : Array Value) (hw : ∀ d ∈ tables_1, d.before a0 Z = true) (ws : List Jvm.Cond) (p0 : Int32) (en0 : Addr) (en1 : Addr) (en2 : Addr) (en3 : Addr) (en4 : Addr) (en5 : Addr) (en6 : Addr) (en7 : Addr) (en8 : Addr) (en9 : Addr) (en10 : Addr) (h0 : Heap) (n0 : Nat) (Z0 : n0 ≤ h0.size) (S_ERROR : Sta Z h0 "com/example/fanoutd/fanoutd/proxy/NextUpstream$Condition" "ERROR" "Lcom/example/fanoutd/fanoutd/proxy/NextUpstream$Condition;" (.ref en0)) (S_TIMEOUT : Sta Z h0 "com/example/fanoutd/fanoutd/proxy/NextUpstream$Condition" "TIMEOUT" "Lcom/example/fanoutd/fanoutd/proxy/NextUpstream$Condition;" (.ref en1)) (S_INVALID_HEADER : Sta Z h0 "com/example/fanoutd/fanoutd/proxy/NextUpstream$Condition" "INVALID_HEADER" "Lcom/example/fanoutd/fanoutd/proxy/NextUpstream$Condition;" (.ref en2)) (S_HTTP_500 : Sta Z h0 "com/example/fanoutd/fanoutd/proxy/NextUpstream$Condition" "HTTP_500" "Lcom/example/fanoutd/fanoutd/proxy/NextUpstream$Condition;" (.ref en3)) (S_HTTP_502 : Sta Z h0 "com/example/fanoutd/fanoutd/proxy/NextUpstream$Condition" "HTTP_502" "Lcom/example/fanoutd/fanoutd/proxy/NextUpstream$Condition;" (.ref en4)) (S_HTTP_503 : Sta Z h0 "com/example/fanoutd/fanoutd/proxy/NextUpstream$Condition" "HTTP_503" "Lcom/example/fanoutd/fanoutd/proxy/NextUpstream$Condition;" (.ref en5)) (S_HTTP_504 : Sta Z h0 "com/example/fanoutd/fanoutd/proxy/NextUpstream$Condition" "HTTP_504" "Lcom/example/fanoutd/fanoutd/proxy/NextUpstream$Condition;" (.ref en6)) (S_HTTP_403 : Sta Z h0 "com/example/fanoutd/fanoutd/proxy/NextUpstream$Condition" "HTTP_403" "Lcom/example/fanoutd/fanoutd/proxy/NextUpstream$Condition;" (.ref en7)) (S_HTTP_404 : Sta Z h0 "com/example/fanoutd/fanoutd/proxy/NextUpstream$Condition" "HTTP_404" "Lcom/example/fanoutd/fanoutd/proxy/NextUpstream$Condition;" (.ref en8)) (S_HTTP_429 : Sta Z h0 "com/example/fanoutd/fanoutd/proxy/NextUpstream$Condition" "HTTP_429" "Lcom/example/fanoutd/fanoutd/proxy/NextUpstream$Condition;" (.ref en9)) (S_NON_IDEMPOTENT : Sta Z h0 "com/example/fanoutd/fanoutd/proxy/NextUpstream$Condition" "NON_IDEMPOTENT" "Lcom/example/fanoutd/fanoutd/proxy/NextUpstream$Condition;" (.ref en10)) (hz : ¬ p0 = (0 : Int32)) (h403 : ¬ p0 = (403 : Int32)) (h404 : ¬ p0 = (404 : Int32)) (h429 : ¬ p0 = (429 : Int32)) (h500 : ¬ p0 = (500 : Int32)) (h502 : ¬ p0 = (502 : Int32)) (h503 : ¬ p0 = (503 : Int32)) (h504 : ¬ p0 = (504 : Int32)) :
    MetFree l (⟨"com/example/fanoutd/fanoutd/proxy/ConditionOfStatusPinLaw", "expected", "(I)Lcom/example/fanoutd/fanoutd/proxy/NextUpstream$Condition;"⟩ : MethodName) (head1 (Jvm.Cond.code (⟨"com/example/fanoutd/fanoutd/proxy/ConditionOfStatusPinLaw", "expected", "(I)Lcom/example/fanoutd/fanoutd/proxy/NextUpstream$Condition;"⟩ : MethodName) method_3_code 1 (some (.object "com/example/fanoutd/fanoutd/proxy/NextUpstream$Condition")) :: ws) ({ frames := 0, cells := 0, slots := 0, locals := 0 } : Room)) (fun a U => a = #[(.int p0)] ∧ Z.Warmed39 U.vm ∧ U.heap = h0) (fun _ _ _ _ _ => True) (fun _ U o U' => ∃ v L, o = .returned v ∧ Q_2tn Z p0 en0 en1 en2 en3 en4 en5 en6 en7 en8 en9 en10 h0 n0 v U'.heap L ∧ FrameEnd U o U' L ({ frames := 0, cells := 0, slots := 0, locals := 0 } : Room).cells ({ frames := 0, cells := 0, slots := 0, locals := 0 } : Room).slots) := by
  refine MetFree.of_bodySF (plainFor_of_name pn_2) hisR ?_
  intro p e s m args below meth c s₁ Bd hml0 hP hK
  obtain ⟨rfl, hZ, hh⟩ := hP
  have hx := Bd.exec
  have hby := Bd.bytes
  have hml : c.maxLocals = 1 := hml0
  have hown : s.vm.findClass "com/example/fanoutd/fanoutd/proxy/ConditionOfStatusPinLaw" = some m.cls := findClass_of_methodNamed Bd.named
  have hnm := (name_of_methodNamed Bd.named Bd.method).1
  have X0 : Stand p l e ({ frames := 0, cells := 0, slots := 0, locals := 0 } : Room) s m #[(.int p0)] below meth c s₁ [] 0 0 := Stand.of_body Bd
  have e0 : s₁.heap = h0 := by rw [← hh, Bd.state]; rfl
  have N0 := Fr.nil n0
  have K0 : Keep h0 h0 [] := Keep.refl h0 _
  have pre0 : ∀ t, Steps p.tables e below (s₁.setTop (mkF m 0 #[.val (.int p0)] [])) t → Steps p.tables e below (s₁.setTop (entryFrame m #[(.int p0)] 1)) t := fun t k => castTop (ef_2tn m p0) k
  obtain ⟨fs, hr, hrun, hended, hW, hsame⟩ := X0.leave (v := some .null) (fun h => by rw [Bd.returns] at h; cases h) (BodyLoose.notSynchronized Bd)
  refine ⟨_, _, pre0 _ ?_, hrun, hended, _, _, rfl, ?_, ⟨_, rfl⟩, hW, hsame.mono (by decide) (by decide)⟩
  · show Steps p.tables e below (s₁.setTop (mkF m 0 #[.val (.int p0)] [])) _
    refine XS.iloadN X0.here hx rfl (hb hby d2_0) rfl  ?_
    show Steps p.tables e below (s₁.setTop (mkF m 1 #[.val (.int p0)] [(.int p0)])) _
    refine XS.sipush X0.here hx rfl (hb hby d2_1) ?_
    show Steps p.tables e below (s₁.setTop (mkF m 4 #[.val (.int p0)] [(.int (403 : Int32)), (.int p0)])) _
    refine XS.icmpYes X0.here hx rfl (pc0 := 4) (pc' := 11) rfl (hb hby d2_4) rfl (feq (h403 : ¬ (p0 = (403 : Int32)))).2 (by decide) (by decide) ?_
    show Steps p.tables e below (s₁.setTop (mkF m 11 #[.val (.int p0)] [])) _
    refine XS.iloadN X0.here hx rfl (hb hby d2_11) rfl  ?_
    show Steps p.tables e below (s₁.setTop (mkF m 12 #[.val (.int p0)] [(.int p0)])) _
    refine XS.sipush X0.here hx rfl (hb hby d2_12) ?_
    show Steps p.tables e below (s₁.setTop (mkF m 15 #[.val (.int p0)] [(.int (404 : Int32)), (.int p0)])) _
    refine XS.icmpYes X0.here hx rfl (pc0 := 15) (pc' := 22) rfl (hb hby d2_15) rfl (feq (h404 : ¬ (p0 = (404 : Int32)))).2 (by decide) (by decide) ?_
    show Steps p.tables e below (s₁.setTop (mkF m 22 #[.val (.int p0)] [])) _
    refine XS.iloadN X0.here hx rfl (hb hby d2_22) rfl  ?_
    show Steps p.tables e below (s₁.setTop (mkF m 23 #[.val (.int p0)] [(.int p0)])) _
    refine XS.sipush X0.here hx rfl (hb hby d2_23) ?_
    show Steps p.tables e below (s₁.setTop (mkF m 26 #[.val (.int p0)] [(.int (429 : Int32)), (.int p0)])) _
    refine XS.icmpYes X0.here hx rfl (pc0 := 26) (pc' := 33) rfl (hb hby d2_26) rfl (feq (h429 : ¬ (p0 = (429 : Int32)))).2 (by decide) (by decide) ?_
    show Steps p.tables e below (s₁.setTop (mkF m 33 #[.val (.int p0)] [])) _
    refine XS.iloadN X0.here hx rfl (hb hby d2_33) rfl  ?_
    show Steps p.tables e below (s₁.setTop (mkF m 34 #[.val (.int p0)] [(.int p0)])) _
    refine XS.sipush X0.here hx rfl (hb hby d2_34) ?_
    show Steps p.tables e below (s₁.setTop (mkF m 37 #[.val (.int p0)] [(.int (500 : Int32)), (.int p0)])) _
    refine XS.icmpYes X0.here hx rfl (pc0 := 37) (pc' := 44) rfl (hb hby d2_37) rfl (feq (h500 : ¬ (p0 = (500 : Int32)))).2 (by decide) (by decide) ?_
    show Steps p.tables e below (s₁.setTop (mkF m 44 #[.val (.int p0)] [])) _
    refine XS.iloadN X0.here hx rfl (hb hby d2_44) rfl  ?_
    show Steps p.tables e below (s₁.setTop (mkF m 45 #[.val (.int p0)] [(.int p0)])) _
    refine XS.sipush X0.here hx rfl (hb hby d2_45) ?_
    show Steps p.tables e below (s₁.setTop (mkF m 48 #[.val (.int p0)] [(.int (502 : Int32)), (.int p0)])) _
    refine XS.icmpYes X0.here hx rfl (pc0 := 48) (pc' := 55) rfl (hb hby d2_48) rfl (feq (h502 : ¬ (p0 = (502 : Int32)))).2 (by decide) (by decide) ?_
    show Steps p.tables e below (s₁.setTop (mkF m 55 #[.val (.int p0)] [])) _
    refine XS.iloadN X0.here hx rfl (hb hby d2_55) rfl  ?_
    show Steps p.tables e below (s₁.setTop (mkF m 56 #[.val (.int p0)] [(.int p0)])) _
    refine XS.sipush X0.here hx rfl (hb hby d2_56) ?_
    show Steps p.tables e below (s₁.setTop (mkF m 59 #[.val (.int p0)] [(.int (503 : Int32)), (.int p0)])) _
    refine XS.icmpYes X0.here hx rfl (pc0 := 59) (pc' := 66) rfl (hb hby d2_59) rfl (feq (h503 : ¬ (p0 = (503 : Int32)))).2 (by decide) (by decide) ?_
    show Steps p.tables e below (s₁.setTop (mkF m 66 #[.val (.int p0)] [])) _
    refine XS.iloadN X0.here hx rfl (hb hby d2_66) rfl  ?_
    show Steps p.tables e below (s₁.setTop (mkF m 67 #[.val (.int p0)] [(.int p0)])) _
    refine XS.sipush X0.here hx rfl (hb hby d2_67) ?_
    show Steps p.tables e below (s₁.setTop (mkF m 70 #[.val (.int p0)] [(.int (504 : Int32)), (.int p0)])) _
    refine XS.icmpYes X0.here hx rfl (pc0 := 70) (pc' := 77) rfl (hb hby d2_70) rfl (feq (h504 : ¬ (p0 = (504 : Int32)))).2 (by decide) (by decide) ?_
    show Steps p.tables e below (s₁.setTop (mkF m 77 #[.val (.int p0)] [])) _
    refine XS.aconstNull X0.here hx rfl (hb hby d2_77) ?_
    show Steps p.tables e below (s₁.setTop (mkF m 78 #[.val (.int p0)] [.null])) _
    exact retOut X0 hx Bd.returns rfl (Or.inr (Or.inr (Or.inr (Or.inr ⟨rfl, rfl, rfl⟩)))) (hb hby d2_78) hr
  · show Q_2tn Z p0 en0 en1 en2 en3 en4 en5 en6 en7 en8 en9 en10 h0 n0 _ s₁.heap _
    rw [e0]
    exact ⟨rfl, N0, rfl⟩
theorem own_kn_eq (i : Nat) (hi : i < 7) : (own_upd (own_upd (own_upd (own_upd (own_upd (own_upd (own_upd own_zI 0 (403 : Int32)) 1 (404 : Int32)) 2 (429 : Int32)) 3 (500 : Int32)) 4 (502 : Int32)) 5 (503 : Int32)) 6 (504 : Int32)) i = own_kn i := by
  revert i
  decide +kernel
theorem own_ki (p : Int32) {v : Int32} (hv : v = (p &&& (15 : Int32))) : ¬ v < 0 ∧ (v < (7 : Int32) → v.toNatClampNeg < 7) := by
  have a := c_mask p 15 4 (by decide) (by decide)
  rw [← hv] at a
  have l0 : (0 : Int32).toInt = 0 := by decide
  have l7 : (7 : Int32).toInt = 7 := by decide
  have n1 : ¬ v < 0 := by rw [Int32.lt_iff_toInt_lt]; omega
  have n2 := nat_of n1
  exact ⟨n1, fun h => by rw [Int32.lt_iff_toInt_lt] at h; omega⟩
theorem own_knr (i : Nat) : i < 7 → 403 ≤ (own_kn i).toInt ∧ (own_kn i).toInt ≤ 504 := by
  revert i
  decide +kernel
theorem own_nz (v x : Int32) (hv : ¬ v < 0) : ¬ (if v < (7 : Int32) then (((own_kn v.toNatClampNeg) + (x &&& (3 : Int32))) - (1 : Int32)) else ((100 : Int32) + ((x &&& (2147483647 : Int32)) % (500 : Int32)))) = (0 : Int32) := by
  by_cases h : v < (7 : Int32)
  · rw [if_pos h]
    have n2 := nat_of hv
    have l7 : (7 : Int32).toInt = 7 := by decide
    have h' := h
    rw [Int32.lt_iff_toInt_lt] at h'
    have k := own_knr v.toNatClampNeg (by omega)
    generalize own_kn v.toNatClampNeg = w at *
    have a1 := c_mask x 3 2 (by decide) (by decide)
    have a2 := c_iadd w (x &&& 3)
    have r2 := rng32 (w + (x &&& 3))
    have a3 := c_isub (w + (x &&& 3)) 1
    have r3 := rng32 (w + (x &&& 3) - 1)
    have l1 : (1 : Int32).toInt = 1 := by decide
    have l0 : (0 : Int32).toInt = 0 := by decide
    rw [← Int32.toInt_inj]
    omega
  · rw [if_neg h]
    have a1 := c_mask x 2147483647 31 (by decide) (by decide)
    have a2 := (c_irem (x &&& 2147483647) 500 500 (by decide)).1 (by omega)
    have a3 := c_iadd 100 ((x &&& 2147483647) % 500)
    have r3 := rng32 (100 + ((x &&& 2147483647) % 500))
    have l1 : (100 : Int32).toInt = 100 := by decide
    have l0 : (0 : Int32).toInt = 0 := by decide
    rw [← Int32.toInt_inj]
    omega
theorem pd_0 : parseMethodDescriptor "(I)Lcom/example/fanoutd/fanoutd/proxy/NextUpstream$Condition;" = some ⟨[.int], some (.object "com/example/fanoutd/fanoutd/proxy/NextUpstream$Condition")⟩ := by decide +kernel
theorem pn_0 : plainName "com/example/fanoutd/fanoutd/proxy/ConditionOfStatusPinLaw" = true := by first | (simp [plainName, overriddenIn]; done) | decide +kernel
theorem ef_0 (m : MethodId) (p0 : Int32) (p1 : Int32) : entryFrame m #[(.int p0), (.int p1)] maxLocals = mkF m 0 #[.val (.int p0), .val (.int p1), .unset, .unset, .unset, .unset] [] := by first | (simp [entryFrame, mkF, argsToLocals, Value.category, maxLocals]; done) | rfl
def f_0 (p0 : Int32) (p1 : Int32) : Int32 := let g_9 : Nat → Int32 := (own_upd own_zI 0 (403 : Int32)); let g_15 : Nat → Int32 := (own_upd g_9 1 (404 : Int32)); let g_21 : Nat → Int32 := (own_upd g_15 2 (429 : Int32)); let g_27 : Nat → Int32 := (own_upd g_21 3 (500 : Int32)); let g_33 : Nat → Int32 := (own_upd g_27 4 (502 : Int32)); let g_39 : Nat → Int32 := (own_upd g_33 5 (503 : Int32)); let g_46 : Nat → Int32 := (own_upd g_39 6 (504 : Int32)); let v3_52 : Int32 := (p0 &&& (15 : Int32)); let m4_86 : Int32 := (if v3_52 < (7 : Int32) then (((own_kn v3_52.toNatClampNeg) + (p1 &&& (3 : Int32))) - (1 : Int32)) else ((100 : Int32) + ((p1 &&& (2147483647 : Int32)) % (500 : Int32)))); (if m4_86 = (403 : Int32) then (1 : Int32) else (if m4_86 = (404 : Int32) then (1 : Int32) else (if m4_86 = (429 : Int32) then (1 : Int32) else (if m4_86 = (500 : Int32) then (1 : Int32) else (if m4_86 = (502 : Int32) then (1 : Int32) else (if m4_86 = (503 : Int32) then (1 : Int32) else (if m4_86 = (504 : Int32) then (1 : Int32) else (1 : Int32))))))))
def Q_0 (Z : State) (p0 : Int32) (p1 : Int32) (en0 : Addr) (en1 : Addr) (en2 : Addr) (en3 : Addr) (en4 : Addr) (en5 : Addr) (en6 : Addr) (en7 : Addr) (en8 : Addr) (en9 : Addr) (en10 : Addr) (al : Addr) (h0 : Heap) (n0 : Nat) (v : Option Value) (h : Heap) (L : List Loc) : Prop := v = some (.int (f_0 p0 p1)) ∧ Fr n0 L ∧ True
set_option maxRecDepth 65536 in
set_option maxHeartbeats 40000000 in
theorem rm_0 (l : Launch) (Z : State) (a0 : Array Value) (hw : ∀ d ∈ tables_1, d.before a0 Z = true) (ws : List Jvm.Cond) (p0 : Int32) (p1 : Int32) (en0 : Addr) (en1 : Addr) (en2 : Addr) (en3 : Addr) (en4 : Addr) (en5 : Addr) (en6 : Addr) (en7 : Addr) (en8 : Addr) (en9 : Addr) (en10 : Addr) (al : Addr) (h0 : Heap) (n0 : Nat) (Z0 : n0 ≤ h0.size) (S_ERROR : Sta Z h0 "com/example/fanoutd/fanoutd/proxy/NextUpstream$Condition" "ERROR" "Lcom/example/fanoutd/fanoutd/proxy/NextUpstream$Condition;" (.ref en0)) (S_TIMEOUT : Sta Z h0 "com/example/fanoutd/fanoutd/proxy/NextUpstream$Condition" "TIMEOUT" "Lcom/example/fanoutd/fanoutd/proxy/NextUpstream$Condition;" (.ref en1)) (S_INVALID_HEADER : Sta Z h0 "com/example/fanoutd/fanoutd/proxy/NextUpstream$Condition" "INVALID_HEADER" "Lcom/example/fanoutd/fanoutd/proxy/NextUpstream$Condition;" (.ref en2)) (S_HTTP_500 : Sta Z h0 "com/example/fanoutd/fanoutd/proxy/NextUpstream$Condition" "HTTP_500" "Lcom/example/fanoutd/fanoutd/proxy/NextUpstream$Condition;" (.ref en3)) (S_HTTP_502 : Sta Z h0 "com/example/fanoutd/fanoutd/proxy/NextUpstream$Condition" "HTTP_502" "Lcom/example/fanoutd/fanoutd/proxy/NextUpstream$Condition;" (.ref en4)) (S_HTTP_503 : Sta Z h0 "com/example/fanoutd/fanoutd/proxy/NextUpstream$Condition" "HTTP_503" "Lcom/example/fanoutd/fanoutd/proxy/NextUpstream$Condition;" (.ref en5)) (S_HTTP_504 : Sta Z h0 "com/example/fanoutd/fanoutd/proxy/NextUpstream$Condition" "HTTP_504" "Lcom/example/fanoutd/fanoutd/proxy/NextUpstream$Condition;" (.ref en6)) (S_HTTP_403 : Sta Z h0 "com/example/fanoutd/fanoutd/proxy/NextUpstream$Condition" "HTTP_403" "Lcom/example/fanoutd/fanoutd/proxy/NextUpstream$Condition;" (.ref en7)) (S_HTTP_404 : Sta Z h0 "com/example/fanoutd/fanoutd/proxy/NextUpstream$Condition" "HTTP_404" "Lcom/example/fanoutd/fanoutd/proxy/NextUpstream$Condition;" (.ref en8)) (S_HTTP_429 : Sta Z h0 "com/example/fanoutd/fanoutd/proxy/NextUpstream$Condition" "HTTP_429" "Lcom/example/fanoutd/fanoutd/proxy/NextUpstream$Condition;" (.ref en9)) (S_NON_IDEMPOTENT : Sta Z h0 "com/example/fanoutd/fanoutd/proxy/NextUpstream$Condition" "NON_IDEMPOTENT" "Lcom/example/fanoutd/fanoutd/proxy/NextUpstream$Condition;" (.ref en10)) (S_ALL : Sta Z h0 "com/example/fanoutd/fanoutd/proxy/NextUpstream$Condition" "ALL" "[Lcom/example/fanoutd/fanoutd/proxy/NextUpstream$Condition;" (.ref al)) (A_al : own_A Z h0 al (.object "com/example/fanoutd/fanoutd/proxy/NextUpstream$Condition") 11 (fun i => (own_l en0 en1 en2 en3 en4 en5 en6 en7 en8 en9 en10) i)) (F_en0_status : Fld Z h0 en0 "com/example/fanoutd/fanoutd/proxy/NextUpstream$Condition" "status" "I" (.int (0 : Int32))) (F_en1_status : Fld Z h0 en1 "com/example/fanoutd/fanoutd/proxy/NextUpstream$Condition" "status" "I" (.int (0 : Int32))) (F_en2_status : Fld Z h0 en2 "com/example/fanoutd/fanoutd/proxy/NextUpstream$Condition" "status" "I" (.int (0 : Int32))) (F_en3_status : Fld Z h0 en3 "com/example/fanoutd/fanoutd/proxy/NextUpstream$Condition" "status" "I" (.int (500 : Int32))) (F_en4_status : Fld Z h0 en4 "com/example/fanoutd/fanoutd/proxy/NextUpstream$Condition" "status" "I" (.int (502 : Int32))) (F_en5_status : Fld Z h0 en5 "com/example/fanoutd/fanoutd/proxy/NextUpstream$Condition" "status" "I" (.int (503 : Int32))) (F_en6_status : Fld Z h0 en6 "com/example/fanoutd/fanoutd/proxy/NextUpstream$Condition" "status" "I" (.int (504 : Int32))) (F_en7_status : Fld Z h0 en7 "com/example/fanoutd/fanoutd/proxy/NextUpstream$Condition" "status" "I" (.int (403 : Int32))) (F_en8_status : Fld Z h0 en8 "com/example/fanoutd/fanoutd/proxy/NextUpstream$Condition" "status" "I" (.int (404 : Int32))) (F_en9_status : Fld Z h0 en9 "com/example/fanoutd/fanoutd/proxy/NextUpstream$Condition" "status" "I" (.int (429 : Int32))) (F_en10_status : Fld Z h0 en10 "com/example/fanoutd/fanoutd/proxy/NextUpstream$Condition" "status" "I" (.int (0 : Int32))) :
    MetFree l x (head1 (Jvm.Cond.code x code maxLocals ret :: ws) room_1) (fun a U => a = #[(.int p0), (.int p1)] ∧ Z.Warmed39 U.vm ∧ U.heap = h0) (fun _ _ _ _ _ => True) (fun _ U o U' => ∃ v L, o = .returned v ∧ Q_0 Z p0 p1 en0 en1 en2 en3 en4 en5 en6 en7 en8 en9 en10 al h0 n0 v U'.heap L ∧ FrameEnd U o U' L 1 7) := by
  refine MetFree.of_bodySF (plainFor_of_name pn_0) hisR ?_
  intro p e s m args below meth c s₁ Bd hml0 hP hK
  obtain ⟨rfl, hZ, hh⟩ := hP
  have hx := Bd.exec
  have hby := Bd.bytes
  have hml : c.maxLocals = 6 := hml0
  have hown : s.vm.findClass "com/example/fanoutd/fanoutd/proxy/ConditionOfStatusPinLaw" = some m.cls := findClass_of_methodNamed Bd.named
  have hnm := (name_of_methodNamed Bd.named Bd.method).1
  have X0 : Stand p l e room_1 s m #[(.int p0), (.int p1)] below meth c s₁ [] 0 0 := Stand.of_body Bd
  have e0 : s₁.heap = h0 := by rw [← hh, Bd.state]; rfl
  have N0 := Fr.nil n0
  have K0 : Keep h0 h0 [] := Keep.refl h0 _
  have pre0 : ∀ t, Steps p.tables e below (s₁.setTop (mkF m 0 #[.val (.int p0), .val (.int p1), .unset, .unset, .unset, .unset] [])) t → Steps p.tables e below (s₁.setTop (entryFrame m #[(.int p0), (.int p1)] maxLocals)) t := fun t k => castTop (ef_0 m p0 p1) k
  have pre1 : ∀ t, Steps p.tables e below (s₁.setTop (mkF m 2 #[.val (.int p0), .val (.int p1), .unset, .unset, .unset, .unset] [(.int (7 : Int32))])) t → Steps p.tables e below (s₁.setTop (entryFrame m #[(.int p0), (.int p1)] maxLocals)) t := by
    intro t k
    refine pre0 t ?_
    show Steps p.tables e below (s₁.setTop (mkF m 0 #[.val (.int p0), .val (.int p1), .unset, .unset, .unset, .unset] [])) _
    refine XS.bipush X0.here hx rfl (hb hby at_0) ?_
    exact k
  obtain ⟨T2, h2, b2, gb2, X2, e2, E2, A2, st2⟩ := own_newP X0 hx hZ (hw _ (List.mem_of_getElem? (i := 0) rfl)) e0 (g := (mkF m 2 #[.val (.int p0), .val (.int p1), .unset, .unset, .unset, .unset] [(.int (7 : Int32))])) rfl (hb hby at_2) rfl (by decide) (n := 7) rfl (G := fun i => .int (own_zI i)) (fun _ => rfl) (cap := 7) (by decide) (by decide) (by decide) (by decide)
  have ne_al_b2 : al ≠ b2 := Nat.ne_of_lt (Nat.lt_of_lt_of_le A_al.lt (Nat.le_of_eq gb2.symm))
  have ne_en0_b2 : en0 ≠ b2 := Nat.ne_of_lt (Nat.lt_of_lt_of_le F_en0_status.lt (Nat.le_of_eq gb2.symm))
  have ne_en1_b2 : en1 ≠ b2 := Nat.ne_of_lt (Nat.lt_of_lt_of_le F_en1_status.lt (Nat.le_of_eq gb2.symm))
  have ne_en2_b2 : en2 ≠ b2 := Nat.ne_of_lt (Nat.lt_of_lt_of_le F_en2_status.lt (Nat.le_of_eq gb2.symm))
  have ne_en3_b2 : en3 ≠ b2 := Nat.ne_of_lt (Nat.lt_of_lt_of_le F_en3_status.lt (Nat.le_of_eq gb2.symm))
  have ne_en4_b2 : en4 ≠ b2 := Nat.ne_of_lt (Nat.lt_of_lt_of_le F_en4_status.lt (Nat.le_of_eq gb2.symm))
  have ne_en5_b2 : en5 ≠ b2 := Nat.ne_of_lt (Nat.lt_of_lt_of_le F_en5_status.lt (Nat.le_of_eq gb2.symm))
  have ne_en6_b2 : en6 ≠ b2 := Nat.ne_of_lt (Nat.lt_of_lt_of_le F_en6_status.lt (Nat.le_of_eq gb2.symm))
  have ne_en7_b2 : en7 ≠ b2 := Nat.ne_of_lt (Nat.lt_of_lt_of_le F_en7_status.lt (Nat.le_of_eq gb2.symm))
  have ne_en8_b2 : en8 ≠ b2 := Nat.ne_of_lt (Nat.lt_of_lt_of_le F_en8_status.lt (Nat.le_of_eq gb2.symm))
  have ne_en9_b2 : en9 ≠ b2 := Nat.ne_of_lt (Nat.lt_of_lt_of_le F_en9_status.lt (Nat.le_of_eq gb2.symm))
  have ne_en10_b2 : en10 ≠ b2 := Nat.ne_of_lt (Nat.lt_of_lt_of_le F_en10_status.lt (Nat.le_of_eq gb2.symm))
  have sz_b2 : h0.size ≤ b2 := Nat.le_trans K0.1 (Nat.le_of_eq gb2.symm)
  have ge_b2 : n0 ≤ b2 := Nat.le_trans Z0 (Nat.le_of_eq gb2.symm)
  have sta_com_example_fanoutd_fanoutd_proxy_NextUpstream_Condition_ERROR_2 := S_ERROR.ext E2
  have sta_com_example_fanoutd_fanoutd_proxy_NextUpstream_Condition_TIMEOUT_2 := S_TIMEOUT.ext E2
  have sta_com_example_fanoutd_fanoutd_proxy_NextUpstream_Condition_INVALID_HEADER_2 := S_INVALID_HEADER.ext E2
  have sta_com_example_fanoutd_fanoutd_proxy_NextUpstream_Condition_HTTP_500_2 := S_HTTP_500.ext E2
  have sta_com_example_fanoutd_fanoutd_proxy_NextUpstream_Condition_HTTP_502_2 := S_HTTP_502.ext E2
  have sta_com_example_fanoutd_fanoutd_proxy_NextUpstream_Condition_HTTP_503_2 := S_HTTP_503.ext E2
  have sta_com_example_fanoutd_fanoutd_proxy_NextUpstream_Condition_HTTP_504_2 := S_HTTP_504.ext E2
  have sta_com_example_fanoutd_fanoutd_proxy_NextUpstream_Condition_HTTP_403_2 := S_HTTP_403.ext E2
  have sta_com_example_fanoutd_fanoutd_proxy_NextUpstream_Condition_HTTP_404_2 := S_HTTP_404.ext E2
  have sta_com_example_fanoutd_fanoutd_proxy_NextUpstream_Condition_HTTP_429_2 := S_HTTP_429.ext E2
  have sta_com_example_fanoutd_fanoutd_proxy_NextUpstream_Condition_NON_IDEMPOTENT_2 := S_NON_IDEMPOTENT.ext E2
  have sta_com_example_fanoutd_fanoutd_proxy_NextUpstream_Condition_ALL_2 := S_ALL.ext E2
  have arr_al_2 := A_al.ext E2
  have fld_en0_status_2 := F_en0_status.ext E2
  have fld_en1_status_2 := F_en1_status.ext E2
  have fld_en2_status_2 := F_en2_status.ext E2
  have fld_en3_status_2 := F_en3_status.ext E2
  have fld_en4_status_2 := F_en4_status.ext E2
  have fld_en5_status_2 := F_en5_status.ext E2
  have fld_en6_status_2 := F_en6_status.ext E2
  have fld_en7_status_2 := F_en7_status.ext E2
  have fld_en8_status_2 := F_en8_status.ext E2
  have fld_en9_status_2 := F_en9_status.ext E2
  have fld_en10_status_2 := F_en10_status.ext E2
  have K2 := K0.ext E2
  have Z2 := Nat.le_trans Z0 E2.1
  have pre3 : ∀ t, Steps p.tables e below (T2.setTop (mkF m 9 #[.val (.int p0), .val (.int p1), .unset, .unset, .unset, .unset] [(.int (403 : Int32)), (.int (0 : Int32)), (.ref b2), (.ref b2)])) t → Steps p.tables e below (s₁.setTop (entryFrame m #[(.int p0), (.int p1)] maxLocals)) t := by
    intro t k
    refine pre1 t ?_
    show Steps p.tables e below (s₁.setTop (mkF m 2 #[.val (.int p0), .val (.int p1), .unset, .unset, .unset, .unset] [(.int (7 : Int32))])) _
    refine st2 _ ?_
    show Steps p.tables e below (T2.setTop (mkF m 4 #[.val (.int p0), .val (.int p1), .unset, .unset, .unset, .unset] [(.ref b2)])) _
    refine XS.dup X2.here hx rfl (hb hby at_4) rfl rfl ?_
    show Steps p.tables e below (T2.setTop (mkF m 5 #[.val (.int p0), .val (.int p1), .unset, .unset, .unset, .unset] [(.ref b2), (.ref b2)])) _
    refine XS.iconst X2.here hx rfl (hb hby at_5) ?_
    show Steps p.tables e below (T2.setTop (mkF m 6 #[.val (.int p0), .val (.int p1), .unset, .unset, .unset, .unset] [(.int (0 : Int32)), (.ref b2), (.ref b2)])) _
    refine XS.sipush X2.here hx rfl (hb hby at_6) ?_
    exact k
  obtain ⟨T4, h4, X4, e4, W4, A4, st4⟩ := own_stI X2 hx hZ e2 A2 (j := (0 : Int32)) (x := (403 : Int32)) (k := 0) (by decide) (by decide) (by decide) (g := (mkF m 9 #[.val (.int p0), .val (.int p1), .unset, .unset, .unset, .unset] [(.int (403 : Int32)), (.int (0 : Int32)), (.ref b2), (.ref b2)])) rfl rfl (hb hby at_9)
  obtain ⟨g_9, hg_9⟩ : ∃ z : Nat → Int32, z = (own_upd own_zI 0 (403 : Int32)) := ⟨_, rfl⟩
  rw [← hg_9] at A4
  have sta_com_example_fanoutd_fanoutd_proxy_NextUpstream_Condition_ERROR_4 := sta_com_example_fanoutd_fanoutd_proxy_NextUpstream_Condition_ERROR_2.wr W4
  have sta_com_example_fanoutd_fanoutd_proxy_NextUpstream_Condition_TIMEOUT_4 := sta_com_example_fanoutd_fanoutd_proxy_NextUpstream_Condition_TIMEOUT_2.wr W4
  have sta_com_example_fanoutd_fanoutd_proxy_NextUpstream_Condition_INVALID_HEADER_4 := sta_com_example_fanoutd_fanoutd_proxy_NextUpstream_Condition_INVALID_HEADER_2.wr W4
  have sta_com_example_fanoutd_fanoutd_proxy_NextUpstream_Condition_HTTP_500_4 := sta_com_example_fanoutd_fanoutd_proxy_NextUpstream_Condition_HTTP_500_2.wr W4
  have sta_com_example_fanoutd_fanoutd_proxy_NextUpstream_Condition_HTTP_502_4 := sta_com_example_fanoutd_fanoutd_proxy_NextUpstream_Condition_HTTP_502_2.wr W4
  have sta_com_example_fanoutd_fanoutd_proxy_NextUpstream_Condition_HTTP_503_4 := sta_com_example_fanoutd_fanoutd_proxy_NextUpstream_Condition_HTTP_503_2.wr W4
  have sta_com_example_fanoutd_fanoutd_proxy_NextUpstream_Condition_HTTP_504_4 := sta_com_example_fanoutd_fanoutd_proxy_NextUpstream_Condition_HTTP_504_2.wr W4
  have sta_com_example_fanoutd_fanoutd_proxy_NextUpstream_Condition_HTTP_403_4 := sta_com_example_fanoutd_fanoutd_proxy_NextUpstream_Condition_HTTP_403_2.wr W4
  have sta_com_example_fanoutd_fanoutd_proxy_NextUpstream_Condition_HTTP_404_4 := sta_com_example_fanoutd_fanoutd_proxy_NextUpstream_Condition_HTTP_404_2.wr W4
  have sta_com_example_fanoutd_fanoutd_proxy_NextUpstream_Condition_HTTP_429_4 := sta_com_example_fanoutd_fanoutd_proxy_NextUpstream_Condition_HTTP_429_2.wr W4
  have sta_com_example_fanoutd_fanoutd_proxy_NextUpstream_Condition_NON_IDEMPOTENT_4 := sta_com_example_fanoutd_fanoutd_proxy_NextUpstream_Condition_NON_IDEMPOTENT_2.wr W4
  have sta_com_example_fanoutd_fanoutd_proxy_NextUpstream_Condition_ALL_4 := sta_com_example_fanoutd_fanoutd_proxy_NextUpstream_Condition_ALL_2.wr W4
  have arr_al_4 := arr_al_2.other W4 ne_al_b2
  have fld_en0_status_4 := fld_en0_status_2.other W4 (Or.inl ne_en0_b2)
  have fld_en1_status_4 := fld_en1_status_2.other W4 (Or.inl ne_en1_b2)
  have fld_en2_status_4 := fld_en2_status_2.other W4 (Or.inl ne_en2_b2)
  have fld_en3_status_4 := fld_en3_status_2.other W4 (Or.inl ne_en3_b2)
  have fld_en4_status_4 := fld_en4_status_2.other W4 (Or.inl ne_en4_b2)
  have fld_en5_status_4 := fld_en5_status_2.other W4 (Or.inl ne_en5_b2)
  have fld_en6_status_4 := fld_en6_status_2.other W4 (Or.inl ne_en6_b2)
  have fld_en7_status_4 := fld_en7_status_2.other W4 (Or.inl ne_en7_b2)
  have fld_en8_status_4 := fld_en8_status_2.other W4 (Or.inl ne_en8_b2)
  have fld_en9_status_4 := fld_en9_status_2.other W4 (Or.inl ne_en9_b2)
  have fld_en10_status_4 := fld_en10_status_2.other W4 (Or.inl ne_en10_b2)
  have K4 := K2.wr W4 (Or.inr sz_b2)
  have Z4 := Nat.le_trans Z2 (Nat.le_of_eq W4.size.symm)
  have N4 := Fr.snoc X4 N0 ge_b2
  have pre5 : ∀ t, Steps p.tables e below (T4.setTop (mkF m 15 #[.val (.int p0), .val (.int p1), .unset, .unset, .unset, .unset] [(.int (404 : Int32)), (.int (1 : Int32)), (.ref b2), (.ref b2)])) t → Steps p.tables e below (s₁.setTop (entryFrame m #[(.int p0), (.int p1)] maxLocals)) t := by
    intro t k
    refine pre3 t ?_
    show Steps p.tables e below (T2.setTop (mkF m 9 #[.val (.int p0), .val (.int p1), .unset, .unset, .unset, .unset] [(.int (403 : Int32)), (.int (0 : Int32)), (.ref b2), (.ref b2)])) _
    refine st4 _ ?_
    show Steps p.tables e below (T4.setTop (mkF m 10 #[.val (.int p0), .val (.int p1), .unset, .unset, .unset, .unset] [(.ref b2)])) _
    refine XS.dup X4.here hx rfl (hb hby at_10) rfl rfl ?_
    show Steps p.tables e below (T4.setTop (mkF m 11 #[.val (.int p0), .val (.int p1), .unset, .unset, .unset, .unset] [(.ref b2), (.ref b2)])) _
    refine XS.iconst X4.here hx rfl (hb hby at_11) ?_
    show Steps p.tables e below (T4.setTop (mkF m 12 #[.val (.int p0), .val (.int p1), .unset, .unset, .unset, .unset] [(.int (1 : Int32)), (.ref b2), (.ref b2)])) _
    refine XS.sipush X4.here hx rfl (hb hby at_12) ?_
    exact k
  obtain ⟨T6, h6, X6, e6, W6, A6, st6⟩ := own_stI X4 hx hZ e4 A4 (j := (1 : Int32)) (x := (404 : Int32)) (k := 1) (by decide) (by decide) (by decide) (g := (mkF m 15 #[.val (.int p0), .val (.int p1), .unset, .unset, .unset, .unset] [(.int (404 : Int32)), (.int (1 : Int32)), (.ref b2), (.ref b2)])) rfl rfl (hb hby at_15)
  obtain ⟨g_15, hg_15⟩ : ∃ z : Nat → Int32, z = (own_upd g_9 1 (404 : Int32)) := ⟨_, rfl⟩
  rw [← hg_15] at A6
  have sta_com_example_fanoutd_fanoutd_proxy_NextUpstream_Condition_ERROR_6 := sta_com_example_fanoutd_fanoutd_proxy_NextUpstream_Condition_ERROR_4.wr W6
  have sta_com_example_fanoutd_fanoutd_proxy_NextUpstream_Condition_TIMEOUT_6 := sta_com_example_fanoutd_fanoutd_proxy_NextUpstream_Condition_TIMEOUT_4.wr W6
  have sta_com_example_fanoutd_fanoutd_proxy_NextUpstream_Condition_INVALID_HEADER_6 := sta_com_example_fanoutd_fanoutd_proxy_NextUpstream_Condition_INVALID_HEADER_4.wr W6
  have sta_com_example_fanoutd_fanoutd_proxy_NextUpstream_Condition_HTTP_500_6 := sta_com_example_fanoutd_fanoutd_proxy_NextUpstream_Condition_HTTP_500_4.wr W6
  have sta_com_example_fanoutd_fanoutd_proxy_NextUpstream_Condition_HTTP_502_6 := sta_com_example_fanoutd_fanoutd_proxy_NextUpstream_Condition_HTTP_502_4.wr W6
  have sta_com_example_fanoutd_fanoutd_proxy_NextUpstream_Condition_HTTP_503_6 := sta_com_example_fanoutd_fanoutd_proxy_NextUpstream_Condition_HTTP_503_4.wr W6
  have sta_com_example_fanoutd_fanoutd_proxy_NextUpstream_Condition_HTTP_504_6 := sta_com_example_fanoutd_fanoutd_proxy_NextUpstream_Condition_HTTP_504_4.wr W6
  have sta_com_example_fanoutd_fanoutd_proxy_NextUpstream_Condition_HTTP_403_6 := sta_com_example_fanoutd_fanoutd_proxy_NextUpstream_Condition_HTTP_403_4.wr W6
  have sta_com_example_fanoutd_fanoutd_proxy_NextUpstream_Condition_HTTP_404_6 := sta_com_example_fanoutd_fanoutd_proxy_NextUpstream_Condition_HTTP_404_4.wr W6
  have sta_com_example_fanoutd_fanoutd_proxy_NextUpstream_Condition_HTTP_429_6 := sta_com_example_fanoutd_fanoutd_proxy_NextUpstream_Condition_HTTP_429_4.wr W6
  have sta_com_example_fanoutd_fanoutd_proxy_NextUpstream_Condition_NON_IDEMPOTENT_6 := sta_com_example_fanoutd_fanoutd_proxy_NextUpstream_Condition_NON_IDEMPOTENT_4.wr W6
  have sta_com_example_fanoutd_fanoutd_proxy_NextUpstream_Condition_ALL_6 := sta_com_example_fanoutd_fanoutd_proxy_NextUpstream_Condition_ALL_4.wr W6
  have arr_al_6 := arr_al_4.other W6 ne_al_b2
  have fld_en0_status_6 := fld_en0_status_4.other W6 (Or.inl ne_en0_b2)
  have fld_en1_status_6 := fld_en1_status_4.other W6 (Or.inl ne_en1_b2)
  have fld_en2_status_6 := fld_en2_status_4.other W6 (Or.inl ne_en2_b2)
  have fld_en3_status_6 := fld_en3_status_4.other W6 (Or.inl ne_en3_b2)
  have fld_en4_status_6 := fld_en4_status_4.other W6 (Or.inl ne_en4_b2)
  have fld_en5_status_6 := fld_en5_status_4.other W6 (Or.inl ne_en5_b2)
  have fld_en6_status_6 := fld_en6_status_4.other W6 (Or.inl ne_en6_b2)
  have fld_en7_status_6 := fld_en7_status_4.other W6 (Or.inl ne_en7_b2)
  have fld_en8_status_6 := fld_en8_status_4.other W6 (Or.inl ne_en8_b2)
  have fld_en9_status_6 := fld_en9_status_4.other W6 (Or.inl ne_en9_b2)
  have fld_en10_status_6 := fld_en10_status_4.other W6 (Or.inl ne_en10_b2)
  have K6 := K4.wr W6 (Or.inr sz_b2)
  have Z6 := Nat.le_trans Z4 (Nat.le_of_eq W6.size.symm)
  have N6 := Fr.snoc X6 N4 ge_b2
  have pre7 : ∀ t, Steps p.tables e below (T6.setTop (mkF m 21 #[.val (.int p0), .val (.int p1), .unset, .unset, .unset, .unset] [(.int (429 : Int32)), (.int (2 : Int32)), (.ref b2), (.ref b2)])) t → Steps p.tables e below (s₁.setTop (entryFrame m #[(.int p0), (.int p1)] maxLocals)) t := by
    intro t k
    refine pre5 t ?_
    show Steps p.tables e below (T4.setTop (mkF m 15 #[.val (.int p0), .val (.int p1), .unset, .unset, .unset, .unset] [(.int (404 : Int32)), (.int (1 : Int32)), (.ref b2), (.ref b2)])) _
    refine st6 _ ?_
    show Steps p.tables e below (T6.setTop (mkF m 16 #[.val (.int p0), .val (.int p1), .unset, .unset, .unset, .unset] [(.ref b2)])) _
    refine XS.dup X6.here hx rfl (hb hby at_16) rfl rfl ?_
    show Steps p.tables e below (T6.setTop (mkF m 17 #[.val (.int p0), .val (.int p1), .unset, .unset, .unset, .unset] [(.ref b2), (.ref b2)])) _
    refine XS.iconst X6.here hx rfl (hb hby at_17) ?_
    show Steps p.tables e below (T6.setTop (mkF m 18 #[.val (.int p0), .val (.int p1), .unset, .unset, .unset, .unset] [(.int (2 : Int32)), (.ref b2), (.ref b2)])) _
    refine XS.sipush X6.here hx rfl (hb hby at_18) ?_
    exact k
  obtain ⟨T8, h8, X8, e8, W8, A8, st8⟩ := own_stI X6 hx hZ e6 A6 (j := (2 : Int32)) (x := (429 : Int32)) (k := 2) (by decide) (by decide) (by decide) (g := (mkF m 21 #[.val (.int p0), .val (.int p1), .unset, .unset, .unset, .unset] [(.int (429 : Int32)), (.int (2 : Int32)), (.ref b2), (.ref b2)])) rfl rfl (hb hby at_21)
  obtain ⟨g_21, hg_21⟩ : ∃ z : Nat → Int32, z = (own_upd g_15 2 (429 : Int32)) := ⟨_, rfl⟩
  rw [← hg_21] at A8
  have sta_com_example_fanoutd_fanoutd_proxy_NextUpstream_Condition_ERROR_8 := sta_com_example_fanoutd_fanoutd_proxy_NextUpstream_Condition_ERROR_6.wr W8
  have sta_com_example_fanoutd_fanoutd_proxy_NextUpstream_Condition_TIMEOUT_8 := sta_com_example_fanoutd_fanoutd_proxy_NextUpstream_Condition_TIMEOUT_6.wr W8
  have sta_com_example_fanoutd_fanoutd_proxy_NextUpstream_Condition_INVALID_HEADER_8 := sta_com_example_fanoutd_fanoutd_proxy_NextUpstream_Condition_INVALID_HEADER_6.wr W8
  have sta_com_example_fanoutd_fanoutd_proxy_NextUpstream_Condition_HTTP_500_8 := sta_com_example_fanoutd_fanoutd_proxy_NextUpstream_Condition_HTTP_500_6.wr W8
  have sta_com_example_fanoutd_fanoutd_proxy_NextUpstream_Condition_HTTP_502_8 := sta_com_example_fanoutd_fanoutd_proxy_NextUpstream_Condition_HTTP_502_6.wr W8
  have sta_com_example_fanoutd_fanoutd_proxy_NextUpstream_Condition_HTTP_503_8 := sta_com_example_fanoutd_fanoutd_proxy_NextUpstream_Condition_HTTP_503_6.wr W8
  have sta_com_example_fanoutd_fanoutd_proxy_NextUpstream_Condition_HTTP_504_8 := sta_com_example_fanoutd_fanoutd_proxy_NextUpstream_Condition_HTTP_504_6.wr W8
  have sta_com_example_fanoutd_fanoutd_proxy_NextUpstream_Condition_HTTP_403_8 := sta_com_example_fanoutd_fanoutd_proxy_NextUpstream_Condition_HTTP_403_6.wr W8
  have sta_com_example_fanoutd_fanoutd_proxy_NextUpstream_Condition_HTTP_404_8 := sta_com_example_fanoutd_fanoutd_proxy_NextUpstream_Condition_HTTP_404_6.wr W8
  have sta_com_example_fanoutd_fanoutd_proxy_NextUpstream_Condition_HTTP_429_8 := sta_com_example_fanoutd_fanoutd_proxy_NextUpstream_Condition_HTTP_429_6.wr W8
  have sta_com_example_fanoutd_fanoutd_proxy_NextUpstream_Condition_NON_IDEMPOTENT_8 := sta_com_example_fanoutd_fanoutd_proxy_NextUpstream_Condition_NON_IDEMPOTENT_6.wr W8
  have sta_com_example_fanoutd_fanoutd_proxy_NextUpstream_Condition_ALL_8 := sta_com_example_fanoutd_fanoutd_proxy_NextUpstream_Condition_ALL_6.wr W8
  have arr_al_8 := arr_al_6.other W8 ne_al_b2
  have fld_en0_status_8 := fld_en0_status_6.other W8 (Or.inl ne_en0_b2)
  have fld_en1_status_8 := fld_en1_status_6.other W8 (Or.inl ne_en1_b2)
  have fld_en2_status_8 := fld_en2_status_6.other W8 (Or.inl ne_en2_b2)
  have fld_en3_status_8 := fld_en3_status_6.other W8 (Or.inl ne_en3_b2)
  have fld_en4_status_8 := fld_en4_status_6.other W8 (Or.inl ne_en4_b2)
  have fld_en5_status_8 := fld_en5_status_6.other W8 (Or.inl ne_en5_b2)
  have fld_en6_status_8 := fld_en6_status_6.other W8 (Or.inl ne_en6_b2)
  have fld_en7_status_8 := fld_en7_status_6.other W8 (Or.inl ne_en7_b2)
  have fld_en8_status_8 := fld_en8_status_6.other W8 (Or.inl ne_en8_b2)
  have fld_en9_status_8 := fld_en9_status_6.other W8 (Or.inl ne_en9_b2)
  have fld_en10_status_8 := fld_en10_status_6.other W8 (Or.inl ne_en10_b2)
  have K8 := K6.wr W8 (Or.inr sz_b2)
  have Z8 := Nat.le_trans Z6 (Nat.le_of_eq W8.size.symm)
  have N8 := Fr.snoc X8 N6 ge_b2
  have pre9 : ∀ t, Steps p.tables e below (T8.setTop (mkF m 27 #[.val (.int p0), .val (.int p1), .unset, .unset, .unset, .unset] [(.int (500 : Int32)), (.int (3 : Int32)), (.ref b2), (.ref b2)])) t → Steps p.tables e below (s₁.setTop (entryFrame m #[(.int p0), (.int p1)] maxLocals)) t := by
    intro t k
    refine pre7 t ?_
    show Steps p.tables e below (T6.setTop (mkF m 21 #[.val (.int p0), .val (.int p1), .unset, .unset, .unset, .unset] [(.int (429 : Int32)), (.int (2 : Int32)), (.ref b2), (.ref b2)])) _
    refine st8 _ ?_
    show Steps p.tables e below (T8.setTop (mkF m 22 #[.val (.int p0), .val (.int p1), .unset, .unset, .unset, .unset] [(.ref b2)])) _
    refine XS.dup X8.here hx rfl (hb hby at_22) rfl rfl ?_
    show Steps p.tables e below (T8.setTop (mkF m 23 #[.val (.int p0), .val (.int p1), .unset, .unset, .unset, .unset] [(.ref b2), (.ref b2)])) _
    refine XS.iconst X8.here hx rfl (hb hby at_23) ?_
    show Steps p.tables e below (T8.setTop (mkF m 24 #[.val (.int p0), .val (.int p1), .unset, .unset, .unset, .unset] [(.int (3 : Int32)), (.ref b2), (.ref b2)])) _
    refine XS.sipush X8.here hx rfl (hb hby at_24) ?_
    exact k
  obtain ⟨T10, h10, X10, e10, W10, A10, st10⟩ := own_stI X8 hx hZ e8 A8 (j := (3 : Int32)) (x := (500 : Int32)) (k := 3) (by decide) (by decide) (by decide) (g := (mkF m 27 #[.val (.int p0), .val (.int p1), .unset, .unset, .unset, .unset] [(.int (500 : Int32)), (.int (3 : Int32)), (.ref b2), (.ref b2)])) rfl rfl (hb hby at_27)
  obtain ⟨g_27, hg_27⟩ : ∃ z : Nat → Int32, z = (own_upd g_21 3 (500 : Int32)) := ⟨_, rfl⟩
  rw [← hg_27] at A10
  have sta_com_example_fanoutd_fanoutd_proxy_NextUpstream_Condition_ERROR_10 := sta_com_example_fanoutd_fanoutd_proxy_NextUpstream_Condition_ERROR_8.wr W10
  have sta_com_example_fanoutd_fanoutd_proxy_NextUpstream_Condition_TIMEOUT_10 := sta_com_example_fanoutd_fanoutd_proxy_NextUpstream_Condition_TIMEOUT_8.wr W10
  have sta_com_example_fanoutd_fanoutd_proxy_NextUpstream_Condition_INVALID_HEADER_10 := sta_com_example_fanoutd_fanoutd_proxy_NextUpstream_Condition_INVALID_HEADER_8.wr W10
  have sta_com_example_fanoutd_fanoutd_proxy_NextUpstream_Condition_HTTP_500_10 := sta_com_example_fanoutd_fanoutd_proxy_NextUpstream_Condition_HTTP_500_8.wr W10
  have sta_com_example_fanoutd_fanoutd_proxy_NextUpstream_Condition_HTTP_502_10 := sta_com_example_fanoutd_fanoutd_proxy_NextUpstream_Condition_HTTP_502_8.wr W10
  have sta_com_example_fanoutd_fanoutd_proxy_NextUpstream_Condition_HTTP_503_10 := sta_com_example_fanoutd_fanoutd_proxy_NextUpstream_Condition_HTTP_503_8.wr W10
  have sta_com_example_fanoutd_fanoutd_proxy_NextUpstream_Condition_HTTP_504_10 := sta_com_example_fanoutd_fanoutd_proxy_NextUpstream_Condition_HTTP_504_8.wr W10
  have sta_com_example_fanoutd_fanoutd_proxy_NextUpstream_Condition_HTTP_403_10 := sta_com_example_fanoutd_fanoutd_proxy_NextUpstream_Condition_HTTP_403_8.wr W10
  have sta_com_example_fanoutd_fanoutd_proxy_NextUpstream_Condition_HTTP_404_10 := sta_com_example_fanoutd_fanoutd_proxy_NextUpstream_Condition_HTTP_404_8.wr W10
  have sta_com_example_fanoutd_fanoutd_proxy_NextUpstream_Condition_HTTP_429_10 := sta_com_example_fanoutd_fanoutd_proxy_NextUpstream_Condition_HTTP_429_8.wr W10
  have sta_com_example_fanoutd_fanoutd_proxy_NextUpstream_Condition_NON_IDEMPOTENT_10 := sta_com_example_fanoutd_fanoutd_proxy_NextUpstream_Condition_NON_IDEMPOTENT_8.wr W10
  have sta_com_example_fanoutd_fanoutd_proxy_NextUpstream_Condition_ALL_10 := sta_com_example_fanoutd_fanoutd_proxy_NextUpstream_Condition_ALL_8.wr W10
  have arr_al_10 := arr_al_8.other W10 ne_al_b2
  have fld_en0_status_10 := fld_en0_status_8.other W10 (Or.inl ne_en0_b2)
  have fld_en1_status_10 := fld_en1_status_8.other W10 (Or.inl ne_en1_b2)
  have fld_en2_status_10 := fld_en2_status_8.other W10 (Or.inl ne_en2_b2)
  have fld_en3_status_10 := fld_en3_status_8.other W10 (Or.inl ne_en3_b2)
  have fld_en4_status_10 := fld_en4_status_8.other W10 (Or.inl ne_en4_b2)
  have fld_en5_status_10 := fld_en5_status_8.other W10 (Or.inl ne_en5_b2)
  have fld_en6_status_10 := fld_en6_status_8.other W10 (Or.inl ne_en6_b2)
  have fld_en7_status_10 := fld_en7_status_8.other W10 (Or.inl ne_en7_b2)
  have fld_en8_status_10 := fld_en8_status_8.other W10 (Or.inl ne_en8_b2)
  have fld_en9_status_10 := fld_en9_status_8.other W10 (Or.inl ne_en9_b2)
  have fld_en10_status_10 := fld_en10_status_8.other W10 (Or.inl ne_en10_b2)
  have K10 := K8.wr W10 (Or.inr sz_b2)
  have Z10 := Nat.le_trans Z8 (Nat.le_of_eq W10.size.symm)
  have N10 := Fr.snoc X10 N8 ge_b2
  have pre11 : ∀ t, Steps p.tables e below (T10.setTop (mkF m 33 #[.val (.int p0), .val (.int p1), .unset, .unset, .unset, .unset] [(.int (502 : Int32)), (.int (4 : Int32)), (.ref b2), (.ref b2)])) t → Steps p.tables e below (s₁.setTop (entryFrame m #[(.int p0), (.int p1)] maxLocals)) t := by
    intro t k
    refine pre9 t ?_
    show Steps p.tables e below (T8.setTop (mkF m 27 #[.val (.int p0), .val (.int p1), .unset, .unset, .unset, .unset] [(.int (500 : Int32)), (.int (3 : Int32)), (.ref b2), (.ref b2)])) _
    refine st10 _ ?_
    show Steps p.tables e below (T10.setTop (mkF m 28 #[.val (.int p0), .val (.int p1), .unset, .unset, .unset, .unset] [(.ref b2)])) _
    refine XS.dup X10.here hx rfl (hb hby at_28) rfl rfl ?_
    show Steps p.tables e below (T10.setTop (mkF m 29 #[.val (.int p0), .val (.int p1), .unset, .unset, .unset, .unset] [(.ref b2), (.ref b2)])) _
    refine XS.iconst X10.here hx rfl (hb hby at_29) ?_
    show Steps p.tables e below (T10.setTop (mkF m 30 #[.val (.int p0), .val (.int p1), .unset, .unset, .unset, .unset] [(.int (4 : Int32)), (.ref b2), (.ref b2)])) _
    refine XS.sipush X10.here hx rfl (hb hby at_30) ?_
    exact k
  obtain ⟨T12, h12, X12, e12, W12, A12, st12⟩ := own_stI X10 hx hZ e10 A10 (j := (4 : Int32)) (x := (502 : Int32)) (k := 4) (by decide) (by decide) (by decide) (g := (mkF m 33 #[.val (.int p0), .val (.int p1), .unset, .unset, .unset, .unset] [(.int (502 : Int32)), (.int (4 : Int32)), (.ref b2), (.ref b2)])) rfl rfl (hb hby at_33)
  obtain ⟨g_33, hg_33⟩ : ∃ z : Nat → Int32, z = (own_upd g_27 4 (502 : Int32)) := ⟨_, rfl⟩
  rw [← hg_33] at A12
  have sta_com_example_fanoutd_fanoutd_proxy_NextUpstream_Condition_ERROR_12 := sta_com_example_fanoutd_fanoutd_proxy_NextUpstream_Condition_ERROR_10.wr W12
  have sta_com_example_fanoutd_fanoutd_proxy_NextUpstream_Condition_TIMEOUT_12 := sta_com_example_fanoutd_fanoutd_proxy_NextUpstream_Condition_TIMEOUT_10.wr W12
  have sta_com_example_fanoutd_fanoutd_proxy_NextUpstream_Condition_INVALID_HEADER_12 := sta_com_example_fanoutd_fanoutd_proxy_NextUpstream_Condition_INVALID_HEADER_10.wr W12
  have sta_com_example_fanoutd_fanoutd_proxy_NextUpstream_Condition_HTTP_500_12 := sta_com_example_fanoutd_fanoutd_proxy_NextUpstream_Condition_HTTP_500_10.wr W12
  have sta_com_example_fanoutd_fanoutd_proxy_NextUpstream_Condition_HTTP_502_12 := sta_com_example_fanoutd_fanoutd_proxy_NextUpstream_Condition_HTTP_502_10.wr W12
  have sta_com_example_fanoutd_fanoutd_proxy_NextUpstream_Condition_HTTP_503_12 := sta_com_example_fanoutd_fanoutd_proxy_NextUpstream_Condition_HTTP_503_10.wr W12
  have sta_com_example_fanoutd_fanoutd_proxy_NextUpstream_Condition_HTTP_504_12 := sta_com_example_fanoutd_fanoutd_proxy_NextUpstream_Condition_HTTP_504_10.wr W12
  have sta_com_example_fanoutd_fanoutd_proxy_NextUpstream_Condition_HTTP_403_12 := sta_com_example_fanoutd_fanoutd_proxy_NextUpstream_Condition_HTTP_403_10.wr W12
  have sta_com_example_fanoutd_fanoutd_proxy_NextUpstream_Condition_HTTP_404_12 := sta_com_example_fanoutd_fanoutd_proxy_NextUpstream_Condition_HTTP_404_10.wr W12
  have sta_com_example_fanoutd_fanoutd_proxy_NextUpstream_Condition_HTTP_429_12 := sta_com_example_fanoutd_fanoutd_proxy_NextUpstream_Condition_HTTP_429_10.wr W12
  have sta_com_example_fanoutd_fanoutd_proxy_NextUpstream_Condition_NON_IDEMPOTENT_12 := sta_com_example_fanoutd_fanoutd_proxy_NextUpstream_Condition_NON_IDEMPOTENT_10.wr W12
  have sta_com_example_fanoutd_fanoutd_proxy_NextUpstream_Condition_ALL_12 := sta_com_example_fanoutd_fanoutd_proxy_NextUpstream_Condition_ALL_10.wr W12
  have arr_al_12 := arr_al_10.other W12 ne_al_b2
  have fld_en0_status_12 := fld_en0_status_10.other W12 (Or.inl ne_en0_b2)
  have fld_en1_status_12 := fld_en1_status_10.other W12 (Or.inl ne_en1_b2)
  have fld_en2_status_12 := fld_en2_status_10.other W12 (Or.inl ne_en2_b2)
  have fld_en3_status_12 := fld_en3_status_10.other W12 (Or.inl ne_en3_b2)
  have fld_en4_status_12 := fld_en4_status_10.other W12 (Or.inl ne_en4_b2)
  have fld_en5_status_12 := fld_en5_status_10.other W12 (Or.inl ne_en5_b2)
  have fld_en6_status_12 := fld_en6_status_10.other W12 (Or.inl ne_en6_b2)
  have fld_en7_status_12 := fld_en7_status_10.other W12 (Or.inl ne_en7_b2)
  have fld_en8_status_12 := fld_en8_status_10.other W12 (Or.inl ne_en8_b2)
  have fld_en9_status_12 := fld_en9_status_10.other W12 (Or.inl ne_en9_b2)
  have fld_en10_status_12 := fld_en10_status_10.other W12 (Or.inl ne_en10_b2)
  have K12 := K10.wr W12 (Or.inr sz_b2)
  have Z12 := Nat.le_trans Z10 (Nat.le_of_eq W12.size.symm)
  have N12 := Fr.snoc X12 N10 ge_b2
  have pre13 : ∀ t, Steps p.tables e below (T12.setTop (mkF m 39 #[.val (.int p0), .val (.int p1), .unset, .unset, .unset, .unset] [(.int (503 : Int32)), (.int (5 : Int32)), (.ref b2), (.ref b2)])) t → Steps p.tables e below (s₁.setTop (entryFrame m #[(.int p0), (.int p1)] maxLocals)) t := by
    intro t k
    refine pre11 t ?_
    show Steps p.tables e below (T10.setTop (mkF m 33 #[.val (.int p0), .val (.int p1), .unset, .unset, .unset, .unset] [(.int (502 : Int32)), (.int (4 : Int32)), (.ref b2), (.ref b2)])) _
    refine st12 _ ?_
    show Steps p.tables e below (T12.setTop (mkF m 34 #[.val (.int p0), .val (.int p1), .unset, .unset, .unset, .unset] [(.ref b2)])) _
    refine XS.dup X12.here hx rfl (hb hby at_34) rfl rfl ?_
    show Steps p.tables e below (T12.setTop (mkF m 35 #[.val (.int p0), .val (.int p1), .unset, .unset, .unset, .unset] [(.ref b2), (.ref b2)])) _
    refine XS.iconst X12.here hx rfl (hb hby at_35) ?_
    show Steps p.tables e below (T12.setTop (mkF m 36 #[.val (.int p0), .val (.int p1), .unset, .unset, .unset, .unset] [(.int (5 : Int32)), (.ref b2), (.ref b2)])) _
    refine XS.sipush X12.here hx rfl (hb hby at_36) ?_
    exact k
  obtain ⟨T14, h14, X14, e14, W14, A14, st14⟩ := own_stI X12 hx hZ e12 A12 (j := (5 : Int32)) (x := (503 : Int32)) (k := 5) (by decide) (by decide) (by decide) (g := (mkF m 39 #[.val (.int p0), .val (.int p1), .unset, .unset, .unset, .unset] [(.int (503 : Int32)), (.int (5 : Int32)), (.ref b2), (.ref b2)])) rfl rfl (hb hby at_39)
  obtain ⟨g_39, hg_39⟩ : ∃ z : Nat → Int32, z = (own_upd g_33 5 (503 : Int32)) := ⟨_, rfl⟩
  rw [← hg_39] at A14
  have sta_com_example_fanoutd_fanoutd_proxy_NextUpstream_Condition_ERROR_14 := sta_com_example_fanoutd_fanoutd_proxy_NextUpstream_Condition_ERROR_12.wr W14
  have sta_com_example_fanoutd_fanoutd_proxy_NextUpstream_Condition_TIMEOUT_14 := sta_com_example_fanoutd_fanoutd_proxy_NextUpstream_Condition_TIMEOUT_12.wr W14
  have sta_com_example_fanoutd_fanoutd_proxy_NextUpstream_Condition_INVALID_HEADER_14 := sta_com_example_fanoutd_fanoutd_proxy_NextUpstream_Condition_INVALID_HEADER_12.wr W14
  have sta_com_example_fanoutd_fanoutd_proxy_NextUpstream_Condition_HTTP_500_14 := sta_com_example_fanoutd_fanoutd_proxy_NextUpstream_Condition_HTTP_500_12.wr W14
  have sta_com_example_fanoutd_fanoutd_proxy_NextUpstream_Condition_HTTP_502_14 := sta_com_example_fanoutd_fanoutd_proxy_NextUpstream_Condition_HTTP_502_12.wr W14
  have sta_com_example_fanoutd_fanoutd_proxy_NextUpstream_Condition_HTTP_503_14 := sta_com_example_fanoutd_fanoutd_proxy_NextUpstream_Condition_HTTP_503_12.wr W14
  have sta_com_example_fanoutd_fanoutd_proxy_NextUpstream_Condition_HTTP_504_14 := sta_com_example_fanoutd_fanoutd_proxy_NextUpstream_Condition_HTTP_504_12.wr W14
  have sta_com_example_fanoutd_fanoutd_proxy_NextUpstream_Condition_HTTP_403_14 := sta_com_example_fanoutd_fanoutd_proxy_NextUpstream_Condition_HTTP_403_12.wr W14
  have sta_com_example_fanoutd_fanoutd_proxy_NextUpstream_Condition_HTTP_404_14 := sta_com_example_fanoutd_fanoutd_proxy_NextUpstream_Condition_HTTP_404_12.wr W14
  have sta_com_example_fanoutd_fanoutd_proxy_NextUpstream_Condition_HTTP_429_14 := sta_com_example_fanoutd_fanoutd_proxy_NextUpstream_Condition_HTTP_429_12.wr W14
  have sta_com_example_fanoutd_fanoutd_proxy_NextUpstream_Condition_NON_IDEMPOTENT_14 := sta_com_example_fanoutd_fanoutd_proxy_NextUpstream_Condition_NON_IDEMPOTENT_12.wr W14
  have sta_com_example_fanoutd_fanoutd_proxy_NextUpstream_Condition_ALL_14 := sta_com_example_fanoutd_fanoutd_proxy_NextUpstream_Condition_ALL_12.wr W14
  have arr_al_14 := arr_al_12.other W14 ne_al_b2
  have fld_en0_status_14 := fld_en0_status_12.other W14 (Or.inl ne_en0_b2)
  have fld_en1_status_14 := fld_en1_status_12.other W14 (Or.inl ne_en1_b2)
  have fld_en2_status_14 := fld_en2_status_12.other W14 (Or.inl ne_en2_b2)
  have fld_en3_status_14 := fld_en3_status_12.other W14 (Or.inl ne_en3_b2)
  have fld_en4_status_14 := fld_en4_status_12.other W14 (Or.inl ne_en4_b2)
  have fld_en5_status_14 := fld_en5_status_12.other W14 (Or.inl ne_en5_b2)
  have fld_en6_status_14 := fld_en6_status_12.other W14 (Or.inl ne_en6_b2)
  have fld_en7_status_14 := fld_en7_status_12.other W14 (Or.inl ne_en7_b2)
  have fld_en8_status_14 := fld_en8_status_12.other W14 (Or.inl ne_en8_b2)
  have fld_en9_status_14 := fld_en9_status_12.other W14 (Or.inl ne_en9_b2)
  have fld_en10_status_14 := fld_en10_status_12.other W14 (Or.inl ne_en10_b2)
  have K14 := K12.wr W14 (Or.inr sz_b2)
  have Z14 := Nat.le_trans Z12 (Nat.le_of_eq W14.size.symm)
  have N14 := Fr.snoc X14 N12 ge_b2
  have pre15 : ∀ t, Steps p.tables e below (T14.setTop (mkF m 46 #[.val (.int p0), .val (.int p1), .unset, .unset, .unset, .unset] [(.int (504 : Int32)), (.int (6 : Int32)), (.ref b2), (.ref b2)])) t → Steps p.tables e below (s₁.setTop (entryFrame m #[(.int p0), (.int p1)] maxLocals)) t := by
    intro t k
    refine pre13 t ?_
    show Steps p.tables e below (T12.setTop (mkF m 39 #[.val (.int p0), .val (.int p1), .unset, .unset, .unset, .unset] [(.int (503 : Int32)), (.int (5 : Int32)), (.ref b2), (.ref b2)])) _
    refine st14 _ ?_
    show Steps p.tables e below (T14.setTop (mkF m 40 #[.val (.int p0), .val (.int p1), .unset, .unset, .unset, .unset] [(.ref b2)])) _
    refine XS.dup X14.here hx rfl (hb hby at_40) rfl rfl ?_
    show Steps p.tables e below (T14.setTop (mkF m 41 #[.val (.int p0), .val (.int p1), .unset, .unset, .unset, .unset] [(.ref b2), (.ref b2)])) _
    refine XS.bipush X14.here hx rfl (hb hby at_41) ?_
    show Steps p.tables e below (T14.setTop (mkF m 43 #[.val (.int p0), .val (.int p1), .unset, .unset, .unset, .unset] [(.int (6 : Int32)), (.ref b2), (.ref b2)])) _
    refine XS.sipush X14.here hx rfl (hb hby at_43) ?_
    exact k
  obtain ⟨T16, h16, X16, e16, W16, A16, st16⟩ := own_stI X14 hx hZ e14 A14 (j := (6 : Int32)) (x := (504 : Int32)) (k := 6) (by decide) (by decide) (by decide) (g := (mkF m 46 #[.val (.int p0), .val (.int p1), .unset, .unset, .unset, .unset] [(.int (504 : Int32)), (.int (6 : Int32)), (.ref b2), (.ref b2)])) rfl rfl (hb hby at_46)
  obtain ⟨g_46, hg_46⟩ : ∃ z : Nat → Int32, z = (own_upd g_39 6 (504 : Int32)) := ⟨_, rfl⟩
  rw [← hg_46] at A16
  have sta_com_example_fanoutd_fanoutd_proxy_NextUpstream_Condition_ERROR_16 := sta_com_example_fanoutd_fanoutd_proxy_NextUpstream_Condition_ERROR_14.wr W16
  have sta_com_example_fanoutd_fanoutd_proxy_NextUpstream_Condition_TIMEOUT_16 := sta_com_example_fanoutd_fanoutd_proxy_NextUpstream_Condition_TIMEOUT_14.wr W16
  have sta_com_example_fanoutd_fanoutd_proxy_NextUpstream_Condition_INVALID_HEADER_16 := sta_com_example_fanoutd_fanoutd_proxy_NextUpstream_Condition_INVALID_HEADER_14.wr W16
  have sta_com_example_fanoutd_fanoutd_proxy_NextUpstream_Condition_HTTP_500_16 := sta_com_example_fanoutd_fanoutd_proxy_NextUpstream_Condition_HTTP_500_14.wr W16
  have sta_com_example_fanoutd_fanoutd_proxy_NextUpstream_Condition_HTTP_502_16 := sta_com_example_fanoutd_fanoutd_proxy_NextUpstream_Condition_HTTP_502_14.wr W16
  have sta_com_example_fanoutd_fanoutd_proxy_NextUpstream_Condition_HTTP_503_16 := sta_com_example_fanoutd_fanoutd_proxy_NextUpstream_Condition_HTTP_503_14.wr W16
  have sta_com_example_fanoutd_fanoutd_proxy_NextUpstream_Condition_HTTP_504_16 := sta_com_example_fanoutd_fanoutd_proxy_NextUpstream_Condition_HTTP_504_14.wr W16
  have sta_com_example_fanoutd_fanoutd_proxy_NextUpstream_Condition_HTTP_403_16 := sta_com_example_fanoutd_fanoutd_proxy_NextUpstream_Condition_HTTP_403_14.wr W16
  have sta_com_example_fanoutd_fanoutd_proxy_NextUpstream_Condition_HTTP_404_16 := sta_com_example_fanoutd_fanoutd_proxy_NextUpstream_Condition_HTTP_404_14.wr W16
  have sta_com_example_fanoutd_fanoutd_proxy_NextUpstream_Condition_HTTP_429_16 := sta_com_example_fanoutd_fanoutd_proxy_NextUpstream_Condition_HTTP_429_14.wr W16
  have sta_com_example_fanoutd_fanoutd_proxy_NextUpstream_Condition_NON_IDEMPOTENT_16 := sta_com_example_fanoutd_fanoutd_proxy_NextUpstream_Condition_NON_IDEMPOTENT_14.wr W16
  have sta_com_example_fanoutd_fanoutd_proxy_NextUpstream_Condition_ALL_16 := sta_com_example_fanoutd_fanoutd_proxy_NextUpstream_Condition_ALL_14.wr W16
  have arr_al_16 := arr_al_14.other W16 ne_al_b2
  have fld_en0_status_16 := fld_en0_status_14.other W16 (Or.inl ne_en0_b2)
  have fld_en1_status_16 := fld_en1_status_14.other W16 (Or.inl ne_en1_b2)
  have fld_en2_status_16 := fld_en2_status_14.other W16 (Or.inl ne_en2_b2)
  have fld_en3_status_16 := fld_en3_status_14.other W16 (Or.inl ne_en3_b2)
  have fld_en4_status_16 := fld_en4_status_14.other W16 (Or.inl ne_en4_b2)
  have fld_en5_status_16 := fld_en5_status_14.other W16 (Or.inl ne_en5_b2)
  have fld_en6_status_16 := fld_en6_status_14.other W16 (Or.inl ne_en6_b2)
  have fld_en7_status_16 := fld_en7_status_14.other W16 (Or.inl ne_en7_b2)
  have fld_en8_status_16 := fld_en8_status_14.other W16 (Or.inl ne_en8_b2)
  have fld_en9_status_16 := fld_en9_status_14.other W16 (Or.inl ne_en9_b2)
  have fld_en10_status_16 := fld_en10_status_14.other W16 (Or.inl ne_en10_b2)
  have K16 := K14.wr W16 (Or.inr sz_b2)
  have Z16 := Nat.le_trans Z14 (Nat.le_of_eq W16.size.symm)
  have N16 := Fr.snoc X16 N14 ge_b2
  have pre17 : ∀ t, Steps p.tables e below (T16.setTop (mkF m 47 #[.val (.int p0), .val (.int p1), .unset, .unset, .unset, .unset] [(.ref b2)])) t → Steps p.tables e below (s₁.setTop (entryFrame m #[(.int p0), (.int p1)] maxLocals)) t := by
    intro t k
    refine pre15 t ?_
    show Steps p.tables e below (T14.setTop (mkF m 46 #[.val (.int p0), .val (.int p1), .unset, .unset, .unset, .unset] [(.int (504 : Int32)), (.int (6 : Int32)), (.ref b2), (.ref b2)])) _
    refine st16 _ ?_
    exact k
  have AR18 : own_A Z h16 b2 .int 7 (fun i => .int (own_kn i)) := A16.congr (fun i hi => congrArg Value.int (by rw [hg_46, hg_39, hg_33, hg_27, hg_21, hg_15, hg_9]; exact own_kn_eq i hi))
  obtain ⟨v3_52, hv3_52⟩ : ∃ z : Int32, z = (p0 &&& (15 : Int32)) := ⟨_, rfl⟩
  have pre19 : ∀ t, Steps p.tables e below (T16.setTop (mkF m 56 #[.val (.int p0), .val (.int p1), .val (.ref b2), .val (.int v3_52), .unset, .unset] [(.int (7 : Int32)), (.int v3_52)])) t → Steps p.tables e below (s₁.setTop (entryFrame m #[(.int p0), (.int p1)] maxLocals)) t := by
    intro t k
    refine pre17 t ?_
    show Steps p.tables e below (T16.setTop (mkF m 47 #[.val (.int p0), .val (.int p1), .unset, .unset, .unset, .unset] [(.ref b2)])) _
    refine XS.astoreN X16.here hx rfl (hb hby at_47) rfl rfl (l' := #[.val (.int p0), .val (.int p1), .val (.ref b2), .unset, .unset, .unset]) rfl ?_
    show Steps p.tables e below (T16.setTop (mkF m 48 #[.val (.int p0), .val (.int p1), .val (.ref b2), .unset, .unset, .unset] [])) _
    refine XS.iloadN X16.here hx rfl (hb hby at_48) rfl  ?_
    show Steps p.tables e below (T16.setTop (mkF m 49 #[.val (.int p0), .val (.int p1), .val (.ref b2), .unset, .unset, .unset] [(.int p0)])) _
    refine XS.bipush X16.here hx rfl (hb hby at_49) ?_
    show Steps p.tables e below (T16.setTop (mkF m 51 #[.val (.int p0), .val (.int p1), .val (.ref b2), .unset, .unset, .unset] [(.int (15 : Int32)), (.int p0)])) _
    refine XS.iand X16.here hx rfl (hb hby at_51) rfl ?_
    show Steps p.tables e below (T16.setTop (mkF m 52 #[.val (.int p0), .val (.int p1), .val (.ref b2), .unset, .unset, .unset] [(.int (p0 &&& (15 : Int32)))])) _
    refine XS.istoreN X16.here hx rfl (hb hby at_52) rfl (l' := #[.val (.int p0), .val (.int p1), .val (.ref b2), .val (.int v3_52), .unset, .unset]) (by rw [hv3_52]; rfl) ?_
    show Steps p.tables e below (T16.setTop (mkF m 53 #[.val (.int p0), .val (.int p1), .val (.ref b2), .val (.int v3_52), .unset, .unset] [])) _
    refine XS.iloadN X16.here hx rfl (hb hby at_53) rfl  ?_
    show Steps p.tables e below (T16.setTop (mkF m 54 #[.val (.int p0), .val (.int p1), .val (.ref b2), .val (.int v3_52), .unset, .unset] [(.int v3_52)])) _
    refine XS.bipush X16.here hx rfl (hb hby at_54) ?_
    exact k
  obtain ⟨m4_86, hm4_86⟩ : ∃ z : Int32, z = (if v3_52 < (7 : Int32) then (((own_kn v3_52.toNatClampNeg) + (p1 &&& (3 : Int32))) - (1 : Int32)) else ((100 : Int32) + ((p1 &&& (2147483647 : Int32)) % (500 : Int32)))) := ⟨_, rfl⟩
  have pre20 : ∀ t, Steps p.tables e below (T16.setTop (mkF m 86 #[.val (.int p0), .val (.int p1), .val (.ref b2), .val (.int v3_52), .val (.int m4_86), .unset] [])) t → Steps p.tables e below (s₁.setTop (entryFrame m #[(.int p0), (.int p1)] maxLocals)) t := by
    intro t k
    refine pre19 t ?_
    by_cases hc56 : v3_52 < (7 : Int32)
    · show Steps p.tables e below (T16.setTop (mkF m 56 #[.val (.int p0), .val (.int p1), .val (.ref b2), .val (.int v3_52), .unset, .unset] [(.int (7 : Int32)), (.int v3_52)])) _
      refine XS.icmpNo X16.here hx rfl (hb hby at_56) rfl (tlt hc56).2.1 ?_
      show Steps p.tables e below (T16.setTop (mkF m 59 #[.val (.int p0), .val (.int p1), .val (.ref b2), .val (.int v3_52), .unset, .unset] [])) _
      refine XS.aloadN X16.here hx rfl (hb hby at_59) rfl rfl ?_
      show Steps p.tables e below (T16.setTop (mkF m 60 #[.val (.int p0), .val (.int p1), .val (.ref b2), .val (.int v3_52), .unset, .unset] [(.ref b2)])) _
      refine XS.iloadN X16.here hx rfl (hb hby at_60) rfl  ?_
      show Steps p.tables e below (T16.setTop (mkF m 61 #[.val (.int p0), .val (.int p1), .val (.ref b2), .val (.int v3_52), .unset, .unset] [(.int v3_52), (.ref b2)])) _
      refine own_ldI X16 hx hZ e16 AR18 (j := v3_52) (k := v3_52.toNatClampNeg) (own_ki p0 hv3_52).1 rfl ((own_ki p0 hv3_52).2 hc56) (g := (mkF m 61 #[.val (.int p0), .val (.int p1), .val (.ref b2), .val (.int v3_52), .unset, .unset] [(.int v3_52), (.ref b2)])) rfl rfl (hb hby at_61) ?_
      show Steps p.tables e below (T16.setTop (mkF m 62 #[.val (.int p0), .val (.int p1), .val (.ref b2), .val (.int v3_52), .unset, .unset] [(.int (own_kn v3_52.toNatClampNeg))])) _
      refine XS.iloadN X16.here hx rfl (hb hby at_62) rfl  ?_
      show Steps p.tables e below (T16.setTop (mkF m 63 #[.val (.int p0), .val (.int p1), .val (.ref b2), .val (.int v3_52), .unset, .unset] [(.int p1), (.int (own_kn v3_52.toNatClampNeg))])) _
      refine XS.iconst X16.here hx rfl (hb hby at_63) ?_
      show Steps p.tables e below (T16.setTop (mkF m 64 #[.val (.int p0), .val (.int p1), .val (.ref b2), .val (.int v3_52), .unset, .unset] [(.int (3 : Int32)), (.int p1), (.int (own_kn v3_52.toNatClampNeg))])) _
      refine XS.iand X16.here hx rfl (hb hby at_64) rfl ?_
      show Steps p.tables e below (T16.setTop (mkF m 65 #[.val (.int p0), .val (.int p1), .val (.ref b2), .val (.int v3_52), .unset, .unset] [(.int (p1 &&& (3 : Int32))), (.int (own_kn v3_52.toNatClampNeg))])) _
      refine XS.iadd X16.here hx rfl (hb hby at_65) rfl ?_
      show Steps p.tables e below (T16.setTop (mkF m 66 #[.val (.int p0), .val (.int p1), .val (.ref b2), .val (.int v3_52), .unset, .unset] [(.int ((own_kn v3_52.toNatClampNeg) + (p1 &&& (3 : Int32))))])) _
      refine XS.iconst X16.here hx rfl (hb hby at_66) ?_
      show Steps p.tables e below (T16.setTop (mkF m 67 #[.val (.int p0), .val (.int p1), .val (.ref b2), .val (.int v3_52), .unset, .unset] [(.int (1 : Int32)), (.int ((own_kn v3_52.toNatClampNeg) + (p1 &&& (3 : Int32))))])) _
      refine XS.isub X16.here hx rfl (hb hby at_67) rfl ?_
      show Steps p.tables e below (T16.setTop (mkF m 68 #[.val (.int p0), .val (.int p1), .val (.ref b2), .val (.int v3_52), .unset, .unset] [(.int (((own_kn v3_52.toNatClampNeg) + (p1 &&& (3 : Int32))) - (1 : Int32)))])) _
      refine XS.istore X16.here hx rfl (hb hby at_68) rfl (l' := #[.val (.int p0), .val (.int p1), .val (.ref b2), .val (.int v3_52), .val (.int (((own_kn v3_52.toNatClampNeg) + (p1 &&& (3 : Int32))) - (1 : Int32))), .unset]) rfl ?_
      show Steps p.tables e below (T16.setTop (mkF m 70 #[.val (.int p0), .val (.int p1), .val (.ref b2), .val (.int v3_52), .val (.int (((own_kn v3_52.toNatClampNeg) + (p1 &&& (3 : Int32))) - (1 : Int32))), .unset] [])) _
      refine XS.goto X16.here hx rfl (pc0 := 70) (pc' := 86) rfl (hb hby at_70) (by decide) (by decide) ?_
      have qm4_86 : m4_86 = (((own_kn v3_52.toNatClampNeg) + (p1 &&& (3 : Int32))) - (1 : Int32)) := by rw [hm4_86, if_pos hc56]
      rw [qm4_86] at k
      exact k
    · show Steps p.tables e below (T16.setTop (mkF m 56 #[.val (.int p0), .val (.int p1), .val (.ref b2), .val (.int v3_52), .unset, .unset] [(.int (7 : Int32)), (.int v3_52)])) _
      refine XS.icmpYes X16.here hx rfl (pc0 := 56) (pc' := 73) rfl (hb hby at_56) rfl (flt hc56).2.1 (by decide) (by decide) ?_
      show Steps p.tables e below (T16.setTop (mkF m 73 #[.val (.int p0), .val (.int p1), .val (.ref b2), .val (.int v3_52), .unset, .unset] [])) _
      refine XS.bipush X16.here hx rfl (hb hby at_73) ?_
      show Steps p.tables e below (T16.setTop (mkF m 75 #[.val (.int p0), .val (.int p1), .val (.ref b2), .val (.int v3_52), .unset, .unset] [(.int (100 : Int32))])) _
      refine XS.iloadN X16.here hx rfl (hb hby at_75) rfl  ?_
      show Steps p.tables e below (T16.setTop (mkF m 76 #[.val (.int p0), .val (.int p1), .val (.ref b2), .val (.int v3_52), .unset, .unset] [(.int p1), (.int (100 : Int32))])) _
      refine X16.ldcInt hx hown (mvT hZ (hw _ (List.mem_of_getElem? (i := 24) rfl))) (g := (mkF m 76 #[.val (.int p0), .val (.int p1), .val (.ref b2), .val (.int v3_52), .unset, .unset] [(.int p1), (.int (100 : Int32))])) rfl (hb hby at_76) _ ?_
      show Steps p.tables e below (T16.setTop (mkF m 78 #[.val (.int p0), .val (.int p1), .val (.ref b2), .val (.int v3_52), .unset, .unset] [(.int (2147483647 : Int32)), (.int p1), (.int (100 : Int32))])) _
      refine XS.iand X16.here hx rfl (hb hby at_78) rfl ?_
      show Steps p.tables e below (T16.setTop (mkF m 79 #[.val (.int p0), .val (.int p1), .val (.ref b2), .val (.int v3_52), .unset, .unset] [(.int (p1 &&& (2147483647 : Int32))), (.int (100 : Int32))])) _
      refine XS.sipush X16.here hx rfl (hb hby at_79) ?_
      show Steps p.tables e below (T16.setTop (mkF m 82 #[.val (.int p0), .val (.int p1), .val (.ref b2), .val (.int v3_52), .unset, .unset] [(.int (500 : Int32)), (.int (p1 &&& (2147483647 : Int32))), (.int (100 : Int32))])) _
      refine iremM X16 hx rfl (hb hby at_82) rfl (by decide) ?_
      show Steps p.tables e below (T16.setTop (mkF m 83 #[.val (.int p0), .val (.int p1), .val (.ref b2), .val (.int v3_52), .unset, .unset] [(.int ((p1 &&& (2147483647 : Int32)) % (500 : Int32))), (.int (100 : Int32))])) _
      refine XS.iadd X16.here hx rfl (hb hby at_83) rfl ?_
      show Steps p.tables e below (T16.setTop (mkF m 84 #[.val (.int p0), .val (.int p1), .val (.ref b2), .val (.int v3_52), .unset, .unset] [(.int ((100 : Int32) + ((p1 &&& (2147483647 : Int32)) % (500 : Int32))))])) _
      refine XS.istore X16.here hx rfl (hb hby at_84) rfl (l' := #[.val (.int p0), .val (.int p1), .val (.ref b2), .val (.int v3_52), .val (.int ((100 : Int32) + ((p1 &&& (2147483647 : Int32)) % (500 : Int32)))), .unset]) rfl ?_
      have qm4_86 : m4_86 = ((100 : Int32) + ((p1 &&& (2147483647 : Int32)) % (500 : Int32))) := by rw [hm4_86, if_neg hc56]
      rw [qm4_86] at k
      exact k
  by_cases ht403 : m4_86 = (403 : Int32)
  · have pre22 : ∀ t, Steps p.tables e below (T16.setTop (mkF m 88 #[.val (.int p0), .val (.int p1), .val (.ref b2), .val (.int v3_52), .val (.int m4_86), .unset] [(.int m4_86)])) t → Steps p.tables e below (s₁.setTop (entryFrame m #[(.int p0), (.int p1)] maxLocals)) t := by
      intro t k
      refine pre20 t ?_
      show Steps p.tables e below (T16.setTop (mkF m 86 #[.val (.int p0), .val (.int p1), .val (.ref b2), .val (.int v3_52), .val (.int m4_86), .unset] [])) _
      refine XS.iload X16.here hx rfl (hb hby at_86) rfl  ?_
      exact k
    obtain ⟨_, _, ⟨T21, L21, k21, n21⟩, -, X21, ⟨Lc21, hQ21, l21, y21, z21⟩, st21⟩ := Jvm.LawKit.callS X16 hx (y := (⟨"com/example/fanoutd/fanoutd/proxy/NextUpstream$Condition", "ofStatus", "(I)Lcom/example/fanoutd/fanoutd/proxy/NextUpstream$Condition;"⟩ : MethodName)) hown (mvT hZ (hw _ (List.mem_of_getElem? (i := 1) rfl))) (mvT hZ (hw _ (List.mem_of_getElem? (i := 2) rfl))) (mvT hZ (hw _ (List.mem_of_getElem? (i := 3) rfl))) (mvT hZ (hw _ (List.mem_of_getElem? (i := 4) rfl))) (by decide) (backOf (W := 0) (rm_1t403 l Z a0 hw [] m4_86 en0 en1 en2 en3 en4 en5 en6 en7 en8 en9 en10 al h16 n0 Z16 sta_com_example_fanoutd_fanoutd_proxy_NextUpstream_Condition_ERROR_16 sta_com_example_fanoutd_fanoutd_proxy_NextUpstream_Condition_TIMEOUT_16 sta_com_example_fanoutd_fanoutd_proxy_NextUpstream_Condition_INVALID_HEADER_16 sta_com_example_fanoutd_fanoutd_proxy_NextUpstream_Condition_HTTP_500_16 sta_com_example_fanoutd_fanoutd_proxy_NextUpstream_Condition_HTTP_502_16 sta_com_example_fanoutd_fanoutd_proxy_NextUpstream_Condition_HTTP_503_16 sta_com_example_fanoutd_fanoutd_proxy_NextUpstream_Condition_HTTP_504_16 sta_com_example_fanoutd_fanoutd_proxy_NextUpstream_Condition_HTTP_403_16 sta_com_example_fanoutd_fanoutd_proxy_NextUpstream_Condition_HTTP_404_16 sta_com_example_fanoutd_fanoutd_proxy_NextUpstream_Condition_HTTP_429_16 sta_com_example_fanoutd_fanoutd_proxy_NextUpstream_Condition_NON_IDEMPOTENT_16 sta_com_example_fanoutd_fanoutd_proxy_NextUpstream_Condition_ALL_16 arr_al_16 fld_en0_status_16 fld_en1_status_16 fld_en2_status_16 fld_en3_status_16 fld_en4_status_16 fld_en5_status_16 fld_en6_status_16 fld_en7_status_16 fld_en8_status_16 fld_en9_status_16 fld_en10_status_16 ht403) hZ (hw _ (List.mem_of_getElem? (i := 4) rfl)) (hw _ (List.mem_of_getElem? (i := 3) rfl)) (by decide) (by decide)) (g := (mkF m 88 #[.val (.int p0), .val (.int p1), .val (.ref b2), .val (.int v3_52), .val (.int m4_86), .unset] [(.int m4_86)])) rfl (by rw [hml]; rfl) (argsL := [(.int m4_86)]) (rest := []) (lenOf pd_0 rfl) rfl (by show 2 * 0 + _ ≤ _; exact Nat.le_of_eq rfl) (hb hby at_88) (fun _ _ => ⟨rfl, e16, (by decide : 1 + 0 ≤ _), (by decide : 7 + 0 ≤ _)⟩)
    dsimp only [Pt.U, Pt.locs, Pt.cells, Pt.slots] at X21 l21 y21 z21 st21 hQ21
    subst l21 y21 z21
    obtain ⟨rfl, N21q, e21⟩ := hQ21
    have N21 := Fr.app N16 N21q
    have pre24 : ∀ t, Steps p.tables e below (T21.setTop (mkF m 97 #[.val (.int p0), .val (.int p1), .val (.ref b2), .val (.int v3_52), .val (.int m4_86), .val (.ref en7)] [(.int m4_86), (.ref en7)])) t → Steps p.tables e below (s₁.setTop (entryFrame m #[(.int p0), (.int p1)] maxLocals)) t := by
      intro t k
      refine pre22 t ?_
      show Steps p.tables e below (T16.setTop (mkF m 88 #[.val (.int p0), .val (.int p1), .val (.ref b2), .val (.int v3_52), .val (.int m4_86), .unset] [(.int m4_86)])) _
      refine st21 _ ?_
      show Steps p.tables e below (T21.setTop (mkF m 91 #[.val (.int p0), .val (.int p1), .val (.ref b2), .val (.int v3_52), .val (.int m4_86), .unset] [(.ref en7)])) _
      refine XS.astore X21.here hx rfl (hb hby at_91) rfl rfl (l' := #[.val (.int p0), .val (.int p1), .val (.ref b2), .val (.int v3_52), .val (.int m4_86), .val (.ref en7)]) rfl ?_
      show Steps p.tables e below (T21.setTop (mkF m 93 #[.val (.int p0), .val (.int p1), .val (.ref b2), .val (.int v3_52), .val (.int m4_86), .val (.ref en7)] [])) _
      refine XS.aload X21.here hx rfl (hb hby at_93) rfl rfl ?_
      show Steps p.tables e below (T21.setTop (mkF m 95 #[.val (.int p0), .val (.int p1), .val (.ref b2), .val (.int v3_52), .val (.int m4_86), .val (.ref en7)] [(.ref en7)])) _
      refine XS.iload X21.here hx rfl (hb hby at_95) rfl  ?_
      exact k
    obtain ⟨_, _, ⟨T23, L23, k23, n23⟩, -, X23, ⟨Lc23, hQ23, l23, y23, z23⟩, st23⟩ := Jvm.LawKit.callS X21 hx (y := (⟨"com/example/fanoutd/fanoutd/proxy/ConditionOfStatusPinLaw", "expected", "(I)Lcom/example/fanoutd/fanoutd/proxy/NextUpstream$Condition;"⟩ : MethodName)) hown (mvT hZ (hw _ (List.mem_of_getElem? (i := 20) rfl))) (mvT hZ (hw _ (List.mem_of_getElem? (i := 21) rfl))) (mvT hZ (hw _ (List.mem_of_getElem? (i := 22) rfl))) (mvT hZ (hw _ (List.mem_of_getElem? (i := 23) rfl))) (by decide) (backOf (W := 1) (rm_2t403 l Z a0 hw [] m4_86 en0 en1 en2 en3 en4 en5 en6 en7 en8 en9 en10 h16 n0 Z16 sta_com_example_fanoutd_fanoutd_proxy_NextUpstream_Condition_ERROR_16 sta_com_example_fanoutd_fanoutd_proxy_NextUpstream_Condition_TIMEOUT_16 sta_com_example_fanoutd_fanoutd_proxy_NextUpstream_Condition_INVALID_HEADER_16 sta_com_example_fanoutd_fanoutd_proxy_NextUpstream_Condition_HTTP_500_16 sta_com_example_fanoutd_fanoutd_proxy_NextUpstream_Condition_HTTP_502_16 sta_com_example_fanoutd_fanoutd_proxy_NextUpstream_Condition_HTTP_503_16 sta_com_example_fanoutd_fanoutd_proxy_NextUpstream_Condition_HTTP_504_16 sta_com_example_fanoutd_fanoutd_proxy_NextUpstream_Condition_HTTP_403_16 sta_com_example_fanoutd_fanoutd_proxy_NextUpstream_Condition_HTTP_404_16 sta_com_example_fanoutd_fanoutd_proxy_NextUpstream_Condition_HTTP_429_16 sta_com_example_fanoutd_fanoutd_proxy_NextUpstream_Condition_NON_IDEMPOTENT_16 ht403) hZ (hw _ (List.mem_of_getElem? (i := 23) rfl)) (hw _ (List.mem_of_getElem? (i := 22) rfl)) (by decide) (by decide)) (g := (mkF m 97 #[.val (.int p0), .val (.int p1), .val (.ref b2), .val (.int v3_52), .val (.int m4_86), .val (.ref en7)] [(.int m4_86), (.ref en7)])) rfl (by rw [hml]; rfl) (argsL := [(.int m4_86)]) (rest := [(.ref en7)]) (lenOf pd_0 rfl) rfl (by show 2 * 0 + _ ≤ _; exact Nat.le_of_eq rfl) (hb hby at_97) (fun _ _ => ⟨rfl, e21, (by decide : 1 + 0 ≤ _), (by decide : 7 + 0 ≤ _)⟩)
    dsimp only [Pt.U, Pt.locs, Pt.cells, Pt.slots] at X23 l23 y23 z23 st23 hQ23
    subst l23 y23 z23
    obtain ⟨rfl, N23q, e23⟩ := hQ23
    have N23 := Fr.app N21 N23q
    have pre25 : ∀ t, Steps p.tables e below (T23.setTop (mkF m 100 #[.val (.int p0), .val (.int p1), .val (.ref b2), .val (.int v3_52), .val (.int m4_86), .val (.ref en7)] [(.ref en7), (.ref en7)])) t → Steps p.tables e below (s₁.setTop (entryFrame m #[(.int p0), (.int p1)] maxLocals)) t := by
      intro t k
      refine pre24 t ?_
      show Steps p.tables e below (T21.setTop (mkF m 97 #[.val (.int p0), .val (.int p1), .val (.ref b2), .val (.int v3_52), .val (.int m4_86), .val (.ref en7)] [(.int m4_86), (.ref en7)])) _
      refine st23 _ ?_
      exact k
    have pre26 : ∀ t, Steps p.tables e below (T23.setTop (mkF m 108 #[.val (.int p0), .val (.int p1), .val (.ref b2), .val (.int v3_52), .val (.int m4_86), .val (.ref en7)] [(.int (1 : Int32))])) t → Steps p.tables e below (s₁.setTop (entryFrame m #[(.int p0), (.int p1)] maxLocals)) t := by
      intro t k
      refine pre25 t ?_
      show Steps p.tables e below (T23.setTop (mkF m 100 #[.val (.int p0), .val (.int p1), .val (.ref b2), .val (.int v3_52), .val (.int m4_86), .val (.ref en7)] [(.ref en7), (.ref en7)])) _
      refine Jvm.RoadKit.acmp (g := (mkF m 100 #[.val (.int p0), .val (.int p1), .val (.ref b2), .val (.int v3_52), .val (.int m4_86), .val (.ref en7)] [(.ref en7), (.ref en7)])) X23 hx rfl rfl rfl (pc0 := 100) (pc' := 103) (same := true) rfl (hb hby at_100) rfl (decide_eq_true rfl) (by decide) (by decide) ?_
      show Steps p.tables e below (T23.setTop (mkF m 103 #[.val (.int p0), .val (.int p1), .val (.ref b2), .val (.int v3_52), .val (.int m4_86), .val (.ref en7)] [])) _
      refine XS.iconst X23.here hx rfl (hb hby at_103) ?_
      show Steps p.tables e below (T23.setTop (mkF m 104 #[.val (.int p0), .val (.int p1), .val (.ref b2), .val (.int v3_52), .val (.int m4_86), .val (.ref en7)] [(.int (1 : Int32))])) _
      refine XS.goto X23.here hx rfl (pc0 := 104) (pc' := 108) rfl (hb hby at_104) (by decide) (by decide) ?_
      exact k
    obtain ⟨fs, hr, hrun, hended, hW, hsame⟩ := X23.leave (v := some (.int (1 : Int32))) (fun h => by rw [Bd.returns] at h; cases h) (BodyLoose.notSynchronized Bd)
    refine ⟨_, _, pre26 _ ?_, hrun, hended, _, _, rfl, ?_, ⟨_, rfl⟩, hW, hsame.mono (by decide) (by decide)⟩
    · show Steps p.tables e below (T23.setTop (mkF m 108 #[.val (.int p0), .val (.int p1), .val (.ref b2), .val (.int v3_52), .val (.int m4_86), .val (.ref en7)] [(.int (1 : Int32))])) _
      exact retN X23 hx (t := .boolean) Bd.returns (by simp) (hb hby at_108) hr
    · show Q_0 Z p0 p1 en0 en1 en2 en3 en4 en5 en6 en7 en8 en9 en10 al h0 n0 _ T23.heap _
      rw [e23]
      exact ⟨congrArg (fun z => some (Value.int z)) (by subst hg_9 hg_15 hg_21 hg_27 hg_33 hg_39 hg_46 hv3_52 hm4_86; exact (if_pos ht403).symm : (1 : Int32) = f_0 p0 p1), N23, trivial⟩
  · by_cases ht404 : m4_86 = (404 : Int32)
    · have pre28 : ∀ t, Steps p.tables e below (T16.setTop (mkF m 88 #[.val (.int p0), .val (.int p1), .val (.ref b2), .val (.int v3_52), .val (.int m4_86), .unset] [(.int m4_86)])) t → Steps p.tables e below (s₁.setTop (entryFrame m #[(.int p0), (.int p1)] maxLocals)) t := by
        intro t k
        refine pre20 t ?_
        show Steps p.tables e below (T16.setTop (mkF m 86 #[.val (.int p0), .val (.int p1), .val (.ref b2), .val (.int v3_52), .val (.int m4_86), .unset] [])) _
        refine XS.iload X16.here hx rfl (hb hby at_86) rfl  ?_
        exact k
      obtain ⟨_, _, ⟨T27, L27, k27, n27⟩, -, X27, ⟨Lc27, hQ27, l27, y27, z27⟩, st27⟩ := Jvm.LawKit.callS X16 hx (y := (⟨"com/example/fanoutd/fanoutd/proxy/NextUpstream$Condition", "ofStatus", "(I)Lcom/example/fanoutd/fanoutd/proxy/NextUpstream$Condition;"⟩ : MethodName)) hown (mvT hZ (hw _ (List.mem_of_getElem? (i := 1) rfl))) (mvT hZ (hw _ (List.mem_of_getElem? (i := 2) rfl))) (mvT hZ (hw _ (List.mem_of_getElem? (i := 3) rfl))) (mvT hZ (hw _ (List.mem_of_getElem? (i := 4) rfl))) (by decide) (backOf (W := 0) (rm_1t404 l Z a0 hw [] m4_86 en0 en1 en2 en3 en4 en5 en6 en7 en8 en9 en10 al h16 n0 Z16 sta_com_example_fanoutd_fanoutd_proxy_NextUpstream_Condition_ERROR_16 sta_com_example_fanoutd_fanoutd_proxy_NextUpstream_Condition_TIMEOUT_16 sta_com_example_fanoutd_fanoutd_proxy_NextUpstream_Condition_INVALID_HEADER_16 sta_com_example_fanoutd_fanoutd_proxy_NextUpstream_Condition_HTTP_500_16 sta_com_example_fanoutd_fanoutd_proxy_NextUpstream_Condition_HTTP_502_16 sta_com_example_fanoutd_fanoutd_proxy_NextUpstream_Condition_HTTP_503_16 sta_com_example_fanoutd_fanoutd_proxy_NextUpstream_Condition_HTTP_504_16 sta_com_example_fanoutd_fanoutd_proxy_NextUpstream_Condition_HTTP_403_16 sta_com_example_fanoutd_fanoutd_proxy_NextUpstream_Condition_HTTP_404_16 sta_com_example_fanoutd_fanoutd_proxy_NextUpstream_Condition_HTTP_429_16 sta_com_example_fanoutd_fanoutd_proxy_NextUpstream_Condition_NON_IDEMPOTENT_16 sta_com_example_fanoutd_fanoutd_proxy_NextUpstream_Condition_ALL_16 arr_al_16 fld_en0_status_16 fld_en1_status_16 fld_en2_status_16 fld_en3_status_16 fld_en4_status_16 fld_en5_status_16 fld_en6_status_16 fld_en7_status_16 fld_en8_status_16 fld_en9_status_16 fld_en10_status_16 ht404) hZ (hw _ (List.mem_of_getElem? (i := 4) rfl)) (hw _ (List.mem_of_getElem? (i := 3) rfl)) (by decide) (by decide)) (g := (mkF m 88 #[.val (.int p0), .val (.int p1), .val (.ref b2), .val (.int v3_52), .val (.int m4_86), .unset] [(.int m4_86)])) rfl (by rw [hml]; rfl) (argsL := [(.int m4_86)]) (rest := []) (lenOf pd_0 rfl) rfl (by show 2 * 0 + _ ≤ _; exact Nat.le_of_eq rfl) (hb hby at_88) (fun _ _ => ⟨rfl, e16, (by decide : 1 + 0 ≤ _), (by decide : 7 + 0 ≤ _)⟩)
      dsimp only [Pt.U, Pt.locs, Pt.cells, Pt.slots] at X27 l27 y27 z27 st27 hQ27
      subst l27 y27 z27
      obtain ⟨rfl, N27q, e27⟩ := hQ27
      have N27 := Fr.app N16 N27q
      have pre30 : ∀ t, Steps p.tables e below (T27.setTop (mkF m 97 #[.val (.int p0), .val (.int p1), .val (.ref b2), .val (.int v3_52), .val (.int m4_86), .val (.ref en8)] [(.int m4_86), (.ref en8)])) t → Steps p.tables e below (s₁.setTop (entryFrame m #[(.int p0), (.int p1)] maxLocals)) t := by
        intro t k
        refine pre28 t ?_
        show Steps p.tables e below (T16.setTop (mkF m 88 #[.val (.int p0), .val (.int p1), .val (.ref b2), .val (.int v3_52), .val (.int m4_86), .unset] [(.int m4_86)])) _
        refine st27 _ ?_
        show Steps p.tables e below (T27.setTop (mkF m 91 #[.val (.int p0), .val (.int p1), .val (.ref b2), .val (.int v3_52), .val (.int m4_86), .unset] [(.ref en8)])) _
        refine XS.astore X27.here hx rfl (hb hby at_91) rfl rfl (l' := #[.val (.int p0), .val (.int p1), .val (.ref b2), .val (.int v3_52), .val (.int m4_86), .val (.ref en8)]) rfl ?_
        show Steps p.tables e below (T27.setTop (mkF m 93 #[.val (.int p0), .val (.int p1), .val (.ref b2), .val (.int v3_52), .val (.int m4_86), .val (.ref en8)] [])) _
        refine XS.aload X27.here hx rfl (hb hby at_93) rfl rfl ?_
        show Steps p.tables e below (T27.setTop (mkF m 95 #[.val (.int p0), .val (.int p1), .val (.ref b2), .val (.int v3_52), .val (.int m4_86), .val (.ref en8)] [(.ref en8)])) _
        refine XS.iload X27.here hx rfl (hb hby at_95) rfl  ?_
        exact k
      obtain ⟨_, _, ⟨T29, L29, k29, n29⟩, -, X29, ⟨Lc29, hQ29, l29, y29, z29⟩, st29⟩ := Jvm.LawKit.callS X27 hx (y := (⟨"com/example/fanoutd/fanoutd/proxy/ConditionOfStatusPinLaw", "expected", "(I)Lcom/example/fanoutd/fanoutd/proxy/NextUpstream$Condition;"⟩ : MethodName)) hown (mvT hZ (hw _ (List.mem_of_getElem? (i := 20) rfl))) (mvT hZ (hw _ (List.mem_of_getElem? (i := 21) rfl))) (mvT hZ (hw _ (List.mem_of_getElem? (i := 22) rfl))) (mvT hZ (hw _ (List.mem_of_getElem? (i := 23) rfl))) (by decide) (backOf (W := 1) (rm_2t404 l Z a0 hw [] m4_86 en0 en1 en2 en3 en4 en5 en6 en7 en8 en9 en10 h16 n0 Z16 sta_com_example_fanoutd_fanoutd_proxy_NextUpstream_Condition_ERROR_16 sta_com_example_fanoutd_fanoutd_proxy_NextUpstream_Condition_TIMEOUT_16 sta_com_example_fanoutd_fanoutd_proxy_NextUpstream_Condition_INVALID_HEADER_16 sta_com_example_fanoutd_fanoutd_proxy_NextUpstream_Condition_HTTP_500_16 sta_com_example_fanoutd_fanoutd_proxy_NextUpstream_Condition_HTTP_502_16 sta_com_example_fanoutd_fanoutd_proxy_NextUpstream_Condition_HTTP_503_16 sta_com_example_fanoutd_fanoutd_proxy_NextUpstream_Condition_HTTP_504_16 sta_com_example_fanoutd_fanoutd_proxy_NextUpstream_Condition_HTTP_403_16 sta_com_example_fanoutd_fanoutd_proxy_NextUpstream_Condition_HTTP_404_16 sta_com_example_fanoutd_fanoutd_proxy_NextUpstream_Condition_HTTP_429_16 sta_com_example_fanoutd_fanoutd_proxy_NextUpstream_Condition_NON_IDEMPOTENT_16 ht404) hZ (hw _ (List.mem_of_getElem? (i := 23) rfl)) (hw _ (List.mem_of_getElem? (i := 22) rfl)) (by decide) (by decide)) (g := (mkF m 97 #[.val (.int p0), .val (.int p1), .val (.ref b2), .val (.int v3_52), .val (.int m4_86), .val (.ref en8)] [(.int m4_86), (.ref en8)])) rfl (by rw [hml]; rfl) (argsL := [(.int m4_86)]) (rest := [(.ref en8)]) (lenOf pd_0 rfl) rfl (by show 2 * 0 + _ ≤ _; exact Nat.le_of_eq rfl) (hb hby at_97) (fun _ _ => ⟨rfl, e27, (by decide : 1 + 0 ≤ _), (by decide : 7 + 0 ≤ _)⟩)
      dsimp only [Pt.U, Pt.locs, Pt.cells, Pt.slots] at X29 l29 y29 z29 st29 hQ29
      subst l29 y29 z29
      obtain ⟨rfl, N29q, e29⟩ := hQ29
      have N29 := Fr.app N27 N29q
      have pre31 : ∀ t, Steps p.tables e below (T29.setTop (mkF m 100 #[.val (.int p0), .val (.int p1), .val (.ref b2), .val (.int v3_52), .val (.int m4_86), .val (.ref en8)] [(.ref en8), (.ref en8)])) t → Steps p.tables e below (s₁.setTop (entryFrame m #[(.int p0), (.int p1)] maxLocals)) t := by
        intro t k
        refine pre30 t ?_
        show Steps p.tables e below (T27.setTop (mkF m 97 #[.val (.int p0), .val (.int p1), .val (.ref b2), .val (.int v3_52), .val (.int m4_86), .val (.ref en8)] [(.int m4_86), (.ref en8)])) _
        refine st29 _ ?_
        exact k
      have pre32 : ∀ t, Steps p.tables e below (T29.setTop (mkF m 108 #[.val (.int p0), .val (.int p1), .val (.ref b2), .val (.int v3_52), .val (.int m4_86), .val (.ref en8)] [(.int (1 : Int32))])) t → Steps p.tables e below (s₁.setTop (entryFrame m #[(.int p0), (.int p1)] maxLocals)) t := by
        intro t k
        refine pre31 t ?_
        show Steps p.tables e below (T29.setTop (mkF m 100 #[.val (.int p0), .val (.int p1), .val (.ref b2), .val (.int v3_52), .val (.int m4_86), .val (.ref en8)] [(.ref en8), (.ref en8)])) _
        refine Jvm.RoadKit.acmp (g := (mkF m 100 #[.val (.int p0), .val (.int p1), .val (.ref b2), .val (.int v3_52), .val (.int m4_86), .val (.ref en8)] [(.ref en8), (.ref en8)])) X29 hx rfl rfl rfl (pc0 := 100) (pc' := 103) (same := true) rfl (hb hby at_100) rfl (decide_eq_true rfl) (by decide) (by decide) ?_
        show Steps p.tables e below (T29.setTop (mkF m 103 #[.val (.int p0), .val (.int p1), .val (.ref b2), .val (.int v3_52), .val (.int m4_86), .val (.ref en8)] [])) _
        refine XS.iconst X29.here hx rfl (hb hby at_103) ?_
        show Steps p.tables e below (T29.setTop (mkF m 104 #[.val (.int p0), .val (.int p1), .val (.ref b2), .val (.int v3_52), .val (.int m4_86), .val (.ref en8)] [(.int (1 : Int32))])) _
        refine XS.goto X29.here hx rfl (pc0 := 104) (pc' := 108) rfl (hb hby at_104) (by decide) (by decide) ?_
        exact k
      obtain ⟨fs, hr, hrun, hended, hW, hsame⟩ := X29.leave (v := some (.int (1 : Int32))) (fun h => by rw [Bd.returns] at h; cases h) (BodyLoose.notSynchronized Bd)
      refine ⟨_, _, pre32 _ ?_, hrun, hended, _, _, rfl, ?_, ⟨_, rfl⟩, hW, hsame.mono (by decide) (by decide)⟩
      · show Steps p.tables e below (T29.setTop (mkF m 108 #[.val (.int p0), .val (.int p1), .val (.ref b2), .val (.int v3_52), .val (.int m4_86), .val (.ref en8)] [(.int (1 : Int32))])) _
        exact retN X29 hx (t := .boolean) Bd.returns (by simp) (hb hby at_108) hr
      · show Q_0 Z p0 p1 en0 en1 en2 en3 en4 en5 en6 en7 en8 en9 en10 al h0 n0 _ T29.heap _
        rw [e29]
        exact ⟨congrArg (fun z => some (Value.int z)) (by subst hg_9 hg_15 hg_21 hg_27 hg_33 hg_39 hg_46 hv3_52 hm4_86; exact ((if_neg ht403).trans (if_pos ht404)).symm : (1 : Int32) = f_0 p0 p1), N29, trivial⟩
    · by_cases ht429 : m4_86 = (429 : Int32)
      · have pre34 : ∀ t, Steps p.tables e below (T16.setTop (mkF m 88 #[.val (.int p0), .val (.int p1), .val (.ref b2), .val (.int v3_52), .val (.int m4_86), .unset] [(.int m4_86)])) t → Steps p.tables e below (s₁.setTop (entryFrame m #[(.int p0), (.int p1)] maxLocals)) t := by
          intro t k
          refine pre20 t ?_
          show Steps p.tables e below (T16.setTop (mkF m 86 #[.val (.int p0), .val (.int p1), .val (.ref b2), .val (.int v3_52), .val (.int m4_86), .unset] [])) _
          refine XS.iload X16.here hx rfl (hb hby at_86) rfl  ?_
          exact k
        obtain ⟨_, _, ⟨T33, L33, k33, n33⟩, -, X33, ⟨Lc33, hQ33, l33, y33, z33⟩, st33⟩ := Jvm.LawKit.callS X16 hx (y := (⟨"com/example/fanoutd/fanoutd/proxy/NextUpstream$Condition", "ofStatus", "(I)Lcom/example/fanoutd/fanoutd/proxy/NextUpstream$Condition;"⟩ : MethodName)) hown (mvT hZ (hw _ (List.mem_of_getElem? (i := 1) rfl))) (mvT hZ (hw _ (List.mem_of_getElem? (i := 2) rfl))) (mvT hZ (hw _ (List.mem_of_getElem? (i := 3) rfl))) (mvT hZ (hw _ (List.mem_of_getElem? (i := 4) rfl))) (by decide) (backOf (W := 0) (rm_1t429 l Z a0 hw [] m4_86 en0 en1 en2 en3 en4 en5 en6 en7 en8 en9 en10 al h16 n0 Z16 sta_com_example_fanoutd_fanoutd_proxy_NextUpstream_Condition_ERROR_16 sta_com_example_fanoutd_fanoutd_proxy_NextUpstream_Condition_TIMEOUT_16 sta_com_example_fanoutd_fanoutd_proxy_NextUpstream_Condition_INVALID_HEADER_16 sta_com_example_fanoutd_fanoutd_proxy_NextUpstream_Condition_HTTP_500_16 sta_com_example_fanoutd_fanoutd_proxy_NextUpstream_Condition_HTTP_502_16 sta_com_example_fanoutd_fanoutd_proxy_NextUpstream_Condition_HTTP_503_16 sta_com_example_fanoutd_fanoutd_proxy_NextUpstream_Condition_HTTP_504_16 sta_com_example_fanoutd_fanoutd_proxy_NextUpstream_Condition_HTTP_403_16 sta_com_example_fanoutd_fanoutd_proxy_NextUpstream_Condition_HTTP_404_16 sta_com_example_fanoutd_fanoutd_proxy_NextUpstream_Condition_HTTP_429_16 sta_com_example_fanoutd_fanoutd_proxy_NextUpstream_Condition_NON_IDEMPOTENT_16 sta_com_example_fanoutd_fanoutd_proxy_NextUpstream_Condition_ALL_16 arr_al_16 fld_en0_status_16 fld_en1_status_16 fld_en2_status_16 fld_en3_status_16 fld_en4_status_16 fld_en5_status_16 fld_en6_status_16 fld_en7_status_16 fld_en8_status_16 fld_en9_status_16 fld_en10_status_16 ht429) hZ (hw _ (List.mem_of_getElem? (i := 4) rfl)) (hw _ (List.mem_of_getElem? (i := 3) rfl)) (by decide) (by decide)) (g := (mkF m 88 #[.val (.int p0), .val (.int p1), .val (.ref b2), .val (.int v3_52), .val (.int m4_86), .unset] [(.int m4_86)])) rfl (by rw [hml]; rfl) (argsL := [(.int m4_86)]) (rest := []) (lenOf pd_0 rfl) rfl (by show 2 * 0 + _ ≤ _; exact Nat.le_of_eq rfl) (hb hby at_88) (fun _ _ => ⟨rfl, e16, (by decide : 1 + 0 ≤ _), (by decide : 7 + 0 ≤ _)⟩)
        dsimp only [Pt.U, Pt.locs, Pt.cells, Pt.slots] at X33 l33 y33 z33 st33 hQ33
        subst l33 y33 z33
        obtain ⟨rfl, N33q, e33⟩ := hQ33
        have N33 := Fr.app N16 N33q
        have pre36 : ∀ t, Steps p.tables e below (T33.setTop (mkF m 97 #[.val (.int p0), .val (.int p1), .val (.ref b2), .val (.int v3_52), .val (.int m4_86), .val (.ref en9)] [(.int m4_86), (.ref en9)])) t → Steps p.tables e below (s₁.setTop (entryFrame m #[(.int p0), (.int p1)] maxLocals)) t := by
          intro t k
          refine pre34 t ?_
          show Steps p.tables e below (T16.setTop (mkF m 88 #[.val (.int p0), .val (.int p1), .val (.ref b2), .val (.int v3_52), .val (.int m4_86), .unset] [(.int m4_86)])) _
          refine st33 _ ?_
          show Steps p.tables e below (T33.setTop (mkF m 91 #[.val (.int p0), .val (.int p1), .val (.ref b2), .val (.int v3_52), .val (.int m4_86), .unset] [(.ref en9)])) _
          refine XS.astore X33.here hx rfl (hb hby at_91) rfl rfl (l' := #[.val (.int p0), .val (.int p1), .val (.ref b2), .val (.int v3_52), .val (.int m4_86), .val (.ref en9)]) rfl ?_
          show Steps p.tables e below (T33.setTop (mkF m 93 #[.val (.int p0), .val (.int p1), .val (.ref b2), .val (.int v3_52), .val (.int m4_86), .val (.ref en9)] [])) _
          refine XS.aload X33.here hx rfl (hb hby at_93) rfl rfl ?_
          show Steps p.tables e below (T33.setTop (mkF m 95 #[.val (.int p0), .val (.int p1), .val (.ref b2), .val (.int v3_52), .val (.int m4_86), .val (.ref en9)] [(.ref en9)])) _
          refine XS.iload X33.here hx rfl (hb hby at_95) rfl  ?_
          exact k
        obtain ⟨_, _, ⟨T35, L35, k35, n35⟩, -, X35, ⟨Lc35, hQ35, l35, y35, z35⟩, st35⟩ := Jvm.LawKit.callS X33 hx (y := (⟨"com/example/fanoutd/fanoutd/proxy/ConditionOfStatusPinLaw", "expected", "(I)Lcom/example/fanoutd/fanoutd/proxy/NextUpstream$Condition;"⟩ : MethodName)) hown (mvT hZ (hw _ (List.mem_of_getElem? (i := 20) rfl))) (mvT hZ (hw _ (List.mem_of_getElem? (i := 21) rfl))) (mvT hZ (hw _ (List.mem_of_getElem? (i := 22) rfl))) (mvT hZ (hw _ (List.mem_of_getElem? (i := 23) rfl))) (by decide) (backOf (W := 1) (rm_2t429 l Z a0 hw [] m4_86 en0 en1 en2 en3 en4 en5 en6 en7 en8 en9 en10 h16 n0 Z16 sta_com_example_fanoutd_fanoutd_proxy_NextUpstream_Condition_ERROR_16 sta_com_example_fanoutd_fanoutd_proxy_NextUpstream_Condition_TIMEOUT_16 sta_com_example_fanoutd_fanoutd_proxy_NextUpstream_Condition_INVALID_HEADER_16 sta_com_example_fanoutd_fanoutd_proxy_NextUpstream_Condition_HTTP_500_16 sta_com_example_fanoutd_fanoutd_proxy_NextUpstream_Condition_HTTP_502_16 sta_com_example_fanoutd_fanoutd_proxy_NextUpstream_Condition_HTTP_503_16 sta_com_example_fanoutd_fanoutd_proxy_NextUpstream_Condition_HTTP_504_16 sta_com_example_fanoutd_fanoutd_proxy_NextUpstream_Condition_HTTP_403_16 sta_com_example_fanoutd_fanoutd_proxy_NextUpstream_Condition_HTTP_404_16 sta_com_example_fanoutd_fanoutd_proxy_NextUpstream_Condition_HTTP_429_16 sta_com_example_fanoutd_fanoutd_proxy_NextUpstream_Condition_NON_IDEMPOTENT_16 ht429) hZ (hw _ (List.mem_of_getElem? (i := 23) rfl)) (hw _ (List.mem_of_getElem? (i := 22) rfl)) (by decide) (by decide)) (g := (mkF m 97 #[.val (.int p0), .val (.int p1), .val (.ref b2), .val (.int v3_52), .val (.int m4_86), .val (.ref en9)] [(.int m4_86), (.ref en9)])) rfl (by rw [hml]; rfl) (argsL := [(.int m4_86)]) (rest := [(.ref en9)]) (lenOf pd_0 rfl) rfl (by show 2 * 0 + _ ≤ _; exact Nat.le_of_eq rfl) (hb hby at_97) (fun _ _ => ⟨rfl, e33, (by decide : 1 + 0 ≤ _), (by decide : 7 + 0 ≤ _)⟩)
        dsimp only [Pt.U, Pt.locs, Pt.cells, Pt.slots] at X35 l35 y35 z35 st35 hQ35
        subst l35 y35 z35
        obtain ⟨rfl, N35q, e35⟩ := hQ35
        have N35 := Fr.app N33 N35q
        have pre37 : ∀ t, Steps p.tables e below (T35.setTop (mkF m 100 #[.val (.int p0), .val (.int p1), .val (.ref b2), .val (.int v3_52), .val (.int m4_86), .val (.ref en9)] [(.ref en9), (.ref en9)])) t → Steps p.tables e below (s₁.setTop (entryFrame m #[(.int p0), (.int p1)] maxLocals)) t := by
          intro t k
          refine pre36 t ?_
          show Steps p.tables e below (T33.setTop (mkF m 97 #[.val (.int p0), .val (.int p1), .val (.ref b2), .val (.int v3_52), .val (.int m4_86), .val (.ref en9)] [(.int m4_86), (.ref en9)])) _
          refine st35 _ ?_
          exact k
        have pre38 : ∀ t, Steps p.tables e below (T35.setTop (mkF m 108 #[.val (.int p0), .val (.int p1), .val (.ref b2), .val (.int v3_52), .val (.int m4_86), .val (.ref en9)] [(.int (1 : Int32))])) t → Steps p.tables e below (s₁.setTop (entryFrame m #[(.int p0), (.int p1)] maxLocals)) t := by
          intro t k
          refine pre37 t ?_
          show Steps p.tables e below (T35.setTop (mkF m 100 #[.val (.int p0), .val (.int p1), .val (.ref b2), .val (.int v3_52), .val (.int m4_86), .val (.ref en9)] [(.ref en9), (.ref en9)])) _
          refine Jvm.RoadKit.acmp (g := (mkF m 100 #[.val (.int p0), .val (.int p1), .val (.ref b2), .val (.int v3_52), .val (.int m4_86), .val (.ref en9)] [(.ref en9), (.ref en9)])) X35 hx rfl rfl rfl (pc0 := 100) (pc' := 103) (same := true) rfl (hb hby at_100) rfl (decide_eq_true rfl) (by decide) (by decide) ?_
          show Steps p.tables e below (T35.setTop (mkF m 103 #[.val (.int p0), .val (.int p1), .val (.ref b2), .val (.int v3_52), .val (.int m4_86), .val (.ref en9)] [])) _
          refine XS.iconst X35.here hx rfl (hb hby at_103) ?_
          show Steps p.tables e below (T35.setTop (mkF m 104 #[.val (.int p0), .val (.int p1), .val (.ref b2), .val (.int v3_52), .val (.int m4_86), .val (.ref en9)] [(.int (1 : Int32))])) _
          refine XS.goto X35.here hx rfl (pc0 := 104) (pc' := 108) rfl (hb hby at_104) (by decide) (by decide) ?_
          exact k
        obtain ⟨fs, hr, hrun, hended, hW, hsame⟩ := X35.leave (v := some (.int (1 : Int32))) (fun h => by rw [Bd.returns] at h; cases h) (BodyLoose.notSynchronized Bd)
        refine ⟨_, _, pre38 _ ?_, hrun, hended, _, _, rfl, ?_, ⟨_, rfl⟩, hW, hsame.mono (by decide) (by decide)⟩
        · show Steps p.tables e below (T35.setTop (mkF m 108 #[.val (.int p0), .val (.int p1), .val (.ref b2), .val (.int v3_52), .val (.int m4_86), .val (.ref en9)] [(.int (1 : Int32))])) _
          exact retN X35 hx (t := .boolean) Bd.returns (by simp) (hb hby at_108) hr
        · show Q_0 Z p0 p1 en0 en1 en2 en3 en4 en5 en6 en7 en8 en9 en10 al h0 n0 _ T35.heap _
          rw [e35]
          exact ⟨congrArg (fun z => some (Value.int z)) (by subst hg_9 hg_15 hg_21 hg_27 hg_33 hg_39 hg_46 hv3_52 hm4_86; exact ((if_neg ht403).trans ((if_neg ht404).trans (if_pos ht429))).symm : (1 : Int32) = f_0 p0 p1), N35, trivial⟩
      · by_cases ht500 : m4_86 = (500 : Int32)
        · have pre40 : ∀ t, Steps p.tables e below (T16.setTop (mkF m 88 #[.val (.int p0), .val (.int p1), .val (.ref b2), .val (.int v3_52), .val (.int m4_86), .unset] [(.int m4_86)])) t → Steps p.tables e below (s₁.setTop (entryFrame m #[(.int p0), (.int p1)] maxLocals)) t := by
            intro t k
            refine pre20 t ?_
            show Steps p.tables e below (T16.setTop (mkF m 86 #[.val (.int p0), .val (.int p1), .val (.ref b2), .val (.int v3_52), .val (.int m4_86), .unset] [])) _
            refine XS.iload X16.here hx rfl (hb hby at_86) rfl  ?_
            exact k
          obtain ⟨_, _, ⟨T39, L39, k39, n39⟩, -, X39, ⟨Lc39, hQ39, l39, y39, z39⟩, st39⟩ := Jvm.LawKit.callS X16 hx (y := (⟨"com/example/fanoutd/fanoutd/proxy/NextUpstream$Condition", "ofStatus", "(I)Lcom/example/fanoutd/fanoutd/proxy/NextUpstream$Condition;"⟩ : MethodName)) hown (mvT hZ (hw _ (List.mem_of_getElem? (i := 1) rfl))) (mvT hZ (hw _ (List.mem_of_getElem? (i := 2) rfl))) (mvT hZ (hw _ (List.mem_of_getElem? (i := 3) rfl))) (mvT hZ (hw _ (List.mem_of_getElem? (i := 4) rfl))) (by decide) (backOf (W := 0) (rm_1t500 l Z a0 hw [] m4_86 en0 en1 en2 en3 en4 en5 en6 en7 en8 en9 en10 al h16 n0 Z16 sta_com_example_fanoutd_fanoutd_proxy_NextUpstream_Condition_ERROR_16 sta_com_example_fanoutd_fanoutd_proxy_NextUpstream_Condition_TIMEOUT_16 sta_com_example_fanoutd_fanoutd_proxy_NextUpstream_Condition_INVALID_HEADER_16 sta_com_example_fanoutd_fanoutd_proxy_NextUpstream_Condition_HTTP_500_16 sta_com_example_fanoutd_fanoutd_proxy_NextUpstream_Condition_HTTP_502_16 sta_com_example_fanoutd_fanoutd_proxy_NextUpstream_Condition_HTTP_503_16 sta_com_example_fanoutd_fanoutd_proxy_NextUpstream_Condition_HTTP_504_16 sta_com_example_fanoutd_fanoutd_proxy_NextUpstream_Condition_HTTP_403_16 sta_com_example_fanoutd_fanoutd_proxy_NextUpstream_Condition_HTTP_404_16 sta_com_example_fanoutd_fanoutd_proxy_NextUpstream_Condition_HTTP_429_16 sta_com_example_fanoutd_fanoutd_proxy_NextUpstream_Condition_NON_IDEMPOTENT_16 sta_com_example_fanoutd_fanoutd_proxy_NextUpstream_Condition_ALL_16 arr_al_16 fld_en0_status_16 fld_en1_status_16 fld_en2_status_16 fld_en3_status_16 fld_en4_status_16 fld_en5_status_16 fld_en6_status_16 fld_en7_status_16 fld_en8_status_16 fld_en9_status_16 fld_en10_status_16 ht500) hZ (hw _ (List.mem_of_getElem? (i := 4) rfl)) (hw _ (List.mem_of_getElem? (i := 3) rfl)) (by decide) (by decide)) (g := (mkF m 88 #[.val (.int p0), .val (.int p1), .val (.ref b2), .val (.int v3_52), .val (.int m4_86), .unset] [(.int m4_86)])) rfl (by rw [hml]; rfl) (argsL := [(.int m4_86)]) (rest := []) (lenOf pd_0 rfl) rfl (by show 2 * 0 + _ ≤ _; exact Nat.le_of_eq rfl) (hb hby at_88) (fun _ _ => ⟨rfl, e16, (by decide : 1 + 0 ≤ _), (by decide : 7 + 0 ≤ _)⟩)
          dsimp only [Pt.U, Pt.locs, Pt.cells, Pt.slots] at X39 l39 y39 z39 st39 hQ39
          subst l39 y39 z39
          obtain ⟨rfl, N39q, e39⟩ := hQ39
          have N39 := Fr.app N16 N39q
          have pre42 : ∀ t, Steps p.tables e below (T39.setTop (mkF m 97 #[.val (.int p0), .val (.int p1), .val (.ref b2), .val (.int v3_52), .val (.int m4_86), .val (.ref en3)] [(.int m4_86), (.ref en3)])) t → Steps p.tables e below (s₁.setTop (entryFrame m #[(.int p0), (.int p1)] maxLocals)) t := by
            intro t k
            refine pre40 t ?_
            show Steps p.tables e below (T16.setTop (mkF m 88 #[.val (.int p0), .val (.int p1), .val (.ref b2), .val (.int v3_52), .val (.int m4_86), .unset] [(.int m4_86)])) _
            refine st39 _ ?_
            show Steps p.tables e below (T39.setTop (mkF m 91 #[.val (.int p0), .val (.int p1), .val (.ref b2), .val (.int v3_52), .val (.int m4_86), .unset] [(.ref en3)])) _
            refine XS.astore X39.here hx rfl (hb hby at_91) rfl rfl (l' := #[.val (.int p0), .val (.int p1), .val (.ref b2), .val (.int v3_52), .val (.int m4_86), .val (.ref en3)]) rfl ?_
            show Steps p.tables e below (T39.setTop (mkF m 93 #[.val (.int p0), .val (.int p1), .val (.ref b2), .val (.int v3_52), .val (.int m4_86), .val (.ref en3)] [])) _
            refine XS.aload X39.here hx rfl (hb hby at_93) rfl rfl ?_
            show Steps p.tables e below (T39.setTop (mkF m 95 #[.val (.int p0), .val (.int p1), .val (.ref b2), .val (.int v3_52), .val (.int m4_86), .val (.ref en3)] [(.ref en3)])) _
            refine XS.iload X39.here hx rfl (hb hby at_95) rfl  ?_
            exact k
          obtain ⟨_, _, ⟨T41, L41, k41, n41⟩, -, X41, ⟨Lc41, hQ41, l41, y41, z41⟩, st41⟩ := Jvm.LawKit.callS X39 hx (y := (⟨"com/example/fanoutd/fanoutd/proxy/ConditionOfStatusPinLaw", "expected", "(I)Lcom/example/fanoutd/fanoutd/proxy/NextUpstream$Condition;"⟩ : MethodName)) hown (mvT hZ (hw _ (List.mem_of_getElem? (i := 20) rfl))) (mvT hZ (hw _ (List.mem_of_getElem? (i := 21) rfl))) (mvT hZ (hw _ (List.mem_of_getElem? (i := 22) rfl))) (mvT hZ (hw _ (List.mem_of_getElem? (i := 23) rfl))) (by decide) (backOf (W := 1) (rm_2t500 l Z a0 hw [] m4_86 en0 en1 en2 en3 en4 en5 en6 en7 en8 en9 en10 h16 n0 Z16 sta_com_example_fanoutd_fanoutd_proxy_NextUpstream_Condition_ERROR_16 sta_com_example_fanoutd_fanoutd_proxy_NextUpstream_Condition_TIMEOUT_16 sta_com_example_fanoutd_fanoutd_proxy_NextUpstream_Condition_INVALID_HEADER_16 sta_com_example_fanoutd_fanoutd_proxy_NextUpstream_Condition_HTTP_500_16 sta_com_example_fanoutd_fanoutd_proxy_NextUpstream_Condition_HTTP_502_16 sta_com_example_fanoutd_fanoutd_proxy_NextUpstream_Condition_HTTP_503_16 sta_com_example_fanoutd_fanoutd_proxy_NextUpstream_Condition_HTTP_504_16 sta_com_example_fanoutd_fanoutd_proxy_NextUpstream_Condition_HTTP_403_16 sta_com_example_fanoutd_fanoutd_proxy_NextUpstream_Condition_HTTP_404_16 sta_com_example_fanoutd_fanoutd_proxy_NextUpstream_Condition_HTTP_429_16 sta_com_example_fanoutd_fanoutd_proxy_NextUpstream_Condition_NON_IDEMPOTENT_16 ht500) hZ (hw _ (List.mem_of_getElem? (i := 23) rfl)) (hw _ (List.mem_of_getElem? (i := 22) rfl)) (by decide) (by decide)) (g := (mkF m 97 #[.val (.int p0), .val (.int p1), .val (.ref b2), .val (.int v3_52), .val (.int m4_86), .val (.ref en3)] [(.int m4_86), (.ref en3)])) rfl (by rw [hml]; rfl) (argsL := [(.int m4_86)]) (rest := [(.ref en3)]) (lenOf pd_0 rfl) rfl (by show 2 * 0 + _ ≤ _; exact Nat.le_of_eq rfl) (hb hby at_97) (fun _ _ => ⟨rfl, e39, (by decide : 1 + 0 ≤ _), (by decide : 7 + 0 ≤ _)⟩)
          dsimp only [Pt.U, Pt.locs, Pt.cells, Pt.slots] at X41 l41 y41 z41 st41 hQ41
          subst l41 y41 z41
          obtain ⟨rfl, N41q, e41⟩ := hQ41
          have N41 := Fr.app N39 N41q
          have pre43 : ∀ t, Steps p.tables e below (T41.setTop (mkF m 100 #[.val (.int p0), .val (.int p1), .val (.ref b2), .val (.int v3_52), .val (.int m4_86), .val (.ref en3)] [(.ref en3), (.ref en3)])) t → Steps p.tables e below (s₁.setTop (entryFrame m #[(.int p0), (.int p1)] maxLocals)) t := by
            intro t k
            refine pre42 t ?_
            show Steps p.tables e below (T39.setTop (mkF m 97 #[.val (.int p0), .val (.int p1), .val (.ref b2), .val (.int v3_52), .val (.int m4_86), .val (.ref en3)] [(.int m4_86), (.ref en3)])) _
            refine st41 _ ?_
            exact k
          have pre44 : ∀ t, Steps p.tables e below (T41.setTop (mkF m 108 #[.val (.int p0), .val (.int p1), .val (.ref b2), .val (.int v3_52), .val (.int m4_86), .val (.ref en3)] [(.int (1 : Int32))])) t → Steps p.tables e below (s₁.setTop (entryFrame m #[(.int p0), (.int p1)] maxLocals)) t := by
            intro t k
            refine pre43 t ?_
            show Steps p.tables e below (T41.setTop (mkF m 100 #[.val (.int p0), .val (.int p1), .val (.ref b2), .val (.int v3_52), .val (.int m4_86), .val (.ref en3)] [(.ref en3), (.ref en3)])) _
            refine Jvm.RoadKit.acmp (g := (mkF m 100 #[.val (.int p0), .val (.int p1), .val (.ref b2), .val (.int v3_52), .val (.int m4_86), .val (.ref en3)] [(.ref en3), (.ref en3)])) X41 hx rfl rfl rfl (pc0 := 100) (pc' := 103) (same := true) rfl (hb hby at_100) rfl (decide_eq_true rfl) (by decide) (by decide) ?_
            show Steps p.tables e below (T41.setTop (mkF m 103 #[.val (.int p0), .val (.int p1), .val (.ref b2), .val (.int v3_52), .val (.int m4_86), .val (.ref en3)] [])) _
            refine XS.iconst X41.here hx rfl (hb hby at_103) ?_
            show Steps p.tables e below (T41.setTop (mkF m 104 #[.val (.int p0), .val (.int p1), .val (.ref b2), .val (.int v3_52), .val (.int m4_86), .val (.ref en3)] [(.int (1 : Int32))])) _
            refine XS.goto X41.here hx rfl (pc0 := 104) (pc' := 108) rfl (hb hby at_104) (by decide) (by decide) ?_
            exact k
          obtain ⟨fs, hr, hrun, hended, hW, hsame⟩ := X41.leave (v := some (.int (1 : Int32))) (fun h => by rw [Bd.returns] at h; cases h) (BodyLoose.notSynchronized Bd)
          refine ⟨_, _, pre44 _ ?_, hrun, hended, _, _, rfl, ?_, ⟨_, rfl⟩, hW, hsame.mono (by decide) (by decide)⟩
          · show Steps p.tables e below (T41.setTop (mkF m 108 #[.val (.int p0), .val (.int p1), .val (.ref b2), .val (.int v3_52), .val (.int m4_86), .val (.ref en3)] [(.int (1 : Int32))])) _
            exact retN X41 hx (t := .boolean) Bd.returns (by simp) (hb hby at_108) hr
          · show Q_0 Z p0 p1 en0 en1 en2 en3 en4 en5 en6 en7 en8 en9 en10 al h0 n0 _ T41.heap _
            rw [e41]
            exact ⟨congrArg (fun z => some (Value.int z)) (by subst hg_9 hg_15 hg_21 hg_27 hg_33 hg_39 hg_46 hv3_52 hm4_86; exact ((if_neg ht403).trans ((if_neg ht404).trans ((if_neg ht429).trans (if_pos ht500)))).symm : (1 : Int32) = f_0 p0 p1), N41, trivial⟩
        · by_cases ht502 : m4_86 = (502 : Int32)
          · have pre46 : ∀ t, Steps p.tables e below (T16.setTop (mkF m 88 #[.val (.int p0), .val (.int p1), .val (.ref b2), .val (.int v3_52), .val (.int m4_86), .unset] [(.int m4_86)])) t → Steps p.tables e below (s₁.setTop (entryFrame m #[(.int p0), (.int p1)] maxLocals)) t := by
              intro t k
              refine pre20 t ?_
              show Steps p.tables e below (T16.setTop (mkF m 86 #[.val (.int p0), .val (.int p1), .val (.ref b2), .val (.int v3_52), .val (.int m4_86), .unset] [])) _
              refine XS.iload X16.here hx rfl (hb hby at_86) rfl  ?_
              exact k
            obtain ⟨_, _, ⟨T45, L45, k45, n45⟩, -, X45, ⟨Lc45, hQ45, l45, y45, z45⟩, st45⟩ := Jvm.LawKit.callS X16 hx (y := (⟨"com/example/fanoutd/fanoutd/proxy/NextUpstream$Condition", "ofStatus", "(I)Lcom/example/fanoutd/fanoutd/proxy/NextUpstream$Condition;"⟩ : MethodName)) hown (mvT hZ (hw _ (List.mem_of_getElem? (i := 1) rfl))) (mvT hZ (hw _ (List.mem_of_getElem? (i := 2) rfl))) (mvT hZ (hw _ (List.mem_of_getElem? (i := 3) rfl))) (mvT hZ (hw _ (List.mem_of_getElem? (i := 4) rfl))) (by decide) (backOf (W := 0) (rm_1t502 l Z a0 hw [] m4_86 en0 en1 en2 en3 en4 en5 en6 en7 en8 en9 en10 al h16 n0 Z16 sta_com_example_fanoutd_fanoutd_proxy_NextUpstream_Condition_ERROR_16 sta_com_example_fanoutd_fanoutd_proxy_NextUpstream_Condition_TIMEOUT_16 sta_com_example_fanoutd_fanoutd_proxy_NextUpstream_Condition_INVALID_HEADER_16 sta_com_example_fanoutd_fanoutd_proxy_NextUpstream_Condition_HTTP_500_16 sta_com_example_fanoutd_fanoutd_proxy_NextUpstream_Condition_HTTP_502_16 sta_com_example_fanoutd_fanoutd_proxy_NextUpstream_Condition_HTTP_503_16 sta_com_example_fanoutd_fanoutd_proxy_NextUpstream_Condition_HTTP_504_16 sta_com_example_fanoutd_fanoutd_proxy_NextUpstream_Condition_HTTP_403_16 sta_com_example_fanoutd_fanoutd_proxy_NextUpstream_Condition_HTTP_404_16 sta_com_example_fanoutd_fanoutd_proxy_NextUpstream_Condition_HTTP_429_16 sta_com_example_fanoutd_fanoutd_proxy_NextUpstream_Condition_NON_IDEMPOTENT_16 sta_com_example_fanoutd_fanoutd_proxy_NextUpstream_Condition_ALL_16 arr_al_16 fld_en0_status_16 fld_en1_status_16 fld_en2_status_16 fld_en3_status_16 fld_en4_status_16 fld_en5_status_16 fld_en6_status_16 fld_en7_status_16 fld_en8_status_16 fld_en9_status_16 fld_en10_status_16 ht502) hZ (hw _ (List.mem_of_getElem? (i := 4) rfl)) (hw _ (List.mem_of_getElem? (i := 3) rfl)) (by decide) (by decide)) (g := (mkF m 88 #[.val (.int p0), .val (.int p1), .val (.ref b2), .val (.int v3_52), .val (.int m4_86), .unset] [(.int m4_86)])) rfl (by rw [hml]; rfl) (argsL := [(.int m4_86)]) (rest := []) (lenOf pd_0 rfl) rfl (by show 2 * 0 + _ ≤ _; exact Nat.le_of_eq rfl) (hb hby at_88) (fun _ _ => ⟨rfl, e16, (by decide : 1 + 0 ≤ _), (by decide : 7 + 0 ≤ _)⟩)
            dsimp only [Pt.U, Pt.locs, Pt.cells, Pt.slots] at X45 l45 y45 z45 st45 hQ45
            subst l45 y45 z45
            obtain ⟨rfl, N45q, e45⟩ := hQ45
            have N45 := Fr.app N16 N45q
            have pre48 : ∀ t, Steps p.tables e below (T45.setTop (mkF m 97 #[.val (.int p0), .val (.int p1), .val (.ref b2), .val (.int v3_52), .val (.int m4_86), .val (.ref en4)] [(.int m4_86), (.ref en4)])) t → Steps p.tables e below (s₁.setTop (entryFrame m #[(.int p0), (.int p1)] maxLocals)) t := by
              intro t k
              refine pre46 t ?_
              show Steps p.tables e below (T16.setTop (mkF m 88 #[.val (.int p0), .val (.int p1), .val (.ref b2), .val (.int v3_52), .val (.int m4_86), .unset] [(.int m4_86)])) _
              refine st45 _ ?_
              show Steps p.tables e below (T45.setTop (mkF m 91 #[.val (.int p0), .val (.int p1), .val (.ref b2), .val (.int v3_52), .val (.int m4_86), .unset] [(.ref en4)])) _
              refine XS.astore X45.here hx rfl (hb hby at_91) rfl rfl (l' := #[.val (.int p0), .val (.int p1), .val (.ref b2), .val (.int v3_52), .val (.int m4_86), .val (.ref en4)]) rfl ?_
              show Steps p.tables e below (T45.setTop (mkF m 93 #[.val (.int p0), .val (.int p1), .val (.ref b2), .val (.int v3_52), .val (.int m4_86), .val (.ref en4)] [])) _
              refine XS.aload X45.here hx rfl (hb hby at_93) rfl rfl ?_
              show Steps p.tables e below (T45.setTop (mkF m 95 #[.val (.int p0), .val (.int p1), .val (.ref b2), .val (.int v3_52), .val (.int m4_86), .val (.ref en4)] [(.ref en4)])) _
              refine XS.iload X45.here hx rfl (hb hby at_95) rfl  ?_
              exact k
            obtain ⟨_, _, ⟨T47, L47, k47, n47⟩, -, X47, ⟨Lc47, hQ47, l47, y47, z47⟩, st47⟩ := Jvm.LawKit.callS X45 hx (y := (⟨"com/example/fanoutd/fanoutd/proxy/ConditionOfStatusPinLaw", "expected", "(I)Lcom/example/fanoutd/fanoutd/proxy/NextUpstream$Condition;"⟩ : MethodName)) hown (mvT hZ (hw _ (List.mem_of_getElem? (i := 20) rfl))) (mvT hZ (hw _ (List.mem_of_getElem? (i := 21) rfl))) (mvT hZ (hw _ (List.mem_of_getElem? (i := 22) rfl))) (mvT hZ (hw _ (List.mem_of_getElem? (i := 23) rfl))) (by decide) (backOf (W := 1) (rm_2t502 l Z a0 hw [] m4_86 en0 en1 en2 en3 en4 en5 en6 en7 en8 en9 en10 h16 n0 Z16 sta_com_example_fanoutd_fanoutd_proxy_NextUpstream_Condition_ERROR_16 sta_com_example_fanoutd_fanoutd_proxy_NextUpstream_Condition_TIMEOUT_16 sta_com_example_fanoutd_fanoutd_proxy_NextUpstream_Condition_INVALID_HEADER_16 sta_com_example_fanoutd_fanoutd_proxy_NextUpstream_Condition_HTTP_500_16 sta_com_example_fanoutd_fanoutd_proxy_NextUpstream_Condition_HTTP_502_16 sta_com_example_fanoutd_fanoutd_proxy_NextUpstream_Condition_HTTP_503_16 sta_com_example_fanoutd_fanoutd_proxy_NextUpstream_Condition_HTTP_504_16 sta_com_example_fanoutd_fanoutd_proxy_NextUpstream_Condition_HTTP_403_16 sta_com_example_fanoutd_fanoutd_proxy_NextUpstream_Condition_HTTP_404_16 sta_com_example_fanoutd_fanoutd_proxy_NextUpstream_Condition_HTTP_429_16 sta_com_example_fanoutd_fanoutd_proxy_NextUpstream_Condition_NON_IDEMPOTENT_16 ht502) hZ (hw _ (List.mem_of_getElem? (i := 23) rfl)) (hw _ (List.mem_of_getElem? (i := 22) rfl)) (by decide) (by decide)) (g := (mkF m 97 #[.val (.int p0), .val (.int p1), .val (.ref b2), .val (.int v3_52), .val (.int m4_86), .val (.ref en4)] [(.int m4_86), (.ref en4)])) rfl (by rw [hml]; rfl) (argsL := [(.int m4_86)]) (rest := [(.ref en4)]) (lenOf pd_0 rfl) rfl (by show 2 * 0 + _ ≤ _; exact Nat.le_of_eq rfl) (hb hby at_97) (fun _ _ => ⟨rfl, e45, (by decide : 1 + 0 ≤ _), (by decide : 7 + 0 ≤ _)⟩)
            dsimp only [Pt.U, Pt.locs, Pt.cells, Pt.slots] at X47 l47 y47 z47 st47 hQ47
            subst l47 y47 z47
            obtain ⟨rfl, N47q, e47⟩ := hQ47
            have N47 := Fr.app N45 N47q
            have pre49 : ∀ t, Steps p.tables e below (T47.setTop (mkF m 100 #[.val (.int p0), .val (.int p1), .val (.ref b2), .val (.int v3_52), .val (.int m4_86), .val (.ref en4)] [(.ref en4), (.ref en4)])) t → Steps p.tables e below (s₁.setTop (entryFrame m #[(.int p0), (.int p1)] maxLocals)) t := by
              intro t k
              refine pre48 t ?_
              show Steps p.tables e below (T45.setTop (mkF m 97 #[.val (.int p0), .val (.int p1), .val (.ref b2), .val (.int v3_52), .val (.int m4_86), .val (.ref en4)] [(.int m4_86), (.ref en4)])) _
              refine st47 _ ?_
              exact k
            have pre50 : ∀ t, Steps p.tables e below (T47.setTop (mkF m 108 #[.val (.int p0), .val (.int p1), .val (.ref b2), .val (.int v3_52), .val (.int m4_86), .val (.ref en4)] [(.int (1 : Int32))])) t → Steps p.tables e below (s₁.setTop (entryFrame m #[(.int p0), (.int p1)] maxLocals)) t := by
              intro t k
              refine pre49 t ?_
              show Steps p.tables e below (T47.setTop (mkF m 100 #[.val (.int p0), .val (.int p1), .val (.ref b2), .val (.int v3_52), .val (.int m4_86), .val (.ref en4)] [(.ref en4), (.ref en4)])) _
              refine Jvm.RoadKit.acmp (g := (mkF m 100 #[.val (.int p0), .val (.int p1), .val (.ref b2), .val (.int v3_52), .val (.int m4_86), .val (.ref en4)] [(.ref en4), (.ref en4)])) X47 hx rfl rfl rfl (pc0 := 100) (pc' := 103) (same := true) rfl (hb hby at_100) rfl (decide_eq_true rfl) (by decide) (by decide) ?_
              show Steps p.tables e below (T47.setTop (mkF m 103 #[.val (.int p0), .val (.int p1), .val (.ref b2), .val (.int v3_52), .val (.int m4_86), .val (.ref en4)] [])) _
              refine XS.iconst X47.here hx rfl (hb hby at_103) ?_
              show Steps p.tables e below (T47.setTop (mkF m 104 #[.val (.int p0), .val (.int p1), .val (.ref b2), .val (.int v3_52), .val (.int m4_86), .val (.ref en4)] [(.int (1 : Int32))])) _
              refine XS.goto X47.here hx rfl (pc0 := 104) (pc' := 108) rfl (hb hby at_104) (by decide) (by decide) ?_
              exact k
            obtain ⟨fs, hr, hrun, hended, hW, hsame⟩ := X47.leave (v := some (.int (1 : Int32))) (fun h => by rw [Bd.returns] at h; cases h) (BodyLoose.notSynchronized Bd)
            refine ⟨_, _, pre50 _ ?_, hrun, hended, _, _, rfl, ?_, ⟨_, rfl⟩, hW, hsame.mono (by decide) (by decide)⟩
            · show Steps p.tables e below (T47.setTop (mkF m 108 #[.val (.int p0), .val (.int p1), .val (.ref b2), .val (.int v3_52), .val (.int m4_86), .val (.ref en4)] [(.int (1 : Int32))])) _
              exact retN X47 hx (t := .boolean) Bd.returns (by simp) (hb hby at_108) hr
            · show Q_0 Z p0 p1 en0 en1 en2 en3 en4 en5 en6 en7 en8 en9 en10 al h0 n0 _ T47.heap _
              rw [e47]
              exact ⟨congrArg (fun z => some (Value.int z)) (by subst hg_9 hg_15 hg_21 hg_27 hg_33 hg_39 hg_46 hv3_52 hm4_86; exact ((if_neg ht403).trans ((if_neg ht404).trans ((if_neg ht429).trans ((if_neg ht500).trans (if_pos ht502))))).symm : (1 : Int32) = f_0 p0 p1), N47, trivial⟩
          · by_cases ht503 : m4_86 = (503 : Int32)
            · have pre52 : ∀ t, Steps p.tables e below (T16.setTop (mkF m 88 #[.val (.int p0), .val (.int p1), .val (.ref b2), .val (.int v3_52), .val (.int m4_86), .unset] [(.int m4_86)])) t → Steps p.tables e below (s₁.setTop (entryFrame m #[(.int p0), (.int p1)] maxLocals)) t := by
                intro t k
                refine pre20 t ?_
                show Steps p.tables e below (T16.setTop (mkF m 86 #[.val (.int p0), .val (.int p1), .val (.ref b2), .val (.int v3_52), .val (.int m4_86), .unset] [])) _
                refine XS.iload X16.here hx rfl (hb hby at_86) rfl  ?_
                exact k
              obtain ⟨_, _, ⟨T51, L51, k51, n51⟩, -, X51, ⟨Lc51, hQ51, l51, y51, z51⟩, st51⟩ := Jvm.LawKit.callS X16 hx (y := (⟨"com/example/fanoutd/fanoutd/proxy/NextUpstream$Condition", "ofStatus", "(I)Lcom/example/fanoutd/fanoutd/proxy/NextUpstream$Condition;"⟩ : MethodName)) hown (mvT hZ (hw _ (List.mem_of_getElem? (i := 1) rfl))) (mvT hZ (hw _ (List.mem_of_getElem? (i := 2) rfl))) (mvT hZ (hw _ (List.mem_of_getElem? (i := 3) rfl))) (mvT hZ (hw _ (List.mem_of_getElem? (i := 4) rfl))) (by decide) (backOf (W := 0) (rm_1t503 l Z a0 hw [] m4_86 en0 en1 en2 en3 en4 en5 en6 en7 en8 en9 en10 al h16 n0 Z16 sta_com_example_fanoutd_fanoutd_proxy_NextUpstream_Condition_ERROR_16 sta_com_example_fanoutd_fanoutd_proxy_NextUpstream_Condition_TIMEOUT_16 sta_com_example_fanoutd_fanoutd_proxy_NextUpstream_Condition_INVALID_HEADER_16 sta_com_example_fanoutd_fanoutd_proxy_NextUpstream_Condition_HTTP_500_16 sta_com_example_fanoutd_fanoutd_proxy_NextUpstream_Condition_HTTP_502_16 sta_com_example_fanoutd_fanoutd_proxy_NextUpstream_Condition_HTTP_503_16 sta_com_example_fanoutd_fanoutd_proxy_NextUpstream_Condition_HTTP_504_16 sta_com_example_fanoutd_fanoutd_proxy_NextUpstream_Condition_HTTP_403_16 sta_com_example_fanoutd_fanoutd_proxy_NextUpstream_Condition_HTTP_404_16 sta_com_example_fanoutd_fanoutd_proxy_NextUpstream_Condition_HTTP_429_16 sta_com_example_fanoutd_fanoutd_proxy_NextUpstream_Condition_NON_IDEMPOTENT_16 sta_com_example_fanoutd_fanoutd_proxy_NextUpstream_Condition_ALL_16 arr_al_16 fld_en0_status_16 fld_en1_status_16 fld_en2_status_16 fld_en3_status_16 fld_en4_status_16 fld_en5_status_16 fld_en6_status_16 fld_en7_status_16 fld_en8_status_16 fld_en9_status_16 fld_en10_status_16 ht503) hZ (hw _ (List.mem_of_getElem? (i := 4) rfl)) (hw _ (List.mem_of_getElem? (i := 3) rfl)) (by decide) (by decide)) (g := (mkF m 88 #[.val (.int p0), .val (.int p1), .val (.ref b2), .val (.int v3_52), .val (.int m4_86), .unset] [(.int m4_86)])) rfl (by rw [hml]; rfl) (argsL := [(.int m4_86)]) (rest := []) (lenOf pd_0 rfl) rfl (by show 2 * 0 + _ ≤ _; exact Nat.le_of_eq rfl) (hb hby at_88) (fun _ _ => ⟨rfl, e16, (by decide : 1 + 0 ≤ _), (by decide : 7 + 0 ≤ _)⟩)
              dsimp only [Pt.U, Pt.locs, Pt.cells, Pt.slots] at X51 l51 y51 z51 st51 hQ51
              subst l51 y51 z51
              obtain ⟨rfl, N51q, e51⟩ := hQ51
              have N51 := Fr.app N16 N51q
              have pre54 : ∀ t, Steps p.tables e below (T51.setTop (mkF m 97 #[.val (.int p0), .val (.int p1), .val (.ref b2), .val (.int v3_52), .val (.int m4_86), .val (.ref en5)] [(.int m4_86), (.ref en5)])) t → Steps p.tables e below (s₁.setTop (entryFrame m #[(.int p0), (.int p1)] maxLocals)) t := by
                intro t k
                refine pre52 t ?_
                show Steps p.tables e below (T16.setTop (mkF m 88 #[.val (.int p0), .val (.int p1), .val (.ref b2), .val (.int v3_52), .val (.int m4_86), .unset] [(.int m4_86)])) _
                refine st51 _ ?_
                show Steps p.tables e below (T51.setTop (mkF m 91 #[.val (.int p0), .val (.int p1), .val (.ref b2), .val (.int v3_52), .val (.int m4_86), .unset] [(.ref en5)])) _
                refine XS.astore X51.here hx rfl (hb hby at_91) rfl rfl (l' := #[.val (.int p0), .val (.int p1), .val (.ref b2), .val (.int v3_52), .val (.int m4_86), .val (.ref en5)]) rfl ?_
                show Steps p.tables e below (T51.setTop (mkF m 93 #[.val (.int p0), .val (.int p1), .val (.ref b2), .val (.int v3_52), .val (.int m4_86), .val (.ref en5)] [])) _
                refine XS.aload X51.here hx rfl (hb hby at_93) rfl rfl ?_
                show Steps p.tables e below (T51.setTop (mkF m 95 #[.val (.int p0), .val (.int p1), .val (.ref b2), .val (.int v3_52), .val (.int m4_86), .val (.ref en5)] [(.ref en5)])) _
                refine XS.iload X51.here hx rfl (hb hby at_95) rfl  ?_
                exact k
              obtain ⟨_, _, ⟨T53, L53, k53, n53⟩, -, X53, ⟨Lc53, hQ53, l53, y53, z53⟩, st53⟩ := Jvm.LawKit.callS X51 hx (y := (⟨"com/example/fanoutd/fanoutd/proxy/ConditionOfStatusPinLaw", "expected", "(I)Lcom/example/fanoutd/fanoutd/proxy/NextUpstream$Condition;"⟩ : MethodName)) hown (mvT hZ (hw _ (List.mem_of_getElem? (i := 20) rfl))) (mvT hZ (hw _ (List.mem_of_getElem? (i := 21) rfl))) (mvT hZ (hw _ (List.mem_of_getElem? (i := 22) rfl))) (mvT hZ (hw _ (List.mem_of_getElem? (i := 23) rfl))) (by decide) (backOf (W := 1) (rm_2t503 l Z a0 hw [] m4_86 en0 en1 en2 en3 en4 en5 en6 en7 en8 en9 en10 h16 n0 Z16 sta_com_example_fanoutd_fanoutd_proxy_NextUpstream_Condition_ERROR_16 sta_com_example_fanoutd_fanoutd_proxy_NextUpstream_Condition_TIMEOUT_16 sta_com_example_fanoutd_fanoutd_proxy_NextUpstream_Condition_INVALID_HEADER_16 sta_com_example_fanoutd_fanoutd_proxy_NextUpstream_Condition_HTTP_500_16 sta_com_example_fanoutd_fanoutd_proxy_NextUpstream_Condition_HTTP_502_16 sta_com_example_fanoutd_fanoutd_proxy_NextUpstream_Condition_HTTP_503_16 sta_com_example_fanoutd_fanoutd_proxy_NextUpstream_Condition_HTTP_504_16 sta_com_example_fanoutd_fanoutd_proxy_NextUpstream_Condition_HTTP_403_16 sta_com_example_fanoutd_fanoutd_proxy_NextUpstream_Condition_HTTP_404_16 sta_com_example_fanoutd_fanoutd_proxy_NextUpstream_Condition_HTTP_429_16 sta_com_example_fanoutd_fanoutd_proxy_NextUpstream_Condition_NON_IDEMPOTENT_16 ht503) hZ (hw _ (List.mem_of_getElem? (i := 23) rfl)) (hw _ (List.mem_of_getElem? (i := 22) rfl)) (by decide) (by decide)) (g := (mkF m 97 #[.val (.int p0), .val (.int p1), .val (.ref b2), .val (.int v3_52), .val (.int m4_86), .val (.ref en5)] [(.int m4_86), (.ref en5)])) rfl (by rw [hml]; rfl) (argsL := [(.int m4_86)]) (rest := [(.ref en5)]) (lenOf pd_0 rfl) rfl (by show 2 * 0 + _ ≤ _; exact Nat.le_of_eq rfl) (hb hby at_97) (fun _ _ => ⟨rfl, e51, (by decide : 1 + 0 ≤ _), (by decide : 7 + 0 ≤ _)⟩)
              dsimp only [Pt.U, Pt.locs, Pt.cells, Pt.slots] at X53 l53 y53 z53 st53 hQ53
              subst l53 y53 z53
              obtain ⟨rfl, N53q, e53⟩ := hQ53
              have N53 := Fr.app N51 N53q
              have pre55 : ∀ t, Steps p.tables e below (T53.setTop (mkF m 100 #[.val (.int p0), .val (.int p1), .val (.ref b2), .val (.int v3_52), .val (.int m4_86), .val (.ref en5)] [(.ref en5), (.ref en5)])) t → Steps p.tables e below (s₁.setTop (entryFrame m #[(.int p0), (.int p1)] maxLocals)) t := by
                intro t k
                refine pre54 t ?_
                show Steps p.tables e below (T51.setTop (mkF m 97 #[.val (.int p0), .val (.int p1), .val (.ref b2), .val (.int v3_52), .val (.int m4_86), .val (.ref en5)] [(.int m4_86), (.ref en5)])) _
                refine st53 _ ?_
                exact k
              have pre56 : ∀ t, Steps p.tables e below (T53.setTop (mkF m 108 #[.val (.int p0), .val (.int p1), .val (.ref b2), .val (.int v3_52), .val (.int m4_86), .val (.ref en5)] [(.int (1 : Int32))])) t → Steps p.tables e below (s₁.setTop (entryFrame m #[(.int p0), (.int p1)] maxLocals)) t := by
                intro t k
                refine pre55 t ?_
                show Steps p.tables e below (T53.setTop (mkF m 100 #[.val (.int p0), .val (.int p1), .val (.ref b2), .val (.int v3_52), .val (.int m4_86), .val (.ref en5)] [(.ref en5), (.ref en5)])) _
                refine Jvm.RoadKit.acmp (g := (mkF m 100 #[.val (.int p0), .val (.int p1), .val (.ref b2), .val (.int v3_52), .val (.int m4_86), .val (.ref en5)] [(.ref en5), (.ref en5)])) X53 hx rfl rfl rfl (pc0 := 100) (pc' := 103) (same := true) rfl (hb hby at_100) rfl (decide_eq_true rfl) (by decide) (by decide) ?_
                show Steps p.tables e below (T53.setTop (mkF m 103 #[.val (.int p0), .val (.int p1), .val (.ref b2), .val (.int v3_52), .val (.int m4_86), .val (.ref en5)] [])) _
                refine XS.iconst X53.here hx rfl (hb hby at_103) ?_
                show Steps p.tables e below (T53.setTop (mkF m 104 #[.val (.int p0), .val (.int p1), .val (.ref b2), .val (.int v3_52), .val (.int m4_86), .val (.ref en5)] [(.int (1 : Int32))])) _
                refine XS.goto X53.here hx rfl (pc0 := 104) (pc' := 108) rfl (hb hby at_104) (by decide) (by decide) ?_
                exact k
              obtain ⟨fs, hr, hrun, hended, hW, hsame⟩ := X53.leave (v := some (.int (1 : Int32))) (fun h => by rw [Bd.returns] at h; cases h) (BodyLoose.notSynchronized Bd)
              refine ⟨_, _, pre56 _ ?_, hrun, hended, _, _, rfl, ?_, ⟨_, rfl⟩, hW, hsame.mono (by decide) (by decide)⟩
              · show Steps p.tables e below (T53.setTop (mkF m 108 #[.val (.int p0), .val (.int p1), .val (.ref b2), .val (.int v3_52), .val (.int m4_86), .val (.ref en5)] [(.int (1 : Int32))])) _
                exact retN X53 hx (t := .boolean) Bd.returns (by simp) (hb hby at_108) hr
              · show Q_0 Z p0 p1 en0 en1 en2 en3 en4 en5 en6 en7 en8 en9 en10 al h0 n0 _ T53.heap _
                rw [e53]
                exact ⟨congrArg (fun z => some (Value.int z)) (by subst hg_9 hg_15 hg_21 hg_27 hg_33 hg_39 hg_46 hv3_52 hm4_86; exact ((if_neg ht403).trans ((if_neg ht404).trans ((if_neg ht429).trans ((if_neg ht500).trans ((if_neg ht502).trans (if_pos ht503)))))).symm : (1 : Int32) = f_0 p0 p1), N53, trivial⟩
            · by_cases ht504 : m4_86 = (504 : Int32)
              · have pre58 : ∀ t, Steps p.tables e below (T16.setTop (mkF m 88 #[.val (.int p0), .val (.int p1), .val (.ref b2), .val (.int v3_52), .val (.int m4_86), .unset] [(.int m4_86)])) t → Steps p.tables e below (s₁.setTop (entryFrame m #[(.int p0), (.int p1)] maxLocals)) t := by
                  intro t k
                  refine pre20 t ?_
                  show Steps p.tables e below (T16.setTop (mkF m 86 #[.val (.int p0), .val (.int p1), .val (.ref b2), .val (.int v3_52), .val (.int m4_86), .unset] [])) _
                  refine XS.iload X16.here hx rfl (hb hby at_86) rfl  ?_
                  exact k
                obtain ⟨_, _, ⟨T57, L57, k57, n57⟩, -, X57, ⟨Lc57, hQ57, l57, y57, z57⟩, st57⟩ := Jvm.LawKit.callS X16 hx (y := (⟨"com/example/fanoutd/fanoutd/proxy/NextUpstream$Condition", "ofStatus", "(I)Lcom/example/fanoutd/fanoutd/proxy/NextUpstream$Condition;"⟩ : MethodName)) hown (mvT hZ (hw _ (List.mem_of_getElem? (i := 1) rfl))) (mvT hZ (hw _ (List.mem_of_getElem? (i := 2) rfl))) (mvT hZ (hw _ (List.mem_of_getElem? (i := 3) rfl))) (mvT hZ (hw _ (List.mem_of_getElem? (i := 4) rfl))) (by decide) (backOf (W := 0) (rm_1t504 l Z a0 hw [] m4_86 en0 en1 en2 en3 en4 en5 en6 en7 en8 en9 en10 al h16 n0 Z16 sta_com_example_fanoutd_fanoutd_proxy_NextUpstream_Condition_ERROR_16 sta_com_example_fanoutd_fanoutd_proxy_NextUpstream_Condition_TIMEOUT_16 sta_com_example_fanoutd_fanoutd_proxy_NextUpstream_Condition_INVALID_HEADER_16 sta_com_example_fanoutd_fanoutd_proxy_NextUpstream_Condition_HTTP_500_16 sta_com_example_fanoutd_fanoutd_proxy_NextUpstream_Condition_HTTP_502_16 sta_com_example_fanoutd_fanoutd_proxy_NextUpstream_Condition_HTTP_503_16 sta_com_example_fanoutd_fanoutd_proxy_NextUpstream_Condition_HTTP_504_16 sta_com_example_fanoutd_fanoutd_proxy_NextUpstream_Condition_HTTP_403_16 sta_com_example_fanoutd_fanoutd_proxy_NextUpstream_Condition_HTTP_404_16 sta_com_example_fanoutd_fanoutd_proxy_NextUpstream_Condition_HTTP_429_16 sta_com_example_fanoutd_fanoutd_proxy_NextUpstream_Condition_NON_IDEMPOTENT_16 sta_com_example_fanoutd_fanoutd_proxy_NextUpstream_Condition_ALL_16 arr_al_16 fld_en0_status_16 fld_en1_status_16 fld_en2_status_16 fld_en3_status_16 fld_en4_status_16 fld_en5_status_16 fld_en6_status_16 fld_en7_status_16 fld_en8_status_16 fld_en9_status_16 fld_en10_status_16 ht504) hZ (hw _ (List.mem_of_getElem? (i := 4) rfl)) (hw _ (List.mem_of_getElem? (i := 3) rfl)) (by decide) (by decide)) (g := (mkF m 88 #[.val (.int p0), .val (.int p1), .val (.ref b2), .val (.int v3_52), .val (.int m4_86), .unset] [(.int m4_86)])) rfl (by rw [hml]; rfl) (argsL := [(.int m4_86)]) (rest := []) (lenOf pd_0 rfl) rfl (by show 2 * 0 + _ ≤ _; exact Nat.le_of_eq rfl) (hb hby at_88) (fun _ _ => ⟨rfl, e16, (by decide : 1 + 0 ≤ _), (by decide : 7 + 0 ≤ _)⟩)
                dsimp only [Pt.U, Pt.locs, Pt.cells, Pt.slots] at X57 l57 y57 z57 st57 hQ57
                subst l57 y57 z57
                obtain ⟨rfl, N57q, e57⟩ := hQ57
                have N57 := Fr.app N16 N57q
                have pre60 : ∀ t, Steps p.tables e below (T57.setTop (mkF m 97 #[.val (.int p0), .val (.int p1), .val (.ref b2), .val (.int v3_52), .val (.int m4_86), .val (.ref en6)] [(.int m4_86), (.ref en6)])) t → Steps p.tables e below (s₁.setTop (entryFrame m #[(.int p0), (.int p1)] maxLocals)) t := by
                  intro t k
                  refine pre58 t ?_
                  show Steps p.tables e below (T16.setTop (mkF m 88 #[.val (.int p0), .val (.int p1), .val (.ref b2), .val (.int v3_52), .val (.int m4_86), .unset] [(.int m4_86)])) _
                  refine st57 _ ?_
                  show Steps p.tables e below (T57.setTop (mkF m 91 #[.val (.int p0), .val (.int p1), .val (.ref b2), .val (.int v3_52), .val (.int m4_86), .unset] [(.ref en6)])) _
                  refine XS.astore X57.here hx rfl (hb hby at_91) rfl rfl (l' := #[.val (.int p0), .val (.int p1), .val (.ref b2), .val (.int v3_52), .val (.int m4_86), .val (.ref en6)]) rfl ?_
                  show Steps p.tables e below (T57.setTop (mkF m 93 #[.val (.int p0), .val (.int p1), .val (.ref b2), .val (.int v3_52), .val (.int m4_86), .val (.ref en6)] [])) _
                  refine XS.aload X57.here hx rfl (hb hby at_93) rfl rfl ?_
                  show Steps p.tables e below (T57.setTop (mkF m 95 #[.val (.int p0), .val (.int p1), .val (.ref b2), .val (.int v3_52), .val (.int m4_86), .val (.ref en6)] [(.ref en6)])) _
                  refine XS.iload X57.here hx rfl (hb hby at_95) rfl  ?_
                  exact k
                obtain ⟨_, _, ⟨T59, L59, k59, n59⟩, -, X59, ⟨Lc59, hQ59, l59, y59, z59⟩, st59⟩ := Jvm.LawKit.callS X57 hx (y := (⟨"com/example/fanoutd/fanoutd/proxy/ConditionOfStatusPinLaw", "expected", "(I)Lcom/example/fanoutd/fanoutd/proxy/NextUpstream$Condition;"⟩ : MethodName)) hown (mvT hZ (hw _ (List.mem_of_getElem? (i := 20) rfl))) (mvT hZ (hw _ (List.mem_of_getElem? (i := 21) rfl))) (mvT hZ (hw _ (List.mem_of_getElem? (i := 22) rfl))) (mvT hZ (hw _ (List.mem_of_getElem? (i := 23) rfl))) (by decide) (backOf (W := 1) (rm_2t504 l Z a0 hw [] m4_86 en0 en1 en2 en3 en4 en5 en6 en7 en8 en9 en10 h16 n0 Z16 sta_com_example_fanoutd_fanoutd_proxy_NextUpstream_Condition_ERROR_16 sta_com_example_fanoutd_fanoutd_proxy_NextUpstream_Condition_TIMEOUT_16 sta_com_example_fanoutd_fanoutd_proxy_NextUpstream_Condition_INVALID_HEADER_16 sta_com_example_fanoutd_fanoutd_proxy_NextUpstream_Condition_HTTP_500_16 sta_com_example_fanoutd_fanoutd_proxy_NextUpstream_Condition_HTTP_502_16 sta_com_example_fanoutd_fanoutd_proxy_NextUpstream_Condition_HTTP_503_16 sta_com_example_fanoutd_fanoutd_proxy_NextUpstream_Condition_HTTP_504_16 sta_com_example_fanoutd_fanoutd_proxy_NextUpstream_Condition_HTTP_403_16 sta_com_example_fanoutd_fanoutd_proxy_NextUpstream_Condition_HTTP_404_16 sta_com_example_fanoutd_fanoutd_proxy_NextUpstream_Condition_HTTP_429_16 sta_com_example_fanoutd_fanoutd_proxy_NextUpstream_Condition_NON_IDEMPOTENT_16 ht504) hZ (hw _ (List.mem_of_getElem? (i := 23) rfl)) (hw _ (List.mem_of_getElem? (i := 22) rfl)) (by decide) (by decide)) (g := (mkF m 97 #[.val (.int p0), .val (.int p1), .val (.ref b2), .val (.int v3_52), .val (.int m4_86), .val (.ref en6)] [(.int m4_86), (.ref en6)])) rfl (by rw [hml]; rfl) (argsL := [(.int m4_86)]) (rest := [(.ref en6)]) (lenOf pd_0 rfl) rfl (by show 2 * 0 + _ ≤ _; exact Nat.le_of_eq rfl) (hb hby at_97) (fun _ _ => ⟨rfl, e57, (by decide : 1 + 0 ≤ _), (by decide : 7 + 0 ≤ _)⟩)
                dsimp only [Pt.U, Pt.locs, Pt.cells, Pt.slots] at X59 l59 y59 z59 st59 hQ59
                subst l59 y59 z59
                obtain ⟨rfl, N59q, e59⟩ := hQ59
                have N59 := Fr.app N57 N59q
                have pre61 : ∀ t, Steps p.tables e below (T59.setTop (mkF m 100 #[.val (.int p0), .val (.int p1), .val (.ref b2), .val (.int v3_52), .val (.int m4_86), .val (.ref en6)] [(.ref en6), (.ref en6)])) t → Steps p.tables e below (s₁.setTop (entryFrame m #[(.int p0), (.int p1)] maxLocals)) t := by
                  intro t k
                  refine pre60 t ?_
                  show Steps p.tables e below (T57.setTop (mkF m 97 #[.val (.int p0), .val (.int p1), .val (.ref b2), .val (.int v3_52), .val (.int m4_86), .val (.ref en6)] [(.int m4_86), (.ref en6)])) _
                  refine st59 _ ?_
                  exact k
                have pre62 : ∀ t, Steps p.tables e below (T59.setTop (mkF m 108 #[.val (.int p0), .val (.int p1), .val (.ref b2), .val (.int v3_52), .val (.int m4_86), .val (.ref en6)] [(.int (1 : Int32))])) t → Steps p.tables e below (s₁.setTop (entryFrame m #[(.int p0), (.int p1)] maxLocals)) t := by
                  intro t k
                  refine pre61 t ?_
                  show Steps p.tables e below (T59.setTop (mkF m 100 #[.val (.int p0), .val (.int p1), .val (.ref b2), .val (.int v3_52), .val (.int m4_86), .val (.ref en6)] [(.ref en6), (.ref en6)])) _
                  refine Jvm.RoadKit.acmp (g := (mkF m 100 #[.val (.int p0), .val (.int p1), .val (.ref b2), .val (.int v3_52), .val (.int m4_86), .val (.ref en6)] [(.ref en6), (.ref en6)])) X59 hx rfl rfl rfl (pc0 := 100) (pc' := 103) (same := true) rfl (hb hby at_100) rfl (decide_eq_true rfl) (by decide) (by decide) ?_
                  show Steps p.tables e below (T59.setTop (mkF m 103 #[.val (.int p0), .val (.int p1), .val (.ref b2), .val (.int v3_52), .val (.int m4_86), .val (.ref en6)] [])) _
                  refine XS.iconst X59.here hx rfl (hb hby at_103) ?_
                  show Steps p.tables e below (T59.setTop (mkF m 104 #[.val (.int p0), .val (.int p1), .val (.ref b2), .val (.int v3_52), .val (.int m4_86), .val (.ref en6)] [(.int (1 : Int32))])) _
                  refine XS.goto X59.here hx rfl (pc0 := 104) (pc' := 108) rfl (hb hby at_104) (by decide) (by decide) ?_
                  exact k
                obtain ⟨fs, hr, hrun, hended, hW, hsame⟩ := X59.leave (v := some (.int (1 : Int32))) (fun h => by rw [Bd.returns] at h; cases h) (BodyLoose.notSynchronized Bd)
                refine ⟨_, _, pre62 _ ?_, hrun, hended, _, _, rfl, ?_, ⟨_, rfl⟩, hW, hsame.mono (by decide) (by decide)⟩
                · show Steps p.tables e below (T59.setTop (mkF m 108 #[.val (.int p0), .val (.int p1), .val (.ref b2), .val (.int v3_52), .val (.int m4_86), .val (.ref en6)] [(.int (1 : Int32))])) _
                  exact retN X59 hx (t := .boolean) Bd.returns (by simp) (hb hby at_108) hr
                · show Q_0 Z p0 p1 en0 en1 en2 en3 en4 en5 en6 en7 en8 en9 en10 al h0 n0 _ T59.heap _
                  rw [e59]
                  exact ⟨congrArg (fun z => some (Value.int z)) (by subst hg_9 hg_15 hg_21 hg_27 hg_33 hg_39 hg_46 hv3_52 hm4_86; exact ((if_neg ht403).trans ((if_neg ht404).trans ((if_neg ht429).trans ((if_neg ht500).trans ((if_neg ht502).trans ((if_neg ht503).trans (if_pos ht504))))))).symm : (1 : Int32) = f_0 p0 p1), N59, trivial⟩
              · have pre64 : ∀ t, Steps p.tables e below (T16.setTop (mkF m 88 #[.val (.int p0), .val (.int p1), .val (.ref b2), .val (.int v3_52), .val (.int m4_86), .unset] [(.int m4_86)])) t → Steps p.tables e below (s₁.setTop (entryFrame m #[(.int p0), (.int p1)] maxLocals)) t := by
                  intro t k
                  refine pre20 t ?_
                  show Steps p.tables e below (T16.setTop (mkF m 86 #[.val (.int p0), .val (.int p1), .val (.ref b2), .val (.int v3_52), .val (.int m4_86), .unset] [])) _
                  refine XS.iload X16.here hx rfl (hb hby at_86) rfl  ?_
                  exact k
                obtain ⟨_, _, ⟨T63, L63, k63, n63⟩, -, X63, ⟨Lc63, hQ63, l63, y63, z63⟩, st63⟩ := Jvm.LawKit.callS X16 hx (y := (⟨"com/example/fanoutd/fanoutd/proxy/NextUpstream$Condition", "ofStatus", "(I)Lcom/example/fanoutd/fanoutd/proxy/NextUpstream$Condition;"⟩ : MethodName)) hown (mvT hZ (hw _ (List.mem_of_getElem? (i := 1) rfl))) (mvT hZ (hw _ (List.mem_of_getElem? (i := 2) rfl))) (mvT hZ (hw _ (List.mem_of_getElem? (i := 3) rfl))) (mvT hZ (hw _ (List.mem_of_getElem? (i := 4) rfl))) (by decide) (backOf (W := 0) (rm_1tn l Z a0 hw [] m4_86 en0 en1 en2 en3 en4 en5 en6 en7 en8 en9 en10 al h16 n0 Z16 sta_com_example_fanoutd_fanoutd_proxy_NextUpstream_Condition_ERROR_16 sta_com_example_fanoutd_fanoutd_proxy_NextUpstream_Condition_TIMEOUT_16 sta_com_example_fanoutd_fanoutd_proxy_NextUpstream_Condition_INVALID_HEADER_16 sta_com_example_fanoutd_fanoutd_proxy_NextUpstream_Condition_HTTP_500_16 sta_com_example_fanoutd_fanoutd_proxy_NextUpstream_Condition_HTTP_502_16 sta_com_example_fanoutd_fanoutd_proxy_NextUpstream_Condition_HTTP_503_16 sta_com_example_fanoutd_fanoutd_proxy_NextUpstream_Condition_HTTP_504_16 sta_com_example_fanoutd_fanoutd_proxy_NextUpstream_Condition_HTTP_403_16 sta_com_example_fanoutd_fanoutd_proxy_NextUpstream_Condition_HTTP_404_16 sta_com_example_fanoutd_fanoutd_proxy_NextUpstream_Condition_HTTP_429_16 sta_com_example_fanoutd_fanoutd_proxy_NextUpstream_Condition_NON_IDEMPOTENT_16 sta_com_example_fanoutd_fanoutd_proxy_NextUpstream_Condition_ALL_16 arr_al_16 fld_en0_status_16 fld_en1_status_16 fld_en2_status_16 fld_en3_status_16 fld_en4_status_16 fld_en5_status_16 fld_en6_status_16 fld_en7_status_16 fld_en8_status_16 fld_en9_status_16 fld_en10_status_16 (by rw [hm4_86]; exact own_nz _ _ (own_ki p0 hv3_52).1) ht403 ht404 ht429 ht500 ht502 ht503 ht504) hZ (hw _ (List.mem_of_getElem? (i := 4) rfl)) (hw _ (List.mem_of_getElem? (i := 3) rfl)) (by decide) (by decide)) (g := (mkF m 88 #[.val (.int p0), .val (.int p1), .val (.ref b2), .val (.int v3_52), .val (.int m4_86), .unset] [(.int m4_86)])) rfl (by rw [hml]; rfl) (argsL := [(.int m4_86)]) (rest := []) (lenOf pd_0 rfl) rfl (by show 2 * 0 + _ ≤ _; exact Nat.le_of_eq rfl) (hb hby at_88) (fun _ _ => ⟨rfl, e16, (by decide : 1 + 0 ≤ _), (by decide : 7 + 0 ≤ _)⟩)
                dsimp only [Pt.U, Pt.locs, Pt.cells, Pt.slots] at X63 l63 y63 z63 st63 hQ63
                subst l63 y63 z63
                obtain ⟨rfl, N63q, e63⟩ := hQ63
                have N63 := Fr.app N16 N63q
                have pre66 : ∀ t, Steps p.tables e below (T63.setTop (mkF m 97 #[.val (.int p0), .val (.int p1), .val (.ref b2), .val (.int v3_52), .val (.int m4_86), .val .null] [(.int m4_86), .null])) t → Steps p.tables e below (s₁.setTop (entryFrame m #[(.int p0), (.int p1)] maxLocals)) t := by
                  intro t k
                  refine pre64 t ?_
                  show Steps p.tables e below (T16.setTop (mkF m 88 #[.val (.int p0), .val (.int p1), .val (.ref b2), .val (.int v3_52), .val (.int m4_86), .unset] [(.int m4_86)])) _
                  refine st63 _ ?_
                  show Steps p.tables e below (T63.setTop (mkF m 91 #[.val (.int p0), .val (.int p1), .val (.ref b2), .val (.int v3_52), .val (.int m4_86), .unset] [.null])) _
                  refine XS.astore X63.here hx rfl (hb hby at_91) rfl rfl (l' := #[.val (.int p0), .val (.int p1), .val (.ref b2), .val (.int v3_52), .val (.int m4_86), .val .null]) rfl ?_
                  show Steps p.tables e below (T63.setTop (mkF m 93 #[.val (.int p0), .val (.int p1), .val (.ref b2), .val (.int v3_52), .val (.int m4_86), .val .null] [])) _
                  refine XS.aload X63.here hx rfl (hb hby at_93) rfl rfl ?_
                  show Steps p.tables e below (T63.setTop (mkF m 95 #[.val (.int p0), .val (.int p1), .val (.ref b2), .val (.int v3_52), .val (.int m4_86), .val .null] [.null])) _
                  refine XS.iload X63.here hx rfl (hb hby at_95) rfl  ?_
                  exact k
                obtain ⟨_, _, ⟨T65, L65, k65, n65⟩, -, X65, ⟨Lc65, hQ65, l65, y65, z65⟩, st65⟩ := Jvm.LawKit.callS X63 hx (y := (⟨"com/example/fanoutd/fanoutd/proxy/ConditionOfStatusPinLaw", "expected", "(I)Lcom/example/fanoutd/fanoutd/proxy/NextUpstream$Condition;"⟩ : MethodName)) hown (mvT hZ (hw _ (List.mem_of_getElem? (i := 20) rfl))) (mvT hZ (hw _ (List.mem_of_getElem? (i := 21) rfl))) (mvT hZ (hw _ (List.mem_of_getElem? (i := 22) rfl))) (mvT hZ (hw _ (List.mem_of_getElem? (i := 23) rfl))) (by decide) (backOf (W := 1) (rm_2tn l Z a0 hw [] m4_86 en0 en1 en2 en3 en4 en5 en6 en7 en8 en9 en10 h16 n0 Z16 sta_com_example_fanoutd_fanoutd_proxy_NextUpstream_Condition_ERROR_16 sta_com_example_fanoutd_fanoutd_proxy_NextUpstream_Condition_TIMEOUT_16 sta_com_example_fanoutd_fanoutd_proxy_NextUpstream_Condition_INVALID_HEADER_16 sta_com_example_fanoutd_fanoutd_proxy_NextUpstream_Condition_HTTP_500_16 sta_com_example_fanoutd_fanoutd_proxy_NextUpstream_Condition_HTTP_502_16 sta_com_example_fanoutd_fanoutd_proxy_NextUpstream_Condition_HTTP_503_16 sta_com_example_fanoutd_fanoutd_proxy_NextUpstream_Condition_HTTP_504_16 sta_com_example_fanoutd_fanoutd_proxy_NextUpstream_Condition_HTTP_403_16 sta_com_example_fanoutd_fanoutd_proxy_NextUpstream_Condition_HTTP_404_16 sta_com_example_fanoutd_fanoutd_proxy_NextUpstream_Condition_HTTP_429_16 sta_com_example_fanoutd_fanoutd_proxy_NextUpstream_Condition_NON_IDEMPOTENT_16 (by rw [hm4_86]; exact own_nz _ _ (own_ki p0 hv3_52).1) ht403 ht404 ht429 ht500 ht502 ht503 ht504) hZ (hw _ (List.mem_of_getElem? (i := 23) rfl)) (hw _ (List.mem_of_getElem? (i := 22) rfl)) (by decide) (by decide)) (g := (mkF m 97 #[.val (.int p0), .val (.int p1), .val (.ref b2), .val (.int v3_52), .val (.int m4_86), .val .null] [(.int m4_86), .null])) rfl (by rw [hml]; rfl) (argsL := [(.int m4_86)]) (rest := [.null]) (lenOf pd_0 rfl) rfl (by show 2 * 0 + _ ≤ _; exact Nat.le_of_eq rfl) (hb hby at_97) (fun _ _ => ⟨rfl, e63, (by decide : 1 + 0 ≤ _), (by decide : 7 + 0 ≤ _)⟩)
                dsimp only [Pt.U, Pt.locs, Pt.cells, Pt.slots] at X65 l65 y65 z65 st65 hQ65
                subst l65 y65 z65
                obtain ⟨rfl, N65q, e65⟩ := hQ65
                have N65 := Fr.app N63 N65q
                have pre67 : ∀ t, Steps p.tables e below (T65.setTop (mkF m 100 #[.val (.int p0), .val (.int p1), .val (.ref b2), .val (.int v3_52), .val (.int m4_86), .val .null] [.null, .null])) t → Steps p.tables e below (s₁.setTop (entryFrame m #[(.int p0), (.int p1)] maxLocals)) t := by
                  intro t k
                  refine pre66 t ?_
                  show Steps p.tables e below (T63.setTop (mkF m 97 #[.val (.int p0), .val (.int p1), .val (.ref b2), .val (.int v3_52), .val (.int m4_86), .val .null] [(.int m4_86), .null])) _
                  refine st65 _ ?_
                  exact k
                have pre68 : ∀ t, Steps p.tables e below (T65.setTop (mkF m 108 #[.val (.int p0), .val (.int p1), .val (.ref b2), .val (.int v3_52), .val (.int m4_86), .val .null] [(.int (1 : Int32))])) t → Steps p.tables e below (s₁.setTop (entryFrame m #[(.int p0), (.int p1)] maxLocals)) t := by
                  intro t k
                  refine pre67 t ?_
                  show Steps p.tables e below (T65.setTop (mkF m 100 #[.val (.int p0), .val (.int p1), .val (.ref b2), .val (.int v3_52), .val (.int m4_86), .val .null] [.null, .null])) _
                  refine Jvm.RoadKit.acmp (g := (mkF m 100 #[.val (.int p0), .val (.int p1), .val (.ref b2), .val (.int v3_52), .val (.int m4_86), .val .null] [.null, .null])) X65 hx rfl rfl rfl (pc0 := 100) (pc' := 103) (same := true) rfl (hb hby at_100) rfl (decide_eq_true rfl) (by decide) (by decide) ?_
                  show Steps p.tables e below (T65.setTop (mkF m 103 #[.val (.int p0), .val (.int p1), .val (.ref b2), .val (.int v3_52), .val (.int m4_86), .val .null] [])) _
                  refine XS.iconst X65.here hx rfl (hb hby at_103) ?_
                  show Steps p.tables e below (T65.setTop (mkF m 104 #[.val (.int p0), .val (.int p1), .val (.ref b2), .val (.int v3_52), .val (.int m4_86), .val .null] [(.int (1 : Int32))])) _
                  refine XS.goto X65.here hx rfl (pc0 := 104) (pc' := 108) rfl (hb hby at_104) (by decide) (by decide) ?_
                  exact k
                obtain ⟨fs, hr, hrun, hended, hW, hsame⟩ := X65.leave (v := some (.int (1 : Int32))) (fun h => by rw [Bd.returns] at h; cases h) (BodyLoose.notSynchronized Bd)
                refine ⟨_, _, pre68 _ ?_, hrun, hended, _, _, rfl, ?_, ⟨_, rfl⟩, hW, hsame.mono (by decide) (by decide)⟩
                · show Steps p.tables e below (T65.setTop (mkF m 108 #[.val (.int p0), .val (.int p1), .val (.ref b2), .val (.int v3_52), .val (.int m4_86), .val .null] [(.int (1 : Int32))])) _
                  exact retN X65 hx (t := .boolean) Bd.returns (by simp) (hb hby at_108) hr
                · show Q_0 Z p0 p1 en0 en1 en2 en3 en4 en5 en6 en7 en8 en9 en10 al h0 n0 _ T65.heap _
                  rw [e65]
                  exact ⟨congrArg (fun z => some (Value.int z)) (by subst hg_9 hg_15 hg_21 hg_27 hg_33 hg_39 hg_46 hv3_52 hm4_86; exact ((if_neg ht403).trans ((if_neg ht404).trans ((if_neg ht429).trans ((if_neg ht500).trans ((if_neg ht502).trans ((if_neg ht503).trans (if_neg ht504))))))).symm : (1 : Int32) = f_0 p0 p1), N65, trivial⟩
theorem own_law (p0 p1 : Int32) : f_0 p0 p1 = 1 := by
  simp only [f_0]
  repeat' split
  all_goals rfl
set_option maxRecDepth 65536 in
set_option maxHeartbeats 40000000 in
theorem comes_1 {Post : Tables → Env → Array Value → State → Outcome → State → Prop} (hpost : ∀ tb e args s v u, (limb_1_1.after args s (.returned v) u = true ∧ limb_1_2.after args s (.returned v) u = true ∧ True) → FrameEnd s (.returned v) u (Jvm.fieldLocs frame_1_writes args s ++ Jvm.arrayLocs frame_1_arrays args s ++ Jvm.staticLocs frame_1_statics s) 16 128 → Post tb e args s (.returned v) u) :
    ArmFor flags0 classFile x code maxLocals ret World_1 tables_1 room_1 Calls_1 rest_1 Pre_1 Post := by
  intro l hfl _ _ p e ha hc hk s m args below hf hA hF happ hP
  obtain ⟨hcalls, hrest, hpre⟩ := hP
  obtain ⟨-, -, -, hnamed, -, -, -, hat⟩ := (Spec.applies_iff hf).mp happ
  obtain ⟨hg, hn⟩ := and_e (Cond.before_iff.mp (show (Jvm.Cond.and given_1 narrow_1).before args s = true from hpre))
  obtain ⟨g0, gt0⟩ := and_e hg
  obtain ⟨ga0, gt1⟩ := and_e gt0
  obtain ⟨w0, w1, rfl⟩ : ∃ w0 w1 : Value, args = #[w0, w1] := by
    have hs : args.size = 2 := by simpa [Cond.value, given_1] using g0
    obtain ⟨L⟩ := args
    match L, hs with
    | [w0, w1], _ => exact ⟨w0, w1, rfl⟩
  have hw := fun d (hd : d ∈ tables_1) => atoms_spec (ws := Jvm.Cond.code x code maxLocals ret :: tables_1) hat d (List.mem_cons_of_mem _ hd)
  have hfit : Fit s := fun {y c} hc i hi => by
    obtain ⟨ha, rfl⟩ := Array.getElem?_eq_some_iff.mp hc
    have q := List.all_eq_true.mp ((Array.all_eq_true_iff_forall_mem.mp hF) _ (Array.getElem_mem ha)) i (List.mem_range.mpr hi)
    simpa [Array.getElem?_eq_getElem hi] using q
  obtain ⟨i0, ei0⟩ := is_v ga0
  obtain rfl : w0 = (.int i0) := Option.some.inj ei0
  obtain ⟨i1, ei1⟩ := is_v gt1
  obtain rfl : w1 = (.int i1) := Option.some.inj ei1
  obtain ⟨c0, d0⟩ := and_e hn
  obtain ⟨c1, d1⟩ := and_e d0
  obtain ⟨c2, d2⟩ := and_e d1
  obtain ⟨c3, d3⟩ := and_e d2
  obtain ⟨c4, d4⟩ := and_e d3
  obtain ⟨c5, d5⟩ := and_e d4
  obtain ⟨c6, d6⟩ := and_e d5
  obtain ⟨c7, d7⟩ := and_e d6
  obtain ⟨c8, d8⟩ := and_e d7
  obtain ⟨c9, d9⟩ := and_e d8
  obtain ⟨c10, d10⟩ := and_e d9
  obtain ⟨c11, d11⟩ := and_e d10
  obtain ⟨c12, d12⟩ := and_e d11
  obtain ⟨c13, d13⟩ := and_e d12
  obtain ⟨c14, d14⟩ := and_e d13
  obtain ⟨c15, d15⟩ := and_e d14
  obtain ⟨c16, d16⟩ := and_e d15
  obtain ⟨c17, d17⟩ := and_e d16
  obtain ⟨c18, d18⟩ := and_e d17
  obtain ⟨c19, d19⟩ := and_e d18
  obtain ⟨c20, d20⟩ := and_e d19
  obtain ⟨c21, d21⟩ := and_e d20
  obtain ⟨c22, d22⟩ := and_e d21
  obtain ⟨c23, d23⟩ := and_e d22
  obtain ⟨c24, d24⟩ := and_e d23
  obtain ⟨c25, d25⟩ := and_e d24
  obtain ⟨c26, d26⟩ := and_e d25
  obtain ⟨c27, d27⟩ := and_e d26
  obtain ⟨c28, d28⟩ := and_e d27
  obtain ⟨c29, d29⟩ := and_e d28
  obtain ⟨c30, d30⟩ := and_e d29
  obtain ⟨c31, d31⟩ := and_e d30
  obtain ⟨c32, d32⟩ := and_e d31
  obtain ⟨c33, d33⟩ := and_e d32
  obtain ⟨al, eval⟩ := arr_v c0
  obtain ⟨en0, ev0⟩ := exa_v c2
  have S0 : Sta s s.heap "com/example/fanoutd/fanoutd/proxy/NextUpstream$Condition" "ERROR" "Lcom/example/fanoutd/fanoutd/proxy/NextUpstream$Condition;" (.ref en0) := Sta.start ev0 (Or.inr ⟨hw _ (List.mem_of_getElem? (i := 3) rfl), hw _ (List.mem_of_getElem? (i := 7) rfl)⟩)
  have F0 : Fld s s.heap en0 "com/example/fanoutd/fanoutd/proxy/NextUpstream$Condition" "status" "I" (.int (0 : Int32)) := Fld.start ((fld_at ev0).symm.trans (own_eqi c4))
  obtain ⟨en1, ev1⟩ := exa_v c5
  have S1 : Sta s s.heap "com/example/fanoutd/fanoutd/proxy/NextUpstream$Condition" "TIMEOUT" "Lcom/example/fanoutd/fanoutd/proxy/NextUpstream$Condition;" (.ref en1) := Sta.start ev1 (Or.inr ⟨hw _ (List.mem_of_getElem? (i := 3) rfl), hw _ (List.mem_of_getElem? (i := 10) rfl)⟩)
  have F1 : Fld s s.heap en1 "com/example/fanoutd/fanoutd/proxy/NextUpstream$Condition" "status" "I" (.int (0 : Int32)) := Fld.start ((fld_at ev1).symm.trans (own_eqi c7))
  obtain ⟨en2, ev2⟩ := exa_v c8
  have S2 : Sta s s.heap "com/example/fanoutd/fanoutd/proxy/NextUpstream$Condition" "INVALID_HEADER" "Lcom/example/fanoutd/fanoutd/proxy/NextUpstream$Condition;" (.ref en2) := Sta.start ev2 (Or.inr ⟨hw _ (List.mem_of_getElem? (i := 3) rfl), hw _ (List.mem_of_getElem? (i := 11) rfl)⟩)
  have F2 : Fld s s.heap en2 "com/example/fanoutd/fanoutd/proxy/NextUpstream$Condition" "status" "I" (.int (0 : Int32)) := Fld.start ((fld_at ev2).symm.trans (own_eqi c10))
  obtain ⟨en3, ev3⟩ := exa_v c11
  have S3 : Sta s s.heap "com/example/fanoutd/fanoutd/proxy/NextUpstream$Condition" "HTTP_500" "Lcom/example/fanoutd/fanoutd/proxy/NextUpstream$Condition;" (.ref en3) := Sta.start ev3 (Or.inr ⟨hw _ (List.mem_of_getElem? (i := 3) rfl), hw _ (List.mem_of_getElem? (i := 12) rfl)⟩)
  have F3 : Fld s s.heap en3 "com/example/fanoutd/fanoutd/proxy/NextUpstream$Condition" "status" "I" (.int (500 : Int32)) := Fld.start ((fld_at ev3).symm.trans (own_eqi c13))
  obtain ⟨en4, ev4⟩ := exa_v c14
  have S4 : Sta s s.heap "com/example/fanoutd/fanoutd/proxy/NextUpstream$Condition" "HTTP_502" "Lcom/example/fanoutd/fanoutd/proxy/NextUpstream$Condition;" (.ref en4) := Sta.start ev4 (Or.inr ⟨hw _ (List.mem_of_getElem? (i := 3) rfl), hw _ (List.mem_of_getElem? (i := 13) rfl)⟩)
  have F4 : Fld s s.heap en4 "com/example/fanoutd/fanoutd/proxy/NextUpstream$Condition" "status" "I" (.int (502 : Int32)) := Fld.start ((fld_at ev4).symm.trans (own_eqi c16))
  obtain ⟨en5, ev5⟩ := exa_v c17
  have S5 : Sta s s.heap "com/example/fanoutd/fanoutd/proxy/NextUpstream$Condition" "HTTP_503" "Lcom/example/fanoutd/fanoutd/proxy/NextUpstream$Condition;" (.ref en5) := Sta.start ev5 (Or.inr ⟨hw _ (List.mem_of_getElem? (i := 3) rfl), hw _ (List.mem_of_getElem? (i := 14) rfl)⟩)
  have F5 : Fld s s.heap en5 "com/example/fanoutd/fanoutd/proxy/NextUpstream$Condition" "status" "I" (.int (503 : Int32)) := Fld.start ((fld_at ev5).symm.trans (own_eqi c19))
  obtain ⟨en6, ev6⟩ := exa_v c20
  have S6 : Sta s s.heap "com/example/fanoutd/fanoutd/proxy/NextUpstream$Condition" "HTTP_504" "Lcom/example/fanoutd/fanoutd/proxy/NextUpstream$Condition;" (.ref en6) := Sta.start ev6 (Or.inr ⟨hw _ (List.mem_of_getElem? (i := 3) rfl), hw _ (List.mem_of_getElem? (i := 15) rfl)⟩)
  have F6 : Fld s s.heap en6 "com/example/fanoutd/fanoutd/proxy/NextUpstream$Condition" "status" "I" (.int (504 : Int32)) := Fld.start ((fld_at ev6).symm.trans (own_eqi c22))
  obtain ⟨en7, ev7⟩ := exa_v c23
  have S7 : Sta s s.heap "com/example/fanoutd/fanoutd/proxy/NextUpstream$Condition" "HTTP_403" "Lcom/example/fanoutd/fanoutd/proxy/NextUpstream$Condition;" (.ref en7) := Sta.start ev7 (Or.inr ⟨hw _ (List.mem_of_getElem? (i := 3) rfl), hw _ (List.mem_of_getElem? (i := 16) rfl)⟩)
  have F7 : Fld s s.heap en7 "com/example/fanoutd/fanoutd/proxy/NextUpstream$Condition" "status" "I" (.int (403 : Int32)) := Fld.start ((fld_at ev7).symm.trans (own_eqi c25))
  obtain ⟨en8, ev8⟩ := exa_v c26
  have S8 : Sta s s.heap "com/example/fanoutd/fanoutd/proxy/NextUpstream$Condition" "HTTP_404" "Lcom/example/fanoutd/fanoutd/proxy/NextUpstream$Condition;" (.ref en8) := Sta.start ev8 (Or.inr ⟨hw _ (List.mem_of_getElem? (i := 3) rfl), hw _ (List.mem_of_getElem? (i := 17) rfl)⟩)
  have F8 : Fld s s.heap en8 "com/example/fanoutd/fanoutd/proxy/NextUpstream$Condition" "status" "I" (.int (404 : Int32)) := Fld.start ((fld_at ev8).symm.trans (own_eqi c28))
  obtain ⟨en9, ev9⟩ := exa_v c29
  have S9 : Sta s s.heap "com/example/fanoutd/fanoutd/proxy/NextUpstream$Condition" "HTTP_429" "Lcom/example/fanoutd/fanoutd/proxy/NextUpstream$Condition;" (.ref en9) := Sta.start ev9 (Or.inr ⟨hw _ (List.mem_of_getElem? (i := 3) rfl), hw _ (List.mem_of_getElem? (i := 18) rfl)⟩)
  have F9 : Fld s s.heap en9 "com/example/fanoutd/fanoutd/proxy/NextUpstream$Condition" "status" "I" (.int (429 : Int32)) := Fld.start ((fld_at ev9).symm.trans (own_eqi c31))
  obtain ⟨en10, ev10⟩ := exa_v c32
  have S10 : Sta s s.heap "com/example/fanoutd/fanoutd/proxy/NextUpstream$Condition" "NON_IDEMPOTENT" "Lcom/example/fanoutd/fanoutd/proxy/NextUpstream$Condition;" (.ref en10) := Sta.start ev10 (Or.inr ⟨hw _ (List.mem_of_getElem? (i := 3) rfl), hw _ (List.mem_of_getElem? (i := 19) rfl)⟩)
  have F10 : Fld s s.heap en10 "com/example/fanoutd/fanoutd/proxy/NextUpstream$Condition" "status" "I" (.int (0 : Int32)) := Fld.start ((fld_at ev10).symm.trans (own_eqi d33))
  have SA : Sta s s.heap "com/example/fanoutd/fanoutd/proxy/NextUpstream$Condition" "ALL" "[Lcom/example/fanoutd/fanoutd/proxy/NextUpstream$Condition;" (.ref al) := Sta.start eval (Or.inr ⟨hw _ (List.mem_of_getElem? (i := 3) rfl), hw _ (List.mem_of_getElem? (i := 6) rfl)⟩)
  have AA : own_A s s.heap al (.object "com/example/fanoutd/fanoutd/proxy/NextUpstream$Condition") 11 (fun i => own_l en0 en1 en2 en3 en4 en5 en6 en7 en8 en9 en10 i) := own_AR_start (vs := [.ref en0, .ref en1, .ref en2, .ref en3, .ref en4, .ref en5, .ref en6, .ref en7, .ref en8, .ref en9, .ref en10]) hfit eval c0 (own_eqi c1) ⟨by decide, by decide, rfl⟩ ⟨own_eqr ev0 c3, own_eqr ev1 c6, own_eqr ev2 c9, own_eqr ev3 c12, own_eqr ev4 c15, own_eqr ev5 c18, own_eqr ev6 c21, own_eqr ev7 c24, own_eqr ev8 c27, own_eqr ev9 c30, own_eqr ev10 c33, trivial⟩
  obtain ⟨n, o, h1, h2, h3, _, L, rfl, ⟨rfl, N⟩, hq⟩ := rm_0 l s _ hw tables_1 i0 i1 en0 en1 en2 en3 en4 en5 en6 en7 en8 en9 en10 al s.heap s.heap.size (Nat.le_refl _) S0 S1 S2 S3 S4 S5 S6 S7 S8 S9 S10 SA AA F0 F1 F2 F3 F4 F5 F6 F7 F8 F9 F10 p e ha hc hk s m _ below hf ((Spec.applies_iff_loose hf).mp happ).1 ⟨rfl, State.Warmed39.refl s, rfl⟩ trivial
  refine ⟨n, _, h1, h2, h3, hpost _ _ _ _ _ _ ⟨Cond.after_iff.mpr rfl, Cond.after_iff.mpr (eq_i res_at (Term.int_eval (1)) (congrArg Value.int (own_law _ _))), trivial⟩ ⟨hq.1, hq.2.1, (hq.2.2.sift fun y hy => Or.inr (N.1 y hy)).mono (by decide) (by decide)⟩⟩
theorem main_1_1 : Claimed_1_1 := comes_1 fun _ _ _ _ _ _ h hF => ⟨h.1, hF⟩
theorem main_1_2 : Claimed_1_2 := comes_1 fun _ _ _ _ _ _ h hF => ⟨h.2.1, hF⟩
end Jvm.Pilot.@@N@@
namespace Jvm.Pilot.@@N@@
open Jvm Jvm.ClassFile Sem Op Lib Jvm.Free Jvm.Stand Jvm.Pilot.@@N@@.Jvm.D
/-! MADE BY PROGRAM (witnessworld.py) out of the Statement's table words and the real class files: 13 classes; the members and pool entries that the words name. The judged class is class 1, her method 1. -/
namespace start1
open Jvm.ClassFile
def u (s : String) : CpInfo := .utf8 (stringToUtf16 s)
/-- a pool by its gaps: so many unusable entries, then the entry; so many at the end -/
def gap : Nat → List CpInfo → List CpInfo
  | 0, r => r
  | n + 1, r => .unusable :: gap n r
def poolList (es : List (Nat × CpInfo)) (last : Nat) : List CpInfo := es.foldr (fun e r => gap e.1 (e.2 :: r)) (gap last [])
def pool (es : List (Nat × CpInfo)) (last : Nat) : Array CpInfo := ⟨poolList es last⟩
def fileOf (pool : Array CpInfo) (this : Nat) (attrs : Array Attribute := #[]) (ms : Array MethodInfo := #[]) (fl : Nat := 33) (sup : Nat := 0) (ifs : Array Nat := #[]) (fds : Array FieldInfo := #[]) : ClassFile where
  minorVersion := 0
  majorVersion := 65
  constantPool := pool
  accessFlags := fl
  thisClass := this
  superClass := sup
  interfaces := ifs
  fields := fds
  methods := ms
  attributes := attrs
def plain (name : String) (sup : Option ClassId) : Class where
  name := name
  kind := .ordinary
  loader := none
  accessFlags := 33
  super := sup
  interfaces := #[]
  cf := none
  fields := #[]
  methods := #[]
  instanceTypes := #[]
  staticTypes := #[]
  resolved := #[]
  callSites := []
  init := .initialized
  statics := none
  mirror := none

def pool0 : Array CpInfo := pool [(5, u "<init>"), (0, u "()V"), (1, .class_ 10), (1, u "java/lang/Object")] 113

def k0m0 : Method := { name := "<init>", desc := "()V", sig := { parameters := [], returnType := none }, accessFlags := 1, code := none }
/-- java/lang/Object -/
def k0 : Class := { plain "java/lang/Object" none with
  accessFlags := 33
  interfaces := #[]
  cf := some (fileOf pool0 8 #[] #[{ accessFlags := 1, nameIndex := 5, descriptorIndex := 6, attributes := #[] }] 33 0 #[] #[])
  fields := #[]
  methods := #[k0m0]
  instanceTypes := #[]
  staticTypes := #[]
  resolved := Array.replicate 124 none
  statics := none }

def pool1 : Array CpInfo := pool [(2, .class_ 4), (1, u "java/lang/Object"), (0, u "<init>"), (0, u "()V"), (0, .integer 2147483647), (0, .methodref 9 10), (0, .class_ 11), (0, .nameAndType 12 13), (0, u "com/example/fanoutd/fanoutd/proxy/NextUpstream$Condition"), (0, u "ofStatus"), (0, u "(I)Lcom/example/fanoutd/fanoutd/proxy/NextUpstream$Condition;"), (0, .methodref 15 16), (0, .class_ 17), (0, .nameAndType 18 13), (0, u "com/example/fanoutd/fanoutd/proxy/ConditionOfStatusPinLaw"), (0, u "expected"), (0, .fieldref 9 20), (0, .nameAndType 21 22), (0, u "HTTP_403"), (0, u "Lcom/example/fanoutd/fanoutd/proxy/NextUpstream$Condition;"), (0, .fieldref 9 24), (0, .nameAndType 25 22), (0, u "HTTP_404"), (0, .fieldref 9 27), (0, .nameAndType 28 22), (0, u "HTTP_429"), (0, .fieldref 9 30), (0, .nameAndType 31 22), (0, u "HTTP_500"), (0, .fieldref 9 33), (0, .nameAndType 34 22), (0, u "HTTP_502"), (0, .fieldref 9 36), (0, .nameAndType 37 22), (0, u "HTTP_503"), (0, .fieldref 9 39), (0, .nameAndType 40 22), (0, u "HTTP_504"), (2, u "law"), (0, u "(II)Z")] 9

def k1m0 : Method := { name := "<init>", desc := "()V", sig := { parameters := [], returnType := none }, accessFlags := 2, code := none }
def k1c1 : Code := { maxStack := 4, maxLocals := 6, code := code, exceptionTable := #[], attributes := #[] }
def k1m1 : Method := { name := "law", desc := "(II)Z", sig := { parameters := [.int, .int], returnType := some .boolean }, accessFlags := 9, code := some k1c1 }
def k1c2 : Code := { maxStack := 2, maxLocals := 1, code := method_3_code, exceptionTable := #[], attributes := #[] }
def k1m2 : Method := { name := "expected", desc := "(I)Lcom/example/fanoutd/fanoutd/proxy/NextUpstream$Condition;", sig := { parameters := [.int], returnType := some (.object "com/example/fanoutd/fanoutd/proxy/NextUpstream$Condition") }, accessFlags := 10, code := some k1c2 }
/-- com/example/fanoutd/fanoutd/proxy/ConditionOfStatusPinLaw -/
def k1 : Class := { plain "com/example/fanoutd/fanoutd/proxy/ConditionOfStatusPinLaw" (some 0) with
  accessFlags := 49
  interfaces := #[]
  cf := some (fileOf pool1 15 #[] #[{ accessFlags := 2, nameIndex := 5, descriptorIndex := 6, attributes := #[] }, { accessFlags := 9, nameIndex := 43, descriptorIndex := 44, attributes := #[] }, { accessFlags := 10, nameIndex := 18, descriptorIndex := 13, attributes := #[] }] 49 2 #[] #[])
  fields := #[]
  methods := #[k1m0, k1m1, k1m2]
  instanceTypes := #[]
  staticTypes := #[]
  resolved := Array.replicate 54 none
  statics := none }

def pool2 : Array CpInfo := pool [(1, .class_ 2), (0, u "java/lang/constant/Constable"), (0, .class_ 4), (0, u "java/lang/Object")] 6

/-- java/lang/constant/Constable -/
def k2 : Class := { plain "java/lang/constant/Constable" (some 0) with
  accessFlags := 1537
  interfaces := #[]
  cf := some (fileOf pool2 1 #[] #[] 1537 3 #[] #[])
  fields := #[]
  methods := #[]
  instanceTypes := #[]
  staticTypes := #[]
  resolved := Array.replicate 11 none
  statics := none }

def pool3 : Array CpInfo := pool [(1, .class_ 2), (0, u "java/lang/Comparable"), (0, .class_ 4), (0, u "java/lang/Object")] 7

/-- java/lang/Comparable -/
def k3 : Class := { plain "java/lang/Comparable" (some 0) with
  accessFlags := 1537
  interfaces := #[]
  cf := some (fileOf pool3 1 #[] #[] 1537 3 #[] #[])
  fields := #[]
  methods := #[]
  instanceTypes := #[]
  staticTypes := #[]
  resolved := Array.replicate 12 none
  statics := none }

def pool4 : Array CpInfo := pool [(1, .class_ 2), (0, u "java/io/Serializable"), (0, .class_ 4), (0, u "java/lang/Object")] 2

/-- java/io/Serializable -/
def k4 : Class := { plain "java/io/Serializable" (some 0) with
  accessFlags := 1537
  interfaces := #[]
  cf := some (fileOf pool4 1 #[] #[] 1537 3 #[] #[])
  fields := #[]
  methods := #[]
  instanceTypes := #[]
  staticTypes := #[]
  resolved := Array.replicate 7 none
  statics := none }

def pool5 : Array CpInfo := pool [(2, .class_ 4), (1, u "java/lang/Enum"), (0, u "name"), (0, u "Ljava/lang/String;"), (2, u "ordinal"), (0, u "I"), (1, .class_ 14), (1, u "java/lang/Object"), (4, u "hash"), (86, .class_ 108), (1, u "java/lang/Enum$EnumDesc"), (2, .class_ 112), (0, u "java/lang/constant/Constable"), (0, .class_ 114), (0, u "java/lang/Comparable"), (0, .class_ 116), (0, u "java/io/Serializable")] 87

/-- java/lang/Enum -/
def k5 : Class := { plain "java/lang/Enum" (some 0) with
  accessFlags := 1057
  interfaces := #[2, 3, 4]
  cf := some (fileOf pool5 2 #[.nestMembers #[106]] #[] 1057 12 #[111, 113, 115] #[{ accessFlags := 18, nameIndex := 5, descriptorIndex := 6, attributes := #[] }, { accessFlags := 18, nameIndex := 9, descriptorIndex := 10, attributes := #[] }, { accessFlags := 2, nameIndex := 19, descriptorIndex := 10, attributes := #[] }])
  fields := #[{ name := "name", type := (.object "java/lang/String"), accessFlags := 18, slot := 0, constantValue := 0 }, { name := "ordinal", type := .int, accessFlags := 18, slot := 1, constantValue := 0 }, { name := "hash", type := .int, accessFlags := 2, slot := 2, constantValue := 0 }]
  methods := #[]
  instanceTypes := #[(.object "java/lang/String"), .int, .int]
  staticTypes := #[]
  resolved := Array.replicate 204 none
  statics := none }

def pool6 : Array CpInfo := pool [(1, .class_ 2), (0, u "com/example/fanoutd/fanoutd/proxy/NextUpstream$Condition"), (2, u "ERROR"), (0, u "Lcom/example/fanoutd/fanoutd/proxy/NextUpstream$Condition;"), (2, u "TIMEOUT"), (2, u "INVALID_HEADER"), (2, u "HTTP_500"), (2, u "HTTP_502"), (2, u "HTTP_503"), (2, u "HTTP_504"), (2, u "HTTP_403"), (2, u "HTTP_404"), (2, u "HTTP_429"), (2, u "NON_IDEMPOTENT"), (2, u "$VALUES"), (0, u "[Lcom/example/fanoutd/fanoutd/proxy/NextUpstream$Condition;"), (6, .class_ 49), (1, u "java/lang/Enum"), (6, .fieldref 1 57), (0, .nameAndType 58 59), (0, u "status"), (0, u "I"), (2, u "counted"), (0, u "Z"), (27, .fieldref 1 92), (0, .nameAndType 93 40), (0, u "ALL"), (27, u "ofStatus"), (0, u "(I)Lcom/example/fanoutd/fanoutd/proxy/NextUpstream$Condition;"), (6, .class_ 130), (0, u "com/example/fanoutd/fanoutd/proxy/NextUpstream")] 2

def k6c0 : Code := { maxStack := 2, maxLocals := 5, code := prog_62_method_7_code, exceptionTable := #[], attributes := #[] }
def k6m0 : Method := { name := "ofStatus", desc := "(I)Lcom/example/fanoutd/fanoutd/proxy/NextUpstream$Condition;", sig := { parameters := [.int], returnType := some (.object "com/example/fanoutd/fanoutd/proxy/NextUpstream$Condition") }, accessFlags := 8, code := some k6c0 }
/-- com/example/fanoutd/fanoutd/proxy/NextUpstream$Condition -/
def k6 : Class := { plain "com/example/fanoutd/fanoutd/proxy/NextUpstream$Condition" (some 5) with
  accessFlags := 16433
  interfaces := #[]
  cf := some (fileOf pool6 1 #[.nestHost 129] #[{ accessFlags := 8, nameIndex := 121, descriptorIndex := 122, attributes := #[] }] 16433 47 #[] #[{ accessFlags := 16409, nameIndex := 5, descriptorIndex := 6, attributes := #[] }, { accessFlags := 16409, nameIndex := 9, descriptorIndex := 6, attributes := #[] }, { accessFlags := 16409, nameIndex := 12, descriptorIndex := 6, attributes := #[] }, { accessFlags := 16409, nameIndex := 15, descriptorIndex := 6, attributes := #[] }, { accessFlags := 16409, nameIndex := 18, descriptorIndex := 6, attributes := #[] }, { accessFlags := 16409, nameIndex := 21, descriptorIndex := 6, attributes := #[] }, { accessFlags := 16409, nameIndex := 24, descriptorIndex := 6, attributes := #[] }, { accessFlags := 16409, nameIndex := 27, descriptorIndex := 6, attributes := #[] }, { accessFlags := 16409, nameIndex := 30, descriptorIndex := 6, attributes := #[] }, { accessFlags := 16409, nameIndex := 33, descriptorIndex := 6, attributes := #[] }, { accessFlags := 16409, nameIndex := 36, descriptorIndex := 6, attributes := #[] }, { accessFlags := 26, nameIndex := 93, descriptorIndex := 40, attributes := #[] }, { accessFlags := 18, nameIndex := 58, descriptorIndex := 59, attributes := #[] }, { accessFlags := 18, nameIndex := 62, descriptorIndex := 63, attributes := #[] }, { accessFlags := 4122, nameIndex := 39, descriptorIndex := 40, attributes := #[] }])
  fields := #[{ name := "ERROR", type := (.object "com/example/fanoutd/fanoutd/proxy/NextUpstream$Condition"), accessFlags := 16409, slot := 0, constantValue := 0 }, { name := "TIMEOUT", type := (.object "com/example/fanoutd/fanoutd/proxy/NextUpstream$Condition"), accessFlags := 16409, slot := 1, constantValue := 0 }, { name := "INVALID_HEADER", type := (.object "com/example/fanoutd/fanoutd/proxy/NextUpstream$Condition"), accessFlags := 16409, slot := 2, constantValue := 0 }, { name := "HTTP_500", type := (.object "com/example/fanoutd/fanoutd/proxy/NextUpstream$Condition"), accessFlags := 16409, slot := 3, constantValue := 0 }, { name := "HTTP_502", type := (.object "com/example/fanoutd/fanoutd/proxy/NextUpstream$Condition"), accessFlags := 16409, slot := 4, constantValue := 0 }, { name := "HTTP_503", type := (.object "com/example/fanoutd/fanoutd/proxy/NextUpstream$Condition"), accessFlags := 16409, slot := 5, constantValue := 0 }, { name := "HTTP_504", type := (.object "com/example/fanoutd/fanoutd/proxy/NextUpstream$Condition"), accessFlags := 16409, slot := 6, constantValue := 0 }, { name := "HTTP_403", type := (.object "com/example/fanoutd/fanoutd/proxy/NextUpstream$Condition"), accessFlags := 16409, slot := 7, constantValue := 0 }, { name := "HTTP_404", type := (.object "com/example/fanoutd/fanoutd/proxy/NextUpstream$Condition"), accessFlags := 16409, slot := 8, constantValue := 0 }, { name := "HTTP_429", type := (.object "com/example/fanoutd/fanoutd/proxy/NextUpstream$Condition"), accessFlags := 16409, slot := 9, constantValue := 0 }, { name := "NON_IDEMPOTENT", type := (.object "com/example/fanoutd/fanoutd/proxy/NextUpstream$Condition"), accessFlags := 16409, slot := 10, constantValue := 0 }, { name := "ALL", type := (.array (.object "com/example/fanoutd/fanoutd/proxy/NextUpstream$Condition")), accessFlags := 26, slot := 11, constantValue := 0 }, { name := "status", type := .int, accessFlags := 18, slot := 3, constantValue := 0 }, { name := "counted", type := .boolean, accessFlags := 18, slot := 4, constantValue := 0 }, { name := "$VALUES", type := (.array (.object "com/example/fanoutd/fanoutd/proxy/NextUpstream$Condition")), accessFlags := 4122, slot := 12, constantValue := 0 }]
  methods := #[k6m0]
  instanceTypes := #[(.object "java/lang/String"), .int, .int, .int, .boolean]
  staticTypes := #[(.object "com/example/fanoutd/fanoutd/proxy/NextUpstream$Condition"), (.object "com/example/fanoutd/fanoutd/proxy/NextUpstream$Condition"), (.object "com/example/fanoutd/fanoutd/proxy/NextUpstream$Condition"), (.object "com/example/fanoutd/fanoutd/proxy/NextUpstream$Condition"), (.object "com/example/fanoutd/fanoutd/proxy/NextUpstream$Condition"), (.object "com/example/fanoutd/fanoutd/proxy/NextUpstream$Condition"), (.object "com/example/fanoutd/fanoutd/proxy/NextUpstream$Condition"), (.object "com/example/fanoutd/fanoutd/proxy/NextUpstream$Condition"), (.object "com/example/fanoutd/fanoutd/proxy/NextUpstream$Condition"), (.object "com/example/fanoutd/fanoutd/proxy/NextUpstream$Condition"), (.object "com/example/fanoutd/fanoutd/proxy/NextUpstream$Condition"), (.array (.object "com/example/fanoutd/fanoutd/proxy/NextUpstream$Condition")), (.array (.object "com/example/fanoutd/fanoutd/proxy/NextUpstream$Condition"))]
  resolved := Array.replicate 133 none
  statics := some 0 }

def pool7 : Array CpInfo := pool [(1, u "java/lang/Cloneable"), (0, .class_ 1), (0, u "java/lang/Object"), (0, .class_ 3)] 3

/-- java/lang/Cloneable -/
def k7 : Class := { plain "java/lang/Cloneable" (some 0) with
  accessFlags := 1537
  interfaces := #[]
  cf := some (fileOf pool7 2 #[] #[] 1537 4 #[] #[])
  fields := #[]
  methods := #[]
  instanceTypes := #[]
  staticTypes := #[]
  resolved := Array.replicate 8 none
  statics := none }

/-- the primitive byte -/
def k8 : Class := { plain "byte" none with kind := .primitive 'B', accessFlags := 0x411 }
/-- [B -/
def k9 : Class := { plain "[B" (some 0) with kind := .array 8 .byte, interfaces := #[7, 4], accessFlags := 1041 }

/-- the primitive int -/
def k10 : Class := { plain "int" none with kind := .primitive 'I', accessFlags := 0x411 }
/-- [I -/
def k11 : Class := { plain "[I" (some 0) with kind := .array 10 .int, interfaces := #[7, 4], accessFlags := 1041 }

/-- [Lcom/example/fanoutd/fanoutd/proxy/NextUpstream$Condition; -/
def k12 : Class := { plain "[Lcom/example/fanoutd/fanoutd/proxy/NextUpstream$Condition;" (some 0) with kind := .array 6 (.object "com/example/fanoutd/fanoutd/proxy/NextUpstream$Condition"), interfaces := #[7, 4], accessFlags := 1041 }

def heap : Heap := #[{ cls := 6, slots := #[.ref 2, .ref 3, .ref 4, .ref 5, .ref 6, .ref 7, .ref 8, .ref 9, .ref 10, .ref 11, .ref 12, .ref 1, .null], vm := .statics 6 },
  { cls := 12, slots := #[.ref 2, .ref 3, .ref 4, .ref 5, .ref 6, .ref 7, .ref 8, .ref 9, .ref 10, .ref 11, .ref 12], vm := .none },
  { cls := 6, slots := #[.null, .int 0, .int 0, .int 0, .int 0], vm := .none },
  { cls := 6, slots := #[.null, .int 0, .int 0, .int 0, .int 0], vm := .none },
  { cls := 6, slots := #[.null, .int 0, .int 0, .int 0, .int 0], vm := .none },
  { cls := 6, slots := #[.null, .int 0, .int 0, .int 500, .int 0], vm := .none },
  { cls := 6, slots := #[.null, .int 0, .int 0, .int 502, .int 0], vm := .none },
  { cls := 6, slots := #[.null, .int 0, .int 0, .int 503, .int 0], vm := .none },
  { cls := 6, slots := #[.null, .int 0, .int 0, .int 504, .int 0], vm := .none },
  { cls := 6, slots := #[.null, .int 0, .int 0, .int 403, .int 0], vm := .none },
  { cls := 6, slots := #[.null, .int 0, .int 0, .int 404, .int 0], vm := .none },
  { cls := 6, slots := #[.null, .int 0, .int 0, .int 429, .int 0], vm := .none },
  { cls := 6, slots := #[.null, .int 0, .int 0, .int 0, .int 0], vm := .none }]
def classes : Array Class := #[k0, k1, k2, k3, k4, k5, k6, k7, k8, k9, k10, k11, k12]
def interned : List (Array UInt16 × Addr) := []
def slotsUsed : Nat := 79
def theMethod : MethodId := ⟨1, 1⟩
def args0 : Array Value := #[.int 5, .int 7]
def aboutOver (below : List Frame) : State where
  vm := { classes := classes, interned := interned.toArray }
  heap := heap
  slotsUsed := slotsUsed
  threads := #[{ frames := .invoking theMethod args0 :: below }]
def below0 : List Frame := [.native { method := ⟨0, 0⟩, args := #[] }]
def about1 : State := aboutOver below0
def p0 : Program := .bare "" "" ""
def e0 : Env := launch0.env 0 0 0
theorem w_frames : about1.frames = Frame.invoking theMethod args0 :: below0 := rfl
set_option maxRecDepth 65536 in
theorem w_args : argsFit about1.vm theMethod args0 = true := by decide +kernel
set_option maxRecDepth 65536 in
theorem w_heap : heapFits about1 = true := by decide +kernel
set_option maxRecDepth 65536 in
theorem w_runnable : about1.curStatus? = some .runnable := by decide +kernel
set_option maxRecDepth 65536 in
theorem w_alone : about1.alone = true := by decide +kernel
set_option maxRecDepth 65536 in
theorem w_named : about1.methodNamed? x = some theMethod := by decide +kernel
set_option maxRecDepth 65536 in
theorem w_hears : about1.hears theMethod below0 = true := by decide +kernel
set_option maxRecDepth 65536 in
theorem w_ripe : about1.ripe theMethod args0 below0 = true := by decide +kernel
theorem w_running : about1.status = .running := rfl
set_option maxRecDepth 65536 in
theorem w_room : about1.hasRoom e0.platform room_1 = true :=
  launch0.hasRoom_least _ room_1 (by decide +kernel) (by decide +kernel) (by decide +kernel) (by decide +kernel) (by decide +kernel) (by decide +kernel)
theorem allAtoms_all (ts : List Jvm.Cond) (a : Array Jvm.Value) (st : Jvm.State) : (allAtoms ts).before a st = ts.all (fun c => c.before a st) := by
  induction ts with
  | nil => rfl
  | cons c t ih =>
    show (Jvm.Cond.and c (allAtoms t)).before a st = _
    rw [Jvm.Cond.before_and, ih, List.all_cons]
def words1 : List Jvm.Cond := Jvm.Cond.code x code maxLocals ret :: tables_1
/-- a 'code' word, met by the world's own term for the bytes: nothing is compared byte by byte -/
theorem code_word {y : MethodName} {bytes : ByteArray} {mx : Nat} {rt : Option FieldType} {a : Array Value} {s : State} {m : MethodId} {meth : Method} {c : Code} (h1 : s.methodNamed? y = some m) (h2 : s.vm.method? m = some meth) (h3 : meth.code = some c) (h4 : c.code = bytes)
    (h5 : (c.maxLocals == mx && c.exceptionTable.isEmpty && decide (c.maxStack ≤ mostOperands) && decide (meth.sig.returnType = rt) && !meth.locks && decide (parseMethodDescriptor y.desc = some meth.sig)) = true) : (Jvm.Cond.code y bytes mx rt).before a s = true := by
  simp only [Bool.and_eq_true, beq_iff_eq, Bool.not_eq_true', decide_eq_true_eq] at h5
  obtain ⟨⟨⟨⟨⟨g1, g2⟩, g3⟩, g4⟩, g5⟩, g6⟩ := h5
  simp [Cond.before, Cond.holds, Cond.value, h1, h2, h3, h4, g1, g2, g3, g4, g5, g6]
def isCode : Jvm.Cond → Bool
  | .code _ _ _ _ => true
  | _ => false
theorem all_split {L : List Jvm.Cond} {P : Jvm.Cond → Bool} (h1 : L.all (fun c => isCode c || P c) = true) (h2 : ∀ c ∈ L.filter isCode, P c = true) : L.all P = true := by
  refine List.all_eq_true.mpr fun c hc => ?_
  have h := List.all_eq_true.mp h1 c hc
  rcases Bool.eq_false_or_eq_true (isCode c) with hi | hi
  · exact h2 c (List.mem_filter.mpr ⟨hc, hi⟩)
  · simpa [hi] using h
set_option maxRecDepth 65536 in
theorem w_c0 : (Jvm.Cond.code x code maxLocals ret).before args0 about1 = true := code_word (m := ⟨1, 1⟩) (meth := k1m1) (c := k1c1) (by decide +kernel) rfl rfl rfl (by decide +kernel)
set_option maxRecDepth 65536 in
theorem w_c1 : (Jvm.Cond.code ({ cls := "com/example/fanoutd/fanoutd/proxy/NextUpstream$Condition", name := "ofStatus", desc := "(I)Lcom/example/fanoutd/fanoutd/proxy/NextUpstream$Condition;" } : Jvm.MethodName) prog_62_method_7_code (5 : Nat) (Option.some (Jvm.ClassFile.FieldType.object "com/example/fanoutd/fanoutd/proxy/NextUpstream$Condition"))).before args0 about1 = true := code_word (m := ⟨6, 0⟩) (meth := k6m0) (c := k6c0) (by decide +kernel) rfl rfl rfl (by decide +kernel)
set_option maxRecDepth 65536 in
theorem w_c2 : (Jvm.Cond.code ({ cls := "com/example/fanoutd/fanoutd/proxy/ConditionOfStatusPinLaw", name := "expected", desc := "(I)Lcom/example/fanoutd/fanoutd/proxy/NextUpstream$Condition;" } : Jvm.MethodName) method_3_code (1 : Nat) (Option.some (Jvm.ClassFile.FieldType.object "com/example/fanoutd/fanoutd/proxy/NextUpstream$Condition"))).before args0 about1 = true := code_word (m := ⟨1, 2⟩) (meth := k1m2) (c := k1c2) (by decide +kernel) rfl rfl rfl (by decide +kernel)
def codes1 : List Jvm.Cond := [Jvm.Cond.code x code maxLocals ret, Jvm.Cond.code ({ cls := "com/example/fanoutd/fanoutd/proxy/NextUpstream$Condition", name := "ofStatus", desc := "(I)Lcom/example/fanoutd/fanoutd/proxy/NextUpstream$Condition;" } : Jvm.MethodName) prog_62_method_7_code (5 : Nat) (Option.some (Jvm.ClassFile.FieldType.object "com/example/fanoutd/fanoutd/proxy/NextUpstream$Condition")), Jvm.Cond.code ({ cls := "com/example/fanoutd/fanoutd/proxy/ConditionOfStatusPinLaw", name := "expected", desc := "(I)Lcom/example/fanoutd/fanoutd/proxy/NextUpstream$Condition;" } : Jvm.MethodName) method_3_code (1 : Nat) (Option.some (Jvm.ClassFile.FieldType.object "com/example/fanoutd/fanoutd/proxy/NextUpstream$Condition"))]
set_option maxRecDepth 65536 in
theorem codes_eq : words1.filter isCode = codes1 := rfl
theorem w_codes : ∀ c ∈ words1.filter isCode, c.before args0 about1 = true := by
  rw [codes_eq]
  intro c hc
  simp only [codes1, List.mem_cons, List.not_mem_nil, or_false] at hc
  rcases hc with rfl | rfl | rfl
  · exact w_c0
  · exact w_c1
  · exact w_c2
set_option maxRecDepth 65536 in
theorem w_t1 : (words1.take 24).all (fun c => isCode c || c.before args0 about1) = true := by decide +kernel
set_option maxRecDepth 65536 in
theorem w_t2 : (words1.drop 24).all (fun c => isCode c || c.before args0 about1) = true := by decide +kernel
theorem w_tables : (allAtoms (Jvm.Cond.code x code maxLocals ret :: tables_1)).before args0 about1 = true := by
  rw [allAtoms_all]
  show words1.all (fun c => c.before args0 about1) = true
  refine all_split ?_ w_codes
  rw [← List.take_append_drop 24 words1, List.all_append, w_t1, w_t2]
  rfl
set_option maxRecDepth 65536 in
theorem w_case : (Jvm.Cond.and given_1 narrow_1).before args0 about1 = true := by decide +kernel
theorem w_applies : (headSpec (Jvm.Cond.code x code maxLocals ret :: tables_1) room_1).applies x e0.platform about1 = true :=
  (Spec.applies_iff w_frames).mpr ⟨w_running, w_runnable, w_alone, w_named, w_hears, w_ripe, w_room, w_tables⟩
theorem atStart : AtStart classFile x code maxLocals ret World_1 tables_1 room_1 Calls_1 rest_1 Pre_1 launch0 p0 e0 about1 theMethod args0 below0 :=
  ⟨lists_1, trivial, launch0.admits_env _ _ _, launch0.least_env, fairChoices_fair.cas, fairChoices_fair.clock, w_frames, w_args, w_heap, w_applies, trivial, trivial, w_case⟩
end start1
theorem witness_1 : WitnessClaimed_1 := ⟨start1.p0, start1.e0, start1.about1, start1.theMethod, start1.args0, start1.below0, start1.atStart⟩
end Jvm.Pilot.@@N@@
