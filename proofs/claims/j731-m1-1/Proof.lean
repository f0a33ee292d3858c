import JvmDerived
import JvmDerived.Pilot.@@N@@Statement
import JvmDerived.Pilot.@@N@@Code
set_option linter.unusedVariables false
set_option linter.unusedSimpArgs false
namespace Jvm.RoadKit
open Sem ClassFile Op Lib Jvm.Stand Jvm.Free Jvm.LawKit
section New
variable {p : Program} {l : Launch} {e : Env} {R : Room} {s : State} {m : MethodId} {args : Array Value} {below : List Frame} {meth : Method} {c : Code} {T : State} {locs : List Loc} {cells slots : Nat}
theorem retI (X : Stand p l e R s m args below meth c T locs cells slots) (hx : p.tables.exec = Jvm.exec) {pc : Nat} {Ls : Array Slot} {z : Int32} {rest : List Value} (hret : meth.sig.returnType = some .int) (hd : decode c.code pc = .ok (.ireturn, 1)) {fs : List Frame}
    (hl : ∀ (f : JFrame) (acts : List Action), f.method = m → f.locked = none → f.entered = [] → (doReturn e (T.setTop f) acts (some (.int z))).1 = T.setFrames fs) : Steps p.tables e below (T.setTop (mkF m pc Ls (.int z :: rest))) (T.setFrames fs) := by
  have hm' : T.vm.method? m = some meth := X.method'
  have hn : narrow .int (.int z) = .int z := rfl
  show Steps p.tables e below (T.setTop { method := m, pc := pc, locals := Ls, stack := _ :: rest, locked := none }) _
  jvm_step X.here [X.here.top, hx, hd, hm', hret, hn]
  first | (intro acts; rw [hl _ acts rfl rfl rfl]) | rw [hl _ _ rfl rfl rfl]
  exact Steps.refl _
theorem own_lremM {g : JFrame} {target : State} (X : Stand p l e R s m args below meth c T locs cells slots) (hx : p.tables.exec = Jvm.exec) (hg : g.method = m) {x y : Int64} {rest : List Value} (hd : decode c.code g.pc = .ok (.lrem, 1)) (hs : g.stack = .long y :: .long x :: rest) (hy : y ≠ 0)
    (hr : Steps p.tables e below (T.setTop { g with pc := g.pc + 1, stack := .long (x % y) :: rest }) target) : Steps p.tables e below (T.setTop g) target := by
  have q : x - x / y * y = x % y := lrem_mod x y
  exact XS.lrem X.here hx hg hd hs hy (by rw [q]; exact hr)
end New
end Jvm.RoadKit
namespace Jvm.RoadKit
open Sem ClassFile Op Lib Jvm.Stand Jvm.Free Jvm.LawKit
section OwnA
variable {p : Program} {l : Launch} {e : Env} {R : Room} {s : State} {m : MethodId} {args : Array Value} {below : List Frame} {meth : Method} {c : Code} {T : State} {locs : List Loc} {cells slots : Nat} {Z : State} {a0 : Array Value} {h h' : Heap} {a b : Addr} {ty : FieldType} {n : Nat} {G : Nat → Value}
def own_upd {α : Type} (g : Nat → α) (k : Nat) (x : α) (i : Nat) : α := if i = k then x else g i
def own_zI (_ : Nat) : Int32 := 0
def own_zJ (_ : Nat) : Int64 := 0
def own_A (Z : State) (h : Heap) (a : Addr) (ty : FieldType) (n : Nat) (G : Nat → Value) : Prop := ∃ c : Cell, Arr Z h a c ty ∧ c.slots.size = n ∧ ∀ i, i < n → c.slots[i]? = some (G i) ∧ fits ty (G i) = true
theorem own_A.lt (F : own_A Z h a ty n G) : a < h.size := by obtain ⟨c, A, -⟩ := F; exact A.lt
theorem own_A.ext (F : own_A Z h a ty n G) (E : Ext h h') : own_A Z h' a ty n G := by obtain ⟨c, A, r⟩ := F; exact ⟨c, A.ext E, r⟩
theorem own_A.other {sl : Nat} {v : Value} (F : own_A Z h b ty n G) (W : Wr h h' a sl v) (q : b ≠ a) : own_A Z h' b ty n G := by obtain ⟨c, A, r⟩ := F; exact ⟨c, A.other W q, r⟩
theorem own_A.keep {ws : List Addr} (F : own_A Z h a ty n G) (K : Keep h h' ws) (q : a ∉ ws) : own_A Z h' a ty n G := by obtain ⟨c, A, r⟩ := F; exact ⟨c, ⟨K.2.1 a c A.1 q, A.2⟩, r⟩
theorem own_A.new {k : ClassId} {z : Int32} (A : Arr Z h a (newA k ty z) ty) (q : z.toNatClampNeg = n) (hG : ∀ i, G i = defaultValue ty) : own_A Z h a ty n G :=
  ⟨_, A, by rw [sz_new, q], fun i hi => ⟨by rw [hG]; rw [← q] at hi; simp [newA, hi], by rw [hG]; cases ty <;> rfl⟩⟩
theorem own_A.set {k : Nat} {v : Value} (F : own_A Z h a ty n G) (W : Wr h h' a k v) (hk : k < n) (hf : fits ty v = true) : own_A Z h' a ty n (own_upd G k v) := by
  obtain ⟨c, A, q, r⟩ := F
  refine ⟨c.setSlot k v, A.same W, by rw [sz_set, q], fun i hi => ?_⟩
  by_cases e : i = k
  · subst e
    exact ⟨by simp [Cell.setSlot, own_upd, q, hk], by simpa [own_upd] using hf⟩
  · have r1 := r i hi
    have r2 : (c.setSlot k v).slots[i]? = c.slots[i]? := Array.getElem?_setIfInBounds_ne (Ne.symm e)
    have r3 : own_upd G k v i = G i := if_neg e
    rw [r2, r3]; exact r1
theorem own_upd_int (g : Nat → Int32) (k : Nat) (x : Int32) : own_upd (fun i => Value.int (g i)) k (.int x) = fun i => Value.int (own_upd g k x i) := by funext i; unfold own_upd; split <;> rfl
theorem own_upd_long (g : Nat → Int64) (k : Nat) (x : Int64) : own_upd (fun i => Value.long (g i)) k (.long x) = fun i => Value.long (own_upd g k x i) := by funext i; unfold own_upd; split <;> rfl
theorem own_inb {c : Cell} {j : Int32} {k : Nat} (q : c.slots.size = n) (hj0 : ¬ j < 0) (hk : j.toNatClampNeg = k) (hkn : k < n) : ¬ (j < 0 ∨ c.slots.size ≤ j.toNatClampNeg) := fun y => y.elim hj0 fun z => by rw [q, hk] at z; exact absurd hkn (Nat.not_lt.mpr z)
theorem own_stI {g0 : Nat → Int32} (X : Stand p l e R s m args below meth c T locs cells slots) (hx : p.tables.exec = Jvm.exec) (hZ : Z.Warmed39 s.vm) (eT : T.heap = h) (F : own_A Z h a .int n (fun i => .int (g0 i))) {j x : Int32} {k : Nat} (hj0 : ¬ j < 0) (hk : j.toNatClampNeg = k) (hkn : k < n) {g : JFrame} (hg : g.method = m) {rest : List Value} (hs : g.stack = .int x :: .int j :: .ref a :: rest) (hd : decode c.code g.pc = .ok (.iastore, 1)) :
    ∃ T' h', Stand p l e R s m args below meth c T' (locs ++ [⟨a, j.toNatClampNeg⟩]) cells slots ∧ T'.heap = h' ∧ Wr h h' a j.toNatClampNeg (.int x) ∧ own_A Z h' a .int n (fun i => .int (own_upd g0 k x i)) ∧ ∀ target, Steps p.tables e below (T'.setTop { g with pc := g.pc + 1, stack := rest }) target → Steps p.tables e below (T.setTop g) target := by
  obtain ⟨cl, A, q, r⟩ := id F
  obtain ⟨T', h', X', e', W, st⟩ := stI X hx hZ eT A (j := j) (x := x) (own_inb q hj0 hk hkn) hg hs hd
  exact ⟨T', h', X', e', W, own_upd_int g0 k x ▸ hk ▸ F.set W (by rw [hk]; exact hkn) rfl, st⟩
theorem own_stJ {g0 : Nat → Int64} (X : Stand p l e R s m args below meth c T locs cells slots) (hx : p.tables.exec = Jvm.exec) (hZ : Z.Warmed39 s.vm) (eT : T.heap = h) (F : own_A Z h a .long n (fun i => .long (g0 i))) {j : Int32} {x : Int64} {k : Nat} (hj0 : ¬ j < 0) (hk : j.toNatClampNeg = k) (hkn : k < n) {g : JFrame} (hg : g.method = m) {rest : List Value} (hs : g.stack = .long x :: .int j :: .ref a :: rest) (hd : decode c.code g.pc = .ok (.lastore, 1)) :
    ∃ T' h', Stand p l e R s m args below meth c T' (locs ++ [⟨a, j.toNatClampNeg⟩]) cells slots ∧ T'.heap = h' ∧ Wr h h' a j.toNatClampNeg (.long x) ∧ own_A Z h' a .long n (fun i => .long (own_upd g0 k x i)) ∧ ∀ target, Steps p.tables e below (T'.setTop { g with pc := g.pc + 1, stack := rest }) target → Steps p.tables e below (T.setTop g) target := by
  obtain ⟨cl, A, q, r⟩ := id F
  obtain ⟨T', h', X', e', W, st⟩ := stJ X hx hZ eT A (j := j) (x := x) (own_inb q hj0 hk hkn) hg hs hd
  exact ⟨T', h', X', e', W, own_upd_long g0 k x ▸ hk ▸ F.set W (by rw [hk]; exact hkn) rfl, st⟩
theorem own_stB {g0 : Nat → Int32} (X : Stand p l e R s m args below meth c T locs cells slots) (hx : p.tables.exec = Jvm.exec) (hZ : Z.Warmed39 s.vm) (eT : T.heap = h) (F : own_A Z h a .byte n (fun i => .int (g0 i))) {j x : Int32} {k : Nat} (hj0 : ¬ j < 0) (hk : j.toNatClampNeg = k) (hkn : k < n) {g : JFrame} (hg : g.method = m) {rest : List Value} (hs : g.stack = .int x :: .int j :: .ref a :: rest) (hd : decode c.code g.pc = .ok (.bastore, 1)) :
    ∃ T' h', Stand p l e R s m args below meth c T' (locs ++ [⟨a, j.toNatClampNeg⟩]) cells slots ∧ T'.heap = h' ∧ Wr h h' a j.toNatClampNeg (.int x.toInt8.toInt32) ∧ own_A Z h' a .byte n (fun i => .int (own_upd g0 k x.toInt8.toInt32 i)) ∧ ∀ target, Steps p.tables e below (T'.setTop { g with pc := g.pc + 1, stack := rest }) target → Steps p.tables e below (T.setTop g) target := by
  obtain ⟨cl, A, q, r⟩ := id F
  obtain ⟨T', h', X', e', W, st⟩ := stB X hx hZ eT A (j := j) (x := x) (own_inb q hj0 hk hkn) hg hs hd
  have hfb : fits .byte (.int (nar .byte x)) = true := fits_nar_byte x
  exact ⟨T', h', X', e', W, own_upd_int g0 k _ ▸ hk ▸ F.set W (by rw [hk]; exact hkn) hfb, st⟩
theorem own_ldI {g0 : Nat → Int32} (X : Stand p l e R s m args below meth c T locs cells slots) (hx : p.tables.exec = Jvm.exec) (hZ : Z.Warmed39 s.vm) (eT : T.heap = h) (F : own_A Z h a .int n (fun i => .int (g0 i))) {j : Int32} {k : Nat} (hj0 : ¬ j < 0) (hk : j.toNatClampNeg = k) (hkn : k < n) {g : JFrame} (hg : g.method = m) {rest : List Value} (hs : g.stack = .int j :: .ref a :: rest) (hd : decode c.code g.pc = .ok (.iaload, 1)) {target : State}
    (hr : Steps p.tables e below (T.setTop { g with pc := g.pc + 1, stack := .int (g0 k) :: rest }) target) : Steps p.tables e below (T.setTop g) target := by
  obtain ⟨cl, A, q, r⟩ := F
  exact X.iaload hx (j := j) (v := .int (g0 k)) (by rw [eT]; exact A.1) (State.isArrayOf_alike hZ.alike A.2.1) A.2.2 (own_inb q hj0 hk hkn) (by rw [hk]; exact (r k hkn).1) hg hs hd _ hr
theorem own_ldJ {g0 : Nat → Int64} (X : Stand p l e R s m args below meth c T locs cells slots) (hx : p.tables.exec = Jvm.exec) (hZ : Z.Warmed39 s.vm) (eT : T.heap = h) (F : own_A Z h a .long n (fun i => .long (g0 i))) {j : Int32} {k : Nat} (hj0 : ¬ j < 0) (hk : j.toNatClampNeg = k) (hkn : k < n) {g : JFrame} (hg : g.method = m) {rest : List Value} (hs : g.stack = .int j :: .ref a :: rest) (hd : decode c.code g.pc = .ok (.laload, 1)) {target : State}
    (hr : Steps p.tables e below (T.setTop { g with pc := g.pc + 1, stack := .long (g0 k) :: rest }) target) : Steps p.tables e below (T.setTop g) target := by
  obtain ⟨cl, A, q, r⟩ := F
  exact X.laload hx (j := j) (v := .long (g0 k)) (by rw [eT]; exact A.1) (State.isArrayOf_alike hZ.alike A.2.1) A.2.2 (own_inb q hj0 hk hkn) (by rw [hk]; exact (r k hkn).1) hg hs hd _ hr
theorem own_ldB {g0 : Nat → Int32} (X : Stand p l e R s m args below meth c T locs cells slots) (hx : p.tables.exec = Jvm.exec) (hZ : Z.Warmed39 s.vm) (eT : T.heap = h) (F : own_A Z h a .byte n (fun i => .int (g0 i))) {j : Int32} {k : Nat} (hj0 : ¬ j < 0) (hk : j.toNatClampNeg = k) (hkn : k < n) {g : JFrame} (hg : g.method = m) {rest : List Value} (hs : g.stack = .int j :: .ref a :: rest) (hd : decode c.code g.pc = .ok (.baload, 1)) {target : State}
    (hr : Steps p.tables e below (T.setTop { g with pc := g.pc + 1, stack := .int (g0 k) :: rest }) target) : Steps p.tables e below (T.setTop g) target := by
  obtain ⟨cl, A, q, r⟩ := F
  exact X.baloadBytes hx (j := j) (v := .int (g0 k)) (by rw [eT]; exact A.1) (State.isArrayOf_alike hZ.alike A.2.1) A.2.2 (own_inb q hj0 hk hkn) (by rw [hk]; exact (r k hkn).1) hg hs hd _ hr
theorem own_ldR {G : Nat → Value} (X : Stand p l e R s m args below meth c T locs cells slots) (hx : p.tables.exec = Jvm.exec) (hZ : Z.Warmed39 s.vm) (eT : T.heap = h) (F : own_A Z h a ty n G) (hty : ty.isReference = true) {j : Int32} {k : Nat} {v : Value} (hv : G k = v) (hj0 : ¬ j < 0) (hk : j.toNatClampNeg = k) (hkn : k < n) {g : JFrame} (hg : g.method = m) {rest : List Value} (hs : g.stack = .int j :: .ref a :: rest) (hd : decode c.code g.pc = .ok (.aaload, 1)) {target : State}
    (hr : Steps p.tables e below (T.setTop { g with pc := g.pc + 1, stack := v :: rest }) target) : Steps p.tables e below (T.setTop g) target := by
  obtain ⟨cl, A, q, r⟩ := F
  exact X.aaload hx (j := j) (v := v) (by rw [eT]; exact A.1) (State.isArrayOf_alike hZ.alike A.2.1) hty A.2.2 (own_inb q hj0 hk hkn) (by rw [hk, ← hv]; exact (r k hkn).1) hg hs hd _ hr
theorem own_len (X : Stand p l e R s m args below meth c T locs cells slots) (hx : p.tables.exec = Jvm.exec) (hZ : Z.Warmed39 s.vm) (eT : T.heap = h) (F : own_A Z h a ty n G) {z : Int32} (hz : n.toInt32 = z) {g : JFrame} (hg : g.method = m) {rest : List Value} (hs : g.stack = .ref a :: rest) (hd : decode c.code g.pc = .ok (.arraylength, 1)) {target : State}
    (hr : Steps p.tables e below (T.setTop { g with pc := g.pc + 1, stack := .int z :: rest }) target) : Steps p.tables e below (T.setTop g) target := by
  obtain ⟨cl, A, q, r⟩ := F
  exact X.arraylength hx (by rw [eT]; exact A.1) (State.isArrayOf_alike hZ.alike A.2.1) hg hs hd _ (by rw [q, hz]; exact hr)
theorem own_newP {aty : ArrayType} (X : Stand p l e R s m args below meth c T locs cells slots) (hx : p.tables.exec = Jvm.exec) (hZ : Z.Warmed39 s.vm) (w : (Cond.arrayClass (newarray.typeOf aty)).before a0 Z = true) (eT : T.heap = h) {g : JFrame} (hg : g.method = m) (hd : decode c.code g.pc = .ok (.newarray aty, 2)) {z : Int32} {rest : List Value} (hs : g.stack = .int z :: rest)
    (hn : ¬ z < 0) (hzn : z.toNatClampNeg = n) {G : Nat → Value} (hG : ∀ i, G i = defaultValue (newarray.typeOf aty)) {cap : Nat} (hcap : n ≤ cap) (hb : cap * 8 ≤ 536870912) (hc : cells + 1 ≤ R.cells) (hl : slots + cap ≤ R.slots) :
    ∃ (T' : State) (h' : Heap) (b : Addr), b = h.size ∧ Stand p l e R s m args below meth c T' locs (cells + 1) (slots + cap) ∧ T'.heap = h' ∧ Ext h h' ∧ own_A Z h' b (newarray.typeOf aty) n G ∧
      ∀ target, Steps p.tables e below (T'.setTop { g with pc := g.pc + 2, stack := .ref b :: rest }) target → Steps p.tables e below (T.setTop g) target := by
  obtain ⟨T', h', cA, X', e', E', A', st⟩ := newP X hx hZ w eT hg hd hs hn (cap := cap) (by rw [hzn]; exact hcap) hb hc hl
  exact ⟨T', h', _, rfl, X', e', E', own_A.new A' hzn hG, st⟩
theorem own_newPE {aty : ArrayType} (X : Stand p l e R s m args below meth c T locs cells slots) (hx : p.tables.exec = Jvm.exec) (hZ : Z.Warmed39 s.vm) (w : (Cond.arrayClass (newarray.typeOf aty)).before a0 Z = true) (eT : T.heap = h) {g : JFrame} (hg : g.method = m) (hd : decode c.code g.pc = .ok (.newarray aty, 2)) {z : Int32} {rest : List Value} (hs : g.stack = .int z :: rest)
    (hn : ¬ z < 0) (hzn : z.toNatClampNeg = n) {G : Nat → Value} (hG : ∀ i, G i = defaultValue (newarray.typeOf aty)) {cap : Nat} (hcap : n ≤ cap) (hb : cap * 8 ≤ 536870912) (hc : cells + 1 ≤ R.cells) (hl : slots + cap ≤ R.slots) {ad : String} (had : "[" ++ (newarray.typeOf aty).toString = ad) :
    ∃ (T' : State) (h' : Heap) (b : Addr), b = h.size ∧ Stand p l e R s m args below meth c T' locs (cells + 1) (slots + cap) ∧ T'.heap = h' ∧ Ext h h' ∧ own_A Z h' b (newarray.typeOf aty) n G ∧ Exa Z h' b ad ∧
      ∀ target, Steps p.tables e below (T'.setTop { g with pc := g.pc + 2, stack := .ref b :: rest }) target → Steps p.tables e below (T.setTop g) target := by
  obtain ⟨T', h', cA, X', e', E', A', B', st⟩ := newPE X hx hZ w eT hg hd hs hn (cap := cap) (by rw [hzn]; exact hcap) hb hc hl had
  exact ⟨T', h', _, rfl, X', e', E', own_A.new A' hzn hG, B', st⟩
theorem own_clone (X : Stand p l e R s m args below meth c T locs cells slots) (hx : p.tables.exec = Jvm.exec) (hZ : Z.Warmed39 s.vm) {own ad : String} {index : Nat} (hown : s.vm.findClass own = some m.cls)
    (w1 : (Cond.methodLink own index ⟨ad, "clone", "()Ljava/lang/Object;"⟩).before a0 Z = true) (w2 : (Cond.sameMethod ad "java/lang/Object" "clone" "()Ljava/lang/Object;").before a0 Z = true) (w3 : (Cond.native ⟨"java/lang/Object", "clone", "()Ljava/lang/Object;"⟩).before a0 Z = true)
    (w4 : (Cond.instanceMethod ⟨"java/lang/Object", "clone", "()Ljava/lang/Object;"⟩).before a0 Z = true) (w5 : (Cond.selects ad ⟨ad, "clone", "()Ljava/lang/Object;"⟩ ⟨"java/lang/Object", "clone", "()Ljava/lang/Object;"⟩).before a0 Z = true) (w6 : (Cond.castable ad "java/lang/Cloneable").before a0 Z = true)
    (eT : T.heap = h) (F : own_A Z h a ty n G) (E : Exa Z h a ad) {g : JFrame} (hg : g.method = m) (hsize : g.locals.size = c.maxLocals) {rest : List Value} (hs : g.stack = .ref a :: rest) (hd : decode c.code g.pc = .ok (.invokevirtual index, 3))
    (hf : 1 ≤ R.frames) {W cap : Nat} (hW : 2 * g.monitorRoom + (rest.map fun v => v.category).sum ≤ W) (hl : W + 14 ≤ R.locals) (hcap : n ≤ cap) (hc : cells + 1 ≤ R.cells) (hsl : slots + cap ≤ R.slots) :
    ∃ (T' : State) (h' : Heap) (b : Addr), b = h.size ∧ Stand p l e R s m args below meth c T' locs (cells + 1) (slots + cap) ∧ T'.heap = h' ∧ Ext h h' ∧ own_A Z h' b ty n G ∧ Exa Z h' b ad ∧
      ∀ target, Steps p.tables e below (T'.setTop { g with pc := g.pc + 3, stack := .ref b :: rest }) target → Steps p.tables e below (T.setTop g) target := by
  obtain ⟨cl, A, q, r⟩ := F
  have FC : FitC Z cl := fitC_of A fun i hi v hv => by
    have r1 := r i (by rw [← q]; exact hi)
    rw [r1.1] at hv; cases hv; exact r1.2
  obtain ⟨T', h', X', e', ex, A', E', st⟩ := cloneA X hx hZ hown w1 w2 w3 w4 w5 w6 eT A E FC hg hsize hs hd hf hW hl (by rw [q]; exact hcap) hc hsl
  exact ⟨T', h', _, rfl, X', e', ex, ⟨cloneOf cl, A', q, r⟩, E', st⟩
theorem own_A.congr {G' : Nat → Value} (F : own_A Z h a ty n G) (q : ∀ i, i < n → G i = G' i) : own_A Z h a ty n G' := by
  obtain ⟨c, A, s, r⟩ := F
  exact ⟨c, A, s, fun i hi => by rw [← q i hi]; exact r i hi⟩
theorem own_A_plain (F : own_A Z h a ty n G) : ∀ c : Cell, h[a]? = some c → c.vm.isStatics = false := fun c hc => by
  obtain ⟨cl, A, -⟩ := F
  cases hc.symm.trans A.1
  exact A.plain
theorem own_E_plain {C : String} (F : Exa Z h a C) : ∀ c : Cell, h[a]? = some c → c.vm.isStatics = false := fun c hc => by
  obtain ⟨cl, k, h1, -, -, h4, -⟩ := F
  cases hc.symm.trans h1
  exact h4
theorem own_sta_keep {C f d : String} {v : Value} {ws : List Addr} (F : Sta Z h C f d v) (K : Keep h h' ws) (q : ∀ x ∈ ws, ∀ c : Cell, h[x]? = some c → c.vm.isStatics = false) : Sta Z h' C f d v := by
  obtain ⟨cf, i, k, f, st, cell, h1, h2, h3, h4, h5, h6, h7⟩ := F
  exact ⟨cf, i, k, f, st, cell, h1, h2, h3, h4, K.2.1 st cell h5 (fun z => by rw [q st z cell h5] at h6; cases h6), h6, h7⟩
end OwnA
end Jvm.RoadKit
namespace Jvm.Pilot.@@N@@
open Jvm Jvm.ClassFile Sem Op Lib Jvm.Free Jvm.Stand Jvm.LawKit Jvm.RoadKit Bundle Jvm.Pilot.@@N@@.Jvm.D
theorem d1_0 : decode prog_23_method_1_code 0 = .ok (.aload_n 0, 1) := by decide +kernel
theorem d1_1 : decode prog_23_method_1_code 1 = .ok (.invokespecial 1, 3) := by decide +kernel
theorem d1_4 : decode prog_23_method_1_code 4 = .ok (.aload_n 1, 1) := by decide +kernel
theorem d1_5 : decode prog_23_method_1_code 5 = .ok (.arraylength, 1) := by decide +kernel
theorem d1_6 : decode prog_23_method_1_code 6 = .ok (.iconst 2, 1) := by decide +kernel
theorem d1_7 : decode prog_23_method_1_code 7 = .ok (.if_icmp .ge 13, 3) := by decide +kernel
theorem d1_20 : decode prog_23_method_1_code 20 = .ok (.aload_n 0, 1) := by decide +kernel
theorem d1_21 : decode prog_23_method_1_code 21 = .ok (.aload_n 1, 1) := by decide +kernel
theorem d1_22 : decode prog_23_method_1_code 22 = .ok (.invokevirtual 16, 3) := by decide +kernel
theorem d1_25 : decode prog_23_method_1_code 25 = .ok (.checkcast 17, 3) := by decide +kernel
theorem d1_28 : decode prog_23_method_1_code 28 = .ok (.putfield 22, 3) := by decide +kernel
theorem d1_31 : decode prog_23_method_1_code 31 = .ok (.return_, 1) := by decide +kernel
theorem pn_1 : plainName "com/example/cardwire/cardwire/core/ResponseApdu" = true := by first | (simp [plainName, overriddenIn]; done) | decide +kernel
theorem ef_1t2 (m : MethodId) (p0 : Addr) (p1 : Addr) : entryFrame m #[(.ref p0), (.ref p1)] 2 = mkF m 0 #[.val (.ref p0), .val (.ref p1)] [] := by first | (simp [entryFrame, mkF, argsToLocals, Value.category]; done) | rfl
def Q_1t2 (Z : State) (p0 : Addr) (p1 : Addr) (g_ : Nat → Int32) (h0 : Heap) (n0 : Nat) (v : Option Value) (h : Heap) (L : List Loc) : Prop := ∃ w : Addr, v = none ∧ Fr n0 L ∧ h0.size ≤ w ∧ Keep h0 h [p0] ∧ Exa Z h p0 "com/example/cardwire/cardwire/core/ResponseApdu" ∧ Fld Z h p0 "com/example/cardwire/cardwire/core/ResponseApdu" "bytes" "[B" (.ref w) ∧ own_A Z h w .byte 2 (fun i => .int (g_ i))
set_option maxRecDepth 65536 in
set_option maxHeartbeats 40000000 in
theorem rm_1t2 (l : Launch) (Z : State) (a0 : Array Value) (hw : ∀ d ∈ tables_1, d.before a0 Z = true) (ws : List Jvm.Cond) (p0 : Addr) (p1 : Addr) (g_ : Nat → Int32) (h0 : Heap) (n0 : Nat) (Z0 : n0 ≤ h0.size) (E_p0 : Exa Z h0 p0 "com/example/cardwire/cardwire/core/ResponseApdu") (F_p0_bytes : Fld Z h0 p0 "com/example/cardwire/cardwire/core/ResponseApdu" "bytes" "[B" .null) (ge_p0 : n0 ≤ p0) (A_p1 : own_A Z h0 p1 .byte 2 (fun i => .int (g_ i))) (E_p1 : Exa Z h0 p1 "[B") (ne_p0_p1 : p0 ≠ p1) :
    MetFree l (⟨"com/example/cardwire/cardwire/core/ResponseApdu", "<init>", "([B)V"⟩ : MethodName) (head1 (Jvm.Cond.code (⟨"com/example/cardwire/cardwire/core/ResponseApdu", "<init>", "([B)V"⟩ : MethodName) prog_23_method_1_code 2 none :: ws) ({ frames := 1, cells := 1, slots := 2, locals := 15 } : Room)) (fun a U => a = #[(.ref p0), (.ref p1)] ∧ Z.Warmed39 U.vm ∧ U.heap = h0) (fun _ _ _ _ _ => True) (fun _ U o U' => ∃ v L, o = .returned v ∧ Q_1t2 Z p0 p1 g_ h0 n0 v U'.heap L ∧ FrameEnd U o U' L ({ frames := 1, cells := 1, slots := 2, locals := 15 } : Room).cells ({ frames := 1, cells := 1, slots := 2, locals := 15 } : Room).slots) := by
  refine MetFree.of_bodySF (plainFor_of_name pn_1) hisR ?_
  intro p e s m args below meth c s₁ Bd hml0 hP hK
  obtain ⟨rfl, hZ, hh⟩ := hP
  have hx := Bd.exec
  have hby := Bd.bytes
  have hml : c.maxLocals = 2 := hml0
  have hown : s.vm.findClass "com/example/cardwire/cardwire/core/ResponseApdu" = some m.cls := findClass_of_methodNamed Bd.named
  have hnm := (name_of_methodNamed Bd.named Bd.method).1
  have X0 : Stand p l e ({ frames := 1, cells := 1, slots := 2, locals := 15 } : Room) s m #[(.ref p0), (.ref p1)] below meth c s₁ [] 0 0 := Stand.of_body Bd
  have e0 : s₁.heap = h0 := by rw [← hh, Bd.state]; rfl
  have N0 := Fr.nil n0
  have K0 : Keep h0 h0 [p0] := Keep.refl h0 _
  have pre0 : ∀ t, Steps p.tables e below (s₁.setTop (mkF m 0 #[.val (.ref p0), .val (.ref p1)] [])) t → Steps p.tables e below (s₁.setTop (entryFrame m #[(.ref p0), (.ref p1)] 2)) t := fun t k => castTop (ef_1t2 m p0 p1) k
  have pre1 : ∀ t, Steps p.tables e below (s₁.setTop (mkF m 1 #[.val (.ref p0), .val (.ref p1)] [(.ref p0)])) t → Steps p.tables e below (s₁.setTop (entryFrame m #[(.ref p0), (.ref p1)] 2)) t := by
    intro t k
    refine pre0 t ?_
    show Steps p.tables e below (s₁.setTop (mkF m 0 #[.val (.ref p0), .val (.ref p1)] [])) _
    refine XS.aloadN X0.here hx rfl (hb hby d1_0) rfl rfl ?_
    exact k
  obtain ⟨T2, X2, e2, st2⟩ := initO X0 hx hZ hown (hw _ (List.mem_of_getElem? (i := 7) rfl)) (hw _ (List.mem_of_getElem? (i := 8) rfl)) (hw _ (List.mem_of_getElem? (i := 9) rfl)) e0 (g := (mkF m 1 #[.val (.ref p0), .val (.ref p1)] [(.ref p0)])) rfl (by rw [hml]; rfl) rfl (hb hby d1_1) (by decide) (W := 0) (by show 2 * 0 + _ ≤ _; exact Nat.le_of_eq rfl) (by decide)
  have pre3 : ∀ t, Steps p.tables e below (T2.setTop (mkF m 22 #[.val (.ref p0), .val (.ref p1)] [(.ref p1), (.ref p0)])) t → Steps p.tables e below (s₁.setTop (entryFrame m #[(.ref p0), (.ref p1)] 2)) t := by
    intro t k
    refine pre1 t ?_
    show Steps p.tables e below (s₁.setTop (mkF m 1 #[.val (.ref p0), .val (.ref p1)] [(.ref p0)])) _
    refine st2 _ ?_
    show Steps p.tables e below (T2.setTop (mkF m 4 #[.val (.ref p0), .val (.ref p1)] [])) _
    refine XS.aloadN X2.here hx rfl (hb hby d1_4) rfl rfl ?_
    show Steps p.tables e below (T2.setTop (mkF m 5 #[.val (.ref p0), .val (.ref p1)] [(.ref p1)])) _
    refine own_len X2 hx hZ e2 A_p1 (z := (2 : Int32)) rfl (g := (mkF m 5 #[.val (.ref p0), .val (.ref p1)] [(.ref p1)])) rfl rfl (hb hby d1_5) ?_
    show Steps p.tables e below (T2.setTop (mkF m 6 #[.val (.ref p0), .val (.ref p1)] [(.int (2 : Int32))])) _
    refine XS.iconst X2.here hx rfl (hb hby d1_6) ?_
    show Steps p.tables e below (T2.setTop (mkF m 7 #[.val (.ref p0), .val (.ref p1)] [(.int (2 : Int32)), (.int (2 : Int32))])) _
    refine XS.icmpYes X2.here hx rfl (pc0 := 7) (pc' := 20) rfl (hb hby d1_7) rfl (flt (by decide : ¬ ((2 : Int32) < (2 : Int32)))).2.1 (by decide) (by decide) ?_
    show Steps p.tables e below (T2.setTop (mkF m 20 #[.val (.ref p0), .val (.ref p1)] [])) _
    refine XS.aloadN X2.here hx rfl (hb hby d1_20) rfl rfl ?_
    show Steps p.tables e below (T2.setTop (mkF m 21 #[.val (.ref p0), .val (.ref p1)] [(.ref p0)])) _
    refine XS.aloadN X2.here hx rfl (hb hby d1_21) rfl rfl ?_
    exact k
  obtain ⟨T4, h4, b4, gb4, X4, e4, E4, A4, B4, st4⟩ := own_clone X2 hx hZ hown (hw _ (List.mem_of_getElem? (i := 10) rfl)) (hw _ (List.mem_of_getElem? (i := 11) rfl)) (hw _ (List.mem_of_getElem? (i := 15) rfl)) (hw _ (List.mem_of_getElem? (i := 13) rfl)) (hw _ (List.mem_of_getElem? (i := 14) rfl)) (hw _ (List.mem_of_getElem? (i := 16) rfl)) e2 A_p1 E_p1 (g := (mkF m 22 #[.val (.ref p0), .val (.ref p1)] [(.ref p1), (.ref p0)])) rfl (by rw [hml]; rfl) rfl (hb hby d1_22) (by decide) (W := 1) (by show 2 * 0 + _ ≤ _; exact Nat.le_of_eq rfl) (by decide) (cap := 2) (by decide) (by decide) (by decide)
  have ne_p0_b4 : p0 ≠ b4 := Nat.ne_of_lt (Nat.lt_of_lt_of_le E_p0.lt (Nat.le_of_eq gb4.symm))
  have ne_p1_b4 : p1 ≠ b4 := Nat.ne_of_lt (Nat.lt_of_lt_of_le A_p1.lt (Nat.le_of_eq gb4.symm))
  have sz_b4 : h0.size ≤ b4 := Nat.le_trans K0.1 (Nat.le_of_eq gb4.symm)
  have ge_b4 : n0 ≤ b4 := Nat.le_trans Z0 (Nat.le_of_eq gb4.symm)
  have exa_p0_4 := E_p0.ext E4
  have fld_p0_bytes_4 := F_p0_bytes.ext E4
  have arr_p1_4 := A_p1.ext E4
  have exa_p1_4 := E_p1.ext E4
  have K4 := K0.ext E4
  have Z4 := Nat.le_trans Z0 E4.1
  have pre5 : ∀ t, Steps p.tables e below (T4.setTop (mkF m 25 #[.val (.ref p0), .val (.ref p1)] [(.ref b4), (.ref p0)])) t → Steps p.tables e below (s₁.setTop (entryFrame m #[(.ref p0), (.ref p1)] 2)) t := by
    intro t k
    refine pre3 t ?_
    show Steps p.tables e below (T2.setTop (mkF m 22 #[.val (.ref p0), .val (.ref p1)] [(.ref p1), (.ref p0)])) _
    refine st4 _ ?_
    exact k
  obtain ⟨T6, X6, e6, st6⟩ := castY X4 hx hZ hown (hw _ (List.mem_of_getElem? (i := 17) rfl)) e4 (Ins.self B4) (g := (mkF m 25 #[.val (.ref p0), .val (.ref p1)] [(.ref b4), (.ref p0)])) rfl rfl (hb hby d1_25)
  have pre7 : ∀ t, Steps p.tables e below (T6.setTop (mkF m 28 #[.val (.ref p0), .val (.ref p1)] [(.ref b4), (.ref p0)])) t → Steps p.tables e below (s₁.setTop (entryFrame m #[(.ref p0), (.ref p1)] 2)) t := by
    intro t k
    refine pre5 t ?_
    show Steps p.tables e below (T4.setTop (mkF m 25 #[.val (.ref p0), .val (.ref p1)] [(.ref b4), (.ref p0)])) _
    refine st6 _ ?_
    exact k
  obtain ⟨T8, h8, X8, e8, W8, st8⟩ := putF X6 hx hZ hown (host := "") (Or.inl (hw _ (List.mem_of_getElem? (i := 19) rfl))) Via.refl e6 fld_p0_bytes_4 exa_p0_4 (Or.inr ⟨(hw _ (List.mem_of_getElem? (i := 20) rfl)), rfl, hnm⟩) (hw _ (List.mem_of_getElem? (i := 2) rfl)) (ty := (.array .byte)) (by decide) rfl rfl (g := (mkF m 28 #[.val (.ref p0), .val (.ref p1)] [(.ref b4), (.ref p0)])) rfl rfl (hb hby d1_28)
  have Fw8 := fld_p0_bytes_4.same W8
  have exa_p0_8 := exa_p0_4.wr W8
  have arr_p1_8 := arr_p1_4.other W8 ne_p0_p1.symm
  have exa_p1_8 := exa_p1_4.wr W8
  have arr_b4_8 := A4.other W8 ne_p0_b4.symm
  have exa_b4_8 := B4.wr W8
  have K8 := K4.wr W8 (Or.inl (List.mem_of_getElem? (i := 0) rfl))
  have Z8 := Nat.le_trans Z4 (Nat.le_of_eq W8.size.symm)
  have N8 := Fr.snoc X8 N0 ge_p0
  obtain ⟨fs, hr, hrun, hended, hW, hsame⟩ := X8.leave (v := none) (fun _ => rfl)
  refine ⟨_, _, pre7 _ ?_, hrun, hended, _, _, rfl, ?_, ⟨_, rfl⟩, hW, hsame.mono (by decide) (by decide)⟩
  · show Steps p.tables e below (T6.setTop (mkF m 28 #[.val (.ref p0), .val (.ref p1)] [(.ref b4), (.ref p0)])) _
    refine st8 _ ?_
    show Steps p.tables e below (T8.setTop (mkF m 31 #[.val (.ref p0), .val (.ref p1)] [])) _
    exact X8.returnOut hx Bd.returns (hb hby d1_31) hr
  · show Q_1t2 Z p0 p1 g_ h0 n0 _ T8.heap _
    rw [e8]
    exact ⟨b4, rfl, N8, sz_b4, K8, exa_p0_8, Fw8, arr_b4_8⟩
theorem d3_0 : decode prog_23_method_4_code 0 = .ok (.aload_n 0, 1) := by decide +kernel
theorem d3_1 : decode prog_23_method_4_code 1 = .ok (.getfield 22, 3) := by decide +kernel
theorem d3_4 : decode prog_23_method_4_code 4 = .ok (.aload_n 0, 1) := by decide +kernel
theorem d3_5 : decode prog_23_method_4_code 5 = .ok (.getfield 22, 3) := by decide +kernel
theorem d3_8 : decode prog_23_method_4_code 8 = .ok (.arraylength, 1) := by decide +kernel
theorem d3_9 : decode prog_23_method_4_code 9 = .ok (.iconst 2, 1) := by decide +kernel
theorem d3_10 : decode prog_23_method_4_code 10 = .ok (.isub, 1) := by decide +kernel
theorem d3_11 : decode prog_23_method_4_code 11 = .ok (.baload, 1) := by decide +kernel
theorem d3_12 : decode prog_23_method_4_code 12 = .ok (.sipush 255, 3) := by decide +kernel
theorem d3_15 : decode prog_23_method_4_code 15 = .ok (.iand, 1) := by decide +kernel
theorem d3_16 : decode prog_23_method_4_code 16 = .ok (.bipush 8, 2) := by decide +kernel
theorem d3_18 : decode prog_23_method_4_code 18 = .ok (.ishl, 1) := by decide +kernel
theorem d3_19 : decode prog_23_method_4_code 19 = .ok (.aload_n 0, 1) := by decide +kernel
theorem d3_20 : decode prog_23_method_4_code 20 = .ok (.getfield 22, 3) := by decide +kernel
theorem d3_23 : decode prog_23_method_4_code 23 = .ok (.aload_n 0, 1) := by decide +kernel
theorem d3_24 : decode prog_23_method_4_code 24 = .ok (.getfield 22, 3) := by decide +kernel
theorem d3_27 : decode prog_23_method_4_code 27 = .ok (.arraylength, 1) := by decide +kernel
theorem d3_28 : decode prog_23_method_4_code 28 = .ok (.iconst 1, 1) := by decide +kernel
theorem d3_29 : decode prog_23_method_4_code 29 = .ok (.isub, 1) := by decide +kernel
theorem d3_30 : decode prog_23_method_4_code 30 = .ok (.baload, 1) := by decide +kernel
theorem d3_31 : decode prog_23_method_4_code 31 = .ok (.sipush 255, 3) := by decide +kernel
theorem d3_34 : decode prog_23_method_4_code 34 = .ok (.iand, 1) := by decide +kernel
theorem d3_35 : decode prog_23_method_4_code 35 = .ok (.ior, 1) := by decide +kernel
theorem d3_36 : decode prog_23_method_4_code 36 = .ok (.ireturn, 1) := by decide +kernel
theorem pn_3 : plainName "com/example/cardwire/cardwire/core/ResponseApdu" = true := by first | (simp [plainName, overriddenIn]; done) | decide +kernel
theorem ef_3t2 (m : MethodId) (p0 : Addr) : entryFrame m #[(.ref p0)] 1 = mkF m 0 #[.val (.ref p0)] [] := by first | (simp [entryFrame, mkF, argsToLocals, Value.category]; done) | rfl
def f_3t2 (g_ : Nat → Int32) : Int32 := ((((g_ 0) &&& (255 : Int32)) <<< ((8 : Int32) &&& 31)) ||| ((g_ 1) &&& (255 : Int32)))
def Q_3t2 (Z : State) (p0 : Addr) (w : Addr) (g_ : Nat → Int32) (h0 : Heap) (n0 : Nat) (v : Option Value) (h : Heap) (L : List Loc) : Prop := v = some (.int (f_3t2 g_)) ∧ Fr n0 L ∧ h = h0
set_option maxRecDepth 65536 in
set_option maxHeartbeats 40000000 in
theorem rm_3t2 (l : Launch) (Z : State) (a0 : Array Value) (hw : ∀ d ∈ tables_1, d.before a0 Z = true) (ws : List Jvm.Cond) (p0 : Addr) (w : Addr) (g_ : Nat → Int32) (h0 : Heap) (n0 : Nat) (Z0 : n0 ≤ h0.size) (F_p0_bytes : Fld Z h0 p0 "com/example/cardwire/cardwire/core/ResponseApdu" "bytes" "[B" (.ref w)) (A_w : own_A Z h0 w .byte 2 (fun i => .int (g_ i))) :
    MetFree l (⟨"com/example/cardwire/cardwire/core/ResponseApdu", "statusWord", "()I"⟩ : MethodName) (head1 (Jvm.Cond.code (⟨"com/example/cardwire/cardwire/core/ResponseApdu", "statusWord", "()I"⟩ : MethodName) prog_23_method_4_code 1 (some .int) :: ws) ({ frames := 0, cells := 0, slots := 0, locals := 0 } : Room)) (fun a U => a = #[(.ref p0)] ∧ Z.Warmed39 U.vm ∧ U.heap = h0) (fun _ _ _ _ _ => True) (fun _ U o U' => ∃ v L, o = .returned v ∧ Q_3t2 Z p0 w g_ h0 n0 v U'.heap L ∧ FrameEnd U o U' L ({ frames := 0, cells := 0, slots := 0, locals := 0 } : Room).cells ({ frames := 0, cells := 0, slots := 0, locals := 0 } : Room).slots) := by
  refine MetFree.of_bodySF (plainFor_of_name pn_3) hisR ?_
  intro p e s m args below meth c s₁ Bd hml0 hP hK
  obtain ⟨rfl, hZ, hh⟩ := hP
  have hx := Bd.exec
  have hby := Bd.bytes
  have hml : c.maxLocals = 1 := hml0
  have hown : s.vm.findClass "com/example/cardwire/cardwire/core/ResponseApdu" = some m.cls := findClass_of_methodNamed Bd.named
  have hnm := (name_of_methodNamed Bd.named Bd.method).1
  have X0 : Stand p l e ({ frames := 0, cells := 0, slots := 0, locals := 0 } : Room) s m #[(.ref p0)] below meth c s₁ [] 0 0 := Stand.of_body Bd
  have e0 : s₁.heap = h0 := by rw [← hh, Bd.state]; rfl
  have N0 := Fr.nil n0
  have K0 : Keep h0 h0 [] := Keep.refl h0 _
  have pre0 : ∀ t, Steps p.tables e below (s₁.setTop (mkF m 0 #[.val (.ref p0)] [])) t → Steps p.tables e below (s₁.setTop (entryFrame m #[(.ref p0)] 1)) t := fun t k => castTop (ef_3t2 m p0) k
  have pre1 : ∀ t, Steps p.tables e below (s₁.setTop (mkF m 1 #[.val (.ref p0)] [(.ref p0)])) t → Steps p.tables e below (s₁.setTop (entryFrame m #[(.ref p0)] 1)) t := by
    intro t k
    refine pre0 t ?_
    show Steps p.tables e below (s₁.setTop (mkF m 0 #[.val (.ref p0)] [])) _
    refine XS.aloadN X0.here hx rfl (hb hby d3_0) rfl rfl ?_
    exact k
  obtain ⟨T2, X2, e2, st2⟩ := getF X0 hx hZ hown (host := "") (Or.inl (hw _ (List.mem_of_getElem? (i := 19) rfl))) Via.refl e0 F_p0_bytes (g := (mkF m 1 #[.val (.ref p0)] [(.ref p0)])) rfl rfl (hb hby d3_1)
  have pre3 : ∀ t, Steps p.tables e below (T2.setTop (mkF m 5 #[.val (.ref p0)] [(.ref p0), (.ref w)])) t → Steps p.tables e below (s₁.setTop (entryFrame m #[(.ref p0)] 1)) t := by
    intro t k
    refine pre1 t ?_
    show Steps p.tables e below (s₁.setTop (mkF m 1 #[.val (.ref p0)] [(.ref p0)])) _
    refine st2 _ ?_
    show Steps p.tables e below (T2.setTop (mkF m 4 #[.val (.ref p0)] [(.ref w)])) _
    refine XS.aloadN X2.here hx rfl (hb hby d3_4) rfl rfl ?_
    exact k
  obtain ⟨T4, X4, e4, st4⟩ := getF X2 hx hZ hown (host := "") (Or.inl (hw _ (List.mem_of_getElem? (i := 19) rfl))) Via.refl e2 F_p0_bytes (g := (mkF m 5 #[.val (.ref p0)] [(.ref p0), (.ref w)])) rfl rfl (hb hby d3_5)
  have pre5 : ∀ t, Steps p.tables e below (T4.setTop (mkF m 20 #[.val (.ref p0)] [(.ref p0), (.int (((g_ 0) &&& (255 : Int32)) <<< ((8 : Int32) &&& 31)))])) t → Steps p.tables e below (s₁.setTop (entryFrame m #[(.ref p0)] 1)) t := by
    intro t k
    refine pre3 t ?_
    show Steps p.tables e below (T2.setTop (mkF m 5 #[.val (.ref p0)] [(.ref p0), (.ref w)])) _
    refine st4 _ ?_
    show Steps p.tables e below (T4.setTop (mkF m 8 #[.val (.ref p0)] [(.ref w), (.ref w)])) _
    refine own_len X4 hx hZ e4 A_w (z := (2 : Int32)) rfl (g := (mkF m 8 #[.val (.ref p0)] [(.ref w), (.ref w)])) rfl rfl (hb hby d3_8) ?_
    show Steps p.tables e below (T4.setTop (mkF m 9 #[.val (.ref p0)] [(.int (2 : Int32)), (.ref w)])) _
    refine XS.iconst X4.here hx rfl (hb hby d3_9) ?_
    show Steps p.tables e below (T4.setTop (mkF m 10 #[.val (.ref p0)] [(.int (2 : Int32)), (.int (2 : Int32)), (.ref w)])) _
    refine XS.isub X4.here hx rfl (hb hby d3_10) rfl ?_
    show Steps p.tables e below (T4.setTop (mkF m 11 #[.val (.ref p0)] [(.int ((2 : Int32) - (2 : Int32))), (.ref w)])) _
    refine own_ldB X4 hx hZ e4 A_w (j := ((2 : Int32) - (2 : Int32))) (k := 0) (by decide) (by decide) (by decide) (g := (mkF m 11 #[.val (.ref p0)] [(.int ((2 : Int32) - (2 : Int32))), (.ref w)])) rfl rfl (hb hby d3_11) ?_
    show Steps p.tables e below (T4.setTop (mkF m 12 #[.val (.ref p0)] [(.int (g_ 0))])) _
    refine XS.sipush X4.here hx rfl (hb hby d3_12) ?_
    show Steps p.tables e below (T4.setTop (mkF m 15 #[.val (.ref p0)] [(.int (255 : Int32)), (.int (g_ 0))])) _
    refine XS.iand X4.here hx rfl (hb hby d3_15) rfl ?_
    show Steps p.tables e below (T4.setTop (mkF m 16 #[.val (.ref p0)] [(.int ((g_ 0) &&& (255 : Int32)))])) _
    refine XS.bipush X4.here hx rfl (hb hby d3_16) ?_
    show Steps p.tables e below (T4.setTop (mkF m 18 #[.val (.ref p0)] [(.int (8 : Int32)), (.int ((g_ 0) &&& (255 : Int32)))])) _
    refine XS.ishl X4.here hx rfl (hb hby d3_18) rfl ?_
    show Steps p.tables e below (T4.setTop (mkF m 19 #[.val (.ref p0)] [(.int (((g_ 0) &&& (255 : Int32)) <<< ((8 : Int32) &&& 31)))])) _
    refine XS.aloadN X4.here hx rfl (hb hby d3_19) rfl rfl ?_
    exact k
  obtain ⟨T6, X6, e6, st6⟩ := getF X4 hx hZ hown (host := "") (Or.inl (hw _ (List.mem_of_getElem? (i := 19) rfl))) Via.refl e4 F_p0_bytes (g := (mkF m 20 #[.val (.ref p0)] [(.ref p0), (.int (((g_ 0) &&& (255 : Int32)) <<< ((8 : Int32) &&& 31)))])) rfl rfl (hb hby d3_20)
  have pre7 : ∀ t, Steps p.tables e below (T6.setTop (mkF m 24 #[.val (.ref p0)] [(.ref p0), (.ref w), (.int (((g_ 0) &&& (255 : Int32)) <<< ((8 : Int32) &&& 31)))])) t → Steps p.tables e below (s₁.setTop (entryFrame m #[(.ref p0)] 1)) t := by
    intro t k
    refine pre5 t ?_
    show Steps p.tables e below (T4.setTop (mkF m 20 #[.val (.ref p0)] [(.ref p0), (.int (((g_ 0) &&& (255 : Int32)) <<< ((8 : Int32) &&& 31)))])) _
    refine st6 _ ?_
    show Steps p.tables e below (T6.setTop (mkF m 23 #[.val (.ref p0)] [(.ref w), (.int (((g_ 0) &&& (255 : Int32)) <<< ((8 : Int32) &&& 31)))])) _
    refine XS.aloadN X6.here hx rfl (hb hby d3_23) rfl rfl ?_
    exact k
  obtain ⟨T8, X8, e8, st8⟩ := getF X6 hx hZ hown (host := "") (Or.inl (hw _ (List.mem_of_getElem? (i := 19) rfl))) Via.refl e6 F_p0_bytes (g := (mkF m 24 #[.val (.ref p0)] [(.ref p0), (.ref w), (.int (((g_ 0) &&& (255 : Int32)) <<< ((8 : Int32) &&& 31)))])) rfl rfl (hb hby d3_24)
  obtain ⟨fs, hr, hrun, hended, hW, hsame⟩ := X8.leave (v := some (.int ((((g_ 0) &&& (255 : Int32)) <<< ((8 : Int32) &&& 31)) ||| ((g_ 1) &&& (255 : Int32))))) (fun h => by rw [Bd.returns] at h; cases h)
  refine ⟨_, _, pre7 _ ?_, hrun, hended, _, _, rfl, ?_, ⟨_, rfl⟩, hW, hsame.mono (by decide) (by decide)⟩
  · show Steps p.tables e below (T6.setTop (mkF m 24 #[.val (.ref p0)] [(.ref p0), (.ref w), (.int (((g_ 0) &&& (255 : Int32)) <<< ((8 : Int32) &&& 31)))])) _
    refine st8 _ ?_
    show Steps p.tables e below (T8.setTop (mkF m 27 #[.val (.ref p0)] [(.ref w), (.ref w), (.int (((g_ 0) &&& (255 : Int32)) <<< ((8 : Int32) &&& 31)))])) _
    refine own_len X8 hx hZ e8 A_w (z := (2 : Int32)) rfl (g := (mkF m 27 #[.val (.ref p0)] [(.ref w), (.ref w), (.int (((g_ 0) &&& (255 : Int32)) <<< ((8 : Int32) &&& 31)))])) rfl rfl (hb hby d3_27) ?_
    show Steps p.tables e below (T8.setTop (mkF m 28 #[.val (.ref p0)] [(.int (2 : Int32)), (.ref w), (.int (((g_ 0) &&& (255 : Int32)) <<< ((8 : Int32) &&& 31)))])) _
    refine XS.iconst X8.here hx rfl (hb hby d3_28) ?_
    show Steps p.tables e below (T8.setTop (mkF m 29 #[.val (.ref p0)] [(.int (1 : Int32)), (.int (2 : Int32)), (.ref w), (.int (((g_ 0) &&& (255 : Int32)) <<< ((8 : Int32) &&& 31)))])) _
    refine XS.isub X8.here hx rfl (hb hby d3_29) rfl ?_
    show Steps p.tables e below (T8.setTop (mkF m 30 #[.val (.ref p0)] [(.int ((2 : Int32) - (1 : Int32))), (.ref w), (.int (((g_ 0) &&& (255 : Int32)) <<< ((8 : Int32) &&& 31)))])) _
    refine own_ldB X8 hx hZ e8 A_w (j := ((2 : Int32) - (1 : Int32))) (k := 1) (by decide) (by decide) (by decide) (g := (mkF m 30 #[.val (.ref p0)] [(.int ((2 : Int32) - (1 : Int32))), (.ref w), (.int (((g_ 0) &&& (255 : Int32)) <<< ((8 : Int32) &&& 31)))])) rfl rfl (hb hby d3_30) ?_
    show Steps p.tables e below (T8.setTop (mkF m 31 #[.val (.ref p0)] [(.int (g_ 1)), (.int (((g_ 0) &&& (255 : Int32)) <<< ((8 : Int32) &&& 31)))])) _
    refine XS.sipush X8.here hx rfl (hb hby d3_31) ?_
    show Steps p.tables e below (T8.setTop (mkF m 34 #[.val (.ref p0)] [(.int (255 : Int32)), (.int (g_ 1)), (.int (((g_ 0) &&& (255 : Int32)) <<< ((8 : Int32) &&& 31)))])) _
    refine XS.iand X8.here hx rfl (hb hby d3_34) rfl ?_
    show Steps p.tables e below (T8.setTop (mkF m 35 #[.val (.ref p0)] [(.int ((g_ 1) &&& (255 : Int32))), (.int (((g_ 0) &&& (255 : Int32)) <<< ((8 : Int32) &&& 31)))])) _
    refine XS.ior X8.here hx rfl (hb hby d3_35) rfl ?_
    show Steps p.tables e below (T8.setTop (mkF m 36 #[.val (.ref p0)] [(.int ((((g_ 0) &&& (255 : Int32)) <<< ((8 : Int32) &&& 31)) ||| ((g_ 1) &&& (255 : Int32))))])) _
    exact retI X8 hx Bd.returns (hb hby d3_36) hr
  · show Q_3t2 Z p0 w g_ h0 n0 _ T8.heap _
    rw [e8]
    exact ⟨congrArg (fun z => some (Value.int z)) (by rfl : ((((g_ 0) &&& (255 : Int32)) <<< ((8 : Int32) &&& 31)) ||| ((g_ 1) &&& (255 : Int32))) = f_3t2 g_), N0, rfl⟩
theorem ef_1t3 (m : MethodId) (p0 : Addr) (p1 : Addr) : entryFrame m #[(.ref p0), (.ref p1)] 2 = mkF m 0 #[.val (.ref p0), .val (.ref p1)] [] := by first | (simp [entryFrame, mkF, argsToLocals, Value.category]; done) | rfl
def Q_1t3 (Z : State) (p0 : Addr) (p1 : Addr) (g_ : Nat → Int32) (h0 : Heap) (n0 : Nat) (v : Option Value) (h : Heap) (L : List Loc) : Prop := ∃ w : Addr, v = none ∧ Fr n0 L ∧ h0.size ≤ w ∧ Keep h0 h [p0] ∧ Exa Z h p0 "com/example/cardwire/cardwire/core/ResponseApdu" ∧ Fld Z h p0 "com/example/cardwire/cardwire/core/ResponseApdu" "bytes" "[B" (.ref w) ∧ own_A Z h w .byte 3 (fun i => .int (g_ i))
set_option maxRecDepth 65536 in
set_option maxHeartbeats 40000000 in
theorem rm_1t3 (l : Launch) (Z : State) (a0 : Array Value) (hw : ∀ d ∈ tables_1, d.before a0 Z = true) (ws : List Jvm.Cond) (p0 : Addr) (p1 : Addr) (g_ : Nat → Int32) (h0 : Heap) (n0 : Nat) (Z0 : n0 ≤ h0.size) (E_p0 : Exa Z h0 p0 "com/example/cardwire/cardwire/core/ResponseApdu") (F_p0_bytes : Fld Z h0 p0 "com/example/cardwire/cardwire/core/ResponseApdu" "bytes" "[B" .null) (ge_p0 : n0 ≤ p0) (A_p1 : own_A Z h0 p1 .byte 3 (fun i => .int (g_ i))) (E_p1 : Exa Z h0 p1 "[B") (ne_p0_p1 : p0 ≠ p1) :
    MetFree l (⟨"com/example/cardwire/cardwire/core/ResponseApdu", "<init>", "([B)V"⟩ : MethodName) (head1 (Jvm.Cond.code (⟨"com/example/cardwire/cardwire/core/ResponseApdu", "<init>", "([B)V"⟩ : MethodName) prog_23_method_1_code 2 none :: ws) ({ frames := 1, cells := 1, slots := 3, locals := 15 } : Room)) (fun a U => a = #[(.ref p0), (.ref p1)] ∧ Z.Warmed39 U.vm ∧ U.heap = h0) (fun _ _ _ _ _ => True) (fun _ U o U' => ∃ v L, o = .returned v ∧ Q_1t3 Z p0 p1 g_ h0 n0 v U'.heap L ∧ FrameEnd U o U' L ({ frames := 1, cells := 1, slots := 3, locals := 15 } : Room).cells ({ frames := 1, cells := 1, slots := 3, locals := 15 } : Room).slots) := by
  refine MetFree.of_bodySF (plainFor_of_name pn_1) hisR ?_
  intro p e s m args below meth c s₁ Bd hml0 hP hK
  obtain ⟨rfl, hZ, hh⟩ := hP
  have hx := Bd.exec
  have hby := Bd.bytes
  have hml : c.maxLocals = 2 := hml0
  have hown : s.vm.findClass "com/example/cardwire/cardwire/core/ResponseApdu" = some m.cls := findClass_of_methodNamed Bd.named
  have hnm := (name_of_methodNamed Bd.named Bd.method).1
  have X0 : Stand p l e ({ frames := 1, cells := 1, slots := 3, locals := 15 } : Room) s m #[(.ref p0), (.ref p1)] below meth c s₁ [] 0 0 := Stand.of_body Bd
  have e0 : s₁.heap = h0 := by rw [← hh, Bd.state]; rfl
  have N0 := Fr.nil n0
  have K0 : Keep h0 h0 [p0] := Keep.refl h0 _
  have pre0 : ∀ t, Steps p.tables e below (s₁.setTop (mkF m 0 #[.val (.ref p0), .val (.ref p1)] [])) t → Steps p.tables e below (s₁.setTop (entryFrame m #[(.ref p0), (.ref p1)] 2)) t := fun t k => castTop (ef_1t3 m p0 p1) k
  have pre1 : ∀ t, Steps p.tables e below (s₁.setTop (mkF m 1 #[.val (.ref p0), .val (.ref p1)] [(.ref p0)])) t → Steps p.tables e below (s₁.setTop (entryFrame m #[(.ref p0), (.ref p1)] 2)) t := by
    intro t k
    refine pre0 t ?_
    show Steps p.tables e below (s₁.setTop (mkF m 0 #[.val (.ref p0), .val (.ref p1)] [])) _
    refine XS.aloadN X0.here hx rfl (hb hby d1_0) rfl rfl ?_
    exact k
  obtain ⟨T2, X2, e2, st2⟩ := initO X0 hx hZ hown (hw _ (List.mem_of_getElem? (i := 7) rfl)) (hw _ (List.mem_of_getElem? (i := 8) rfl)) (hw _ (List.mem_of_getElem? (i := 9) rfl)) e0 (g := (mkF m 1 #[.val (.ref p0), .val (.ref p1)] [(.ref p0)])) rfl (by rw [hml]; rfl) rfl (hb hby d1_1) (by decide) (W := 0) (by show 2 * 0 + _ ≤ _; exact Nat.le_of_eq rfl) (by decide)
  have pre3 : ∀ t, Steps p.tables e below (T2.setTop (mkF m 22 #[.val (.ref p0), .val (.ref p1)] [(.ref p1), (.ref p0)])) t → Steps p.tables e below (s₁.setTop (entryFrame m #[(.ref p0), (.ref p1)] 2)) t := by
    intro t k
    refine pre1 t ?_
    show Steps p.tables e below (s₁.setTop (mkF m 1 #[.val (.ref p0), .val (.ref p1)] [(.ref p0)])) _
    refine st2 _ ?_
    show Steps p.tables e below (T2.setTop (mkF m 4 #[.val (.ref p0), .val (.ref p1)] [])) _
    refine XS.aloadN X2.here hx rfl (hb hby d1_4) rfl rfl ?_
    show Steps p.tables e below (T2.setTop (mkF m 5 #[.val (.ref p0), .val (.ref p1)] [(.ref p1)])) _
    refine own_len X2 hx hZ e2 A_p1 (z := (3 : Int32)) rfl (g := (mkF m 5 #[.val (.ref p0), .val (.ref p1)] [(.ref p1)])) rfl rfl (hb hby d1_5) ?_
    show Steps p.tables e below (T2.setTop (mkF m 6 #[.val (.ref p0), .val (.ref p1)] [(.int (3 : Int32))])) _
    refine XS.iconst X2.here hx rfl (hb hby d1_6) ?_
    show Steps p.tables e below (T2.setTop (mkF m 7 #[.val (.ref p0), .val (.ref p1)] [(.int (2 : Int32)), (.int (3 : Int32))])) _
    refine XS.icmpYes X2.here hx rfl (pc0 := 7) (pc' := 20) rfl (hb hby d1_7) rfl (flt (by decide : ¬ ((3 : Int32) < (2 : Int32)))).2.1 (by decide) (by decide) ?_
    show Steps p.tables e below (T2.setTop (mkF m 20 #[.val (.ref p0), .val (.ref p1)] [])) _
    refine XS.aloadN X2.here hx rfl (hb hby d1_20) rfl rfl ?_
    show Steps p.tables e below (T2.setTop (mkF m 21 #[.val (.ref p0), .val (.ref p1)] [(.ref p0)])) _
    refine XS.aloadN X2.here hx rfl (hb hby d1_21) rfl rfl ?_
    exact k
  obtain ⟨T4, h4, b4, gb4, X4, e4, E4, A4, B4, st4⟩ := own_clone X2 hx hZ hown (hw _ (List.mem_of_getElem? (i := 10) rfl)) (hw _ (List.mem_of_getElem? (i := 11) rfl)) (hw _ (List.mem_of_getElem? (i := 15) rfl)) (hw _ (List.mem_of_getElem? (i := 13) rfl)) (hw _ (List.mem_of_getElem? (i := 14) rfl)) (hw _ (List.mem_of_getElem? (i := 16) rfl)) e2 A_p1 E_p1 (g := (mkF m 22 #[.val (.ref p0), .val (.ref p1)] [(.ref p1), (.ref p0)])) rfl (by rw [hml]; rfl) rfl (hb hby d1_22) (by decide) (W := 1) (by show 2 * 0 + _ ≤ _; exact Nat.le_of_eq rfl) (by decide) (cap := 3) (by decide) (by decide) (by decide)
  have ne_p0_b4 : p0 ≠ b4 := Nat.ne_of_lt (Nat.lt_of_lt_of_le E_p0.lt (Nat.le_of_eq gb4.symm))
  have ne_p1_b4 : p1 ≠ b4 := Nat.ne_of_lt (Nat.lt_of_lt_of_le A_p1.lt (Nat.le_of_eq gb4.symm))
  have sz_b4 : h0.size ≤ b4 := Nat.le_trans K0.1 (Nat.le_of_eq gb4.symm)
  have ge_b4 : n0 ≤ b4 := Nat.le_trans Z0 (Nat.le_of_eq gb4.symm)
  have exa_p0_4 := E_p0.ext E4
  have fld_p0_bytes_4 := F_p0_bytes.ext E4
  have arr_p1_4 := A_p1.ext E4
  have exa_p1_4 := E_p1.ext E4
  have K4 := K0.ext E4
  have Z4 := Nat.le_trans Z0 E4.1
  have pre5 : ∀ t, Steps p.tables e below (T4.setTop (mkF m 25 #[.val (.ref p0), .val (.ref p1)] [(.ref b4), (.ref p0)])) t → Steps p.tables e below (s₁.setTop (entryFrame m #[(.ref p0), (.ref p1)] 2)) t := by
    intro t k
    refine pre3 t ?_
    show Steps p.tables e below (T2.setTop (mkF m 22 #[.val (.ref p0), .val (.ref p1)] [(.ref p1), (.ref p0)])) _
    refine st4 _ ?_
    exact k
  obtain ⟨T6, X6, e6, st6⟩ := castY X4 hx hZ hown (hw _ (List.mem_of_getElem? (i := 17) rfl)) e4 (Ins.self B4) (g := (mkF m 25 #[.val (.ref p0), .val (.ref p1)] [(.ref b4), (.ref p0)])) rfl rfl (hb hby d1_25)
  have pre7 : ∀ t, Steps p.tables e below (T6.setTop (mkF m 28 #[.val (.ref p0), .val (.ref p1)] [(.ref b4), (.ref p0)])) t → Steps p.tables e below (s₁.setTop (entryFrame m #[(.ref p0), (.ref p1)] 2)) t := by
    intro t k
    refine pre5 t ?_
    show Steps p.tables e below (T4.setTop (mkF m 25 #[.val (.ref p0), .val (.ref p1)] [(.ref b4), (.ref p0)])) _
    refine st6 _ ?_
    exact k
  obtain ⟨T8, h8, X8, e8, W8, st8⟩ := putF X6 hx hZ hown (host := "") (Or.inl (hw _ (List.mem_of_getElem? (i := 19) rfl))) Via.refl e6 fld_p0_bytes_4 exa_p0_4 (Or.inr ⟨(hw _ (List.mem_of_getElem? (i := 20) rfl)), rfl, hnm⟩) (hw _ (List.mem_of_getElem? (i := 2) rfl)) (ty := (.array .byte)) (by decide) rfl rfl (g := (mkF m 28 #[.val (.ref p0), .val (.ref p1)] [(.ref b4), (.ref p0)])) rfl rfl (hb hby d1_28)
  have Fw8 := fld_p0_bytes_4.same W8
  have exa_p0_8 := exa_p0_4.wr W8
  have arr_p1_8 := arr_p1_4.other W8 ne_p0_p1.symm
  have exa_p1_8 := exa_p1_4.wr W8
  have arr_b4_8 := A4.other W8 ne_p0_b4.symm
  have exa_b4_8 := B4.wr W8
  have K8 := K4.wr W8 (Or.inl (List.mem_of_getElem? (i := 0) rfl))
  have Z8 := Nat.le_trans Z4 (Nat.le_of_eq W8.size.symm)
  have N8 := Fr.snoc X8 N0 ge_p0
  obtain ⟨fs, hr, hrun, hended, hW, hsame⟩ := X8.leave (v := none) (fun _ => rfl)
  refine ⟨_, _, pre7 _ ?_, hrun, hended, _, _, rfl, ?_, ⟨_, rfl⟩, hW, hsame.mono (by decide) (by decide)⟩
  · show Steps p.tables e below (T6.setTop (mkF m 28 #[.val (.ref p0), .val (.ref p1)] [(.ref b4), (.ref p0)])) _
    refine st8 _ ?_
    show Steps p.tables e below (T8.setTop (mkF m 31 #[.val (.ref p0), .val (.ref p1)] [])) _
    exact X8.returnOut hx Bd.returns (hb hby d1_31) hr
  · show Q_1t3 Z p0 p1 g_ h0 n0 _ T8.heap _
    rw [e8]
    exact ⟨b4, rfl, N8, sz_b4, K8, exa_p0_8, Fw8, arr_b4_8⟩
theorem ef_3t3 (m : MethodId) (p0 : Addr) : entryFrame m #[(.ref p0)] 1 = mkF m 0 #[.val (.ref p0)] [] := by first | (simp [entryFrame, mkF, argsToLocals, Value.category]; done) | rfl
def f_3t3 (g_ : Nat → Int32) : Int32 := ((((g_ 1) &&& (255 : Int32)) <<< ((8 : Int32) &&& 31)) ||| ((g_ 2) &&& (255 : Int32)))
def Q_3t3 (Z : State) (p0 : Addr) (w : Addr) (g_ : Nat → Int32) (h0 : Heap) (n0 : Nat) (v : Option Value) (h : Heap) (L : List Loc) : Prop := v = some (.int (f_3t3 g_)) ∧ Fr n0 L ∧ h = h0
set_option maxRecDepth 65536 in
set_option maxHeartbeats 40000000 in
theorem rm_3t3 (l : Launch) (Z : State) (a0 : Array Value) (hw : ∀ d ∈ tables_1, d.before a0 Z = true) (ws : List Jvm.Cond) (p0 : Addr) (w : Addr) (g_ : Nat → Int32) (h0 : Heap) (n0 : Nat) (Z0 : n0 ≤ h0.size) (F_p0_bytes : Fld Z h0 p0 "com/example/cardwire/cardwire/core/ResponseApdu" "bytes" "[B" (.ref w)) (A_w : own_A Z h0 w .byte 3 (fun i => .int (g_ i))) :
    MetFree l (⟨"com/example/cardwire/cardwire/core/ResponseApdu", "statusWord", "()I"⟩ : MethodName) (head1 (Jvm.Cond.code (⟨"com/example/cardwire/cardwire/core/ResponseApdu", "statusWord", "()I"⟩ : MethodName) prog_23_method_4_code 1 (some .int) :: ws) ({ frames := 0, cells := 0, slots := 0, locals := 0 } : Room)) (fun a U => a = #[(.ref p0)] ∧ Z.Warmed39 U.vm ∧ U.heap = h0) (fun _ _ _ _ _ => True) (fun _ U o U' => ∃ v L, o = .returned v ∧ Q_3t3 Z p0 w g_ h0 n0 v U'.heap L ∧ FrameEnd U o U' L ({ frames := 0, cells := 0, slots := 0, locals := 0 } : Room).cells ({ frames := 0, cells := 0, slots := 0, locals := 0 } : Room).slots) := by
  refine MetFree.of_bodySF (plainFor_of_name pn_3) hisR ?_
  intro p e s m args below meth c s₁ Bd hml0 hP hK
  obtain ⟨rfl, hZ, hh⟩ := hP
  have hx := Bd.exec
  have hby := Bd.bytes
  have hml : c.maxLocals = 1 := hml0
  have hown : s.vm.findClass "com/example/cardwire/cardwire/core/ResponseApdu" = some m.cls := findClass_of_methodNamed Bd.named
  have hnm := (name_of_methodNamed Bd.named Bd.method).1
  have X0 : Stand p l e ({ frames := 0, cells := 0, slots := 0, locals := 0 } : Room) s m #[(.ref p0)] below meth c s₁ [] 0 0 := Stand.of_body Bd
  have e0 : s₁.heap = h0 := by rw [← hh, Bd.state]; rfl
  have N0 := Fr.nil n0
  have K0 : Keep h0 h0 [] := Keep.refl h0 _
  have pre0 : ∀ t, Steps p.tables e below (s₁.setTop (mkF m 0 #[.val (.ref p0)] [])) t → Steps p.tables e below (s₁.setTop (entryFrame m #[(.ref p0)] 1)) t := fun t k => castTop (ef_3t3 m p0) k
  have pre1 : ∀ t, Steps p.tables e below (s₁.setTop (mkF m 1 #[.val (.ref p0)] [(.ref p0)])) t → Steps p.tables e below (s₁.setTop (entryFrame m #[(.ref p0)] 1)) t := by
    intro t k
    refine pre0 t ?_
    show Steps p.tables e below (s₁.setTop (mkF m 0 #[.val (.ref p0)] [])) _
    refine XS.aloadN X0.here hx rfl (hb hby d3_0) rfl rfl ?_
    exact k
  obtain ⟨T2, X2, e2, st2⟩ := getF X0 hx hZ hown (host := "") (Or.inl (hw _ (List.mem_of_getElem? (i := 19) rfl))) Via.refl e0 F_p0_bytes (g := (mkF m 1 #[.val (.ref p0)] [(.ref p0)])) rfl rfl (hb hby d3_1)
  have pre3 : ∀ t, Steps p.tables e below (T2.setTop (mkF m 5 #[.val (.ref p0)] [(.ref p0), (.ref w)])) t → Steps p.tables e below (s₁.setTop (entryFrame m #[(.ref p0)] 1)) t := by
    intro t k
    refine pre1 t ?_
    show Steps p.tables e below (s₁.setTop (mkF m 1 #[.val (.ref p0)] [(.ref p0)])) _
    refine st2 _ ?_
    show Steps p.tables e below (T2.setTop (mkF m 4 #[.val (.ref p0)] [(.ref w)])) _
    refine XS.aloadN X2.here hx rfl (hb hby d3_4) rfl rfl ?_
    exact k
  obtain ⟨T4, X4, e4, st4⟩ := getF X2 hx hZ hown (host := "") (Or.inl (hw _ (List.mem_of_getElem? (i := 19) rfl))) Via.refl e2 F_p0_bytes (g := (mkF m 5 #[.val (.ref p0)] [(.ref p0), (.ref w)])) rfl rfl (hb hby d3_5)
  have pre5 : ∀ t, Steps p.tables e below (T4.setTop (mkF m 20 #[.val (.ref p0)] [(.ref p0), (.int (((g_ 1) &&& (255 : Int32)) <<< ((8 : Int32) &&& 31)))])) t → Steps p.tables e below (s₁.setTop (entryFrame m #[(.ref p0)] 1)) t := by
    intro t k
    refine pre3 t ?_
    show Steps p.tables e below (T2.setTop (mkF m 5 #[.val (.ref p0)] [(.ref p0), (.ref w)])) _
    refine st4 _ ?_
    show Steps p.tables e below (T4.setTop (mkF m 8 #[.val (.ref p0)] [(.ref w), (.ref w)])) _
    refine own_len X4 hx hZ e4 A_w (z := (3 : Int32)) rfl (g := (mkF m 8 #[.val (.ref p0)] [(.ref w), (.ref w)])) rfl rfl (hb hby d3_8) ?_
    show Steps p.tables e below (T4.setTop (mkF m 9 #[.val (.ref p0)] [(.int (3 : Int32)), (.ref w)])) _
    refine XS.iconst X4.here hx rfl (hb hby d3_9) ?_
    show Steps p.tables e below (T4.setTop (mkF m 10 #[.val (.ref p0)] [(.int (2 : Int32)), (.int (3 : Int32)), (.ref w)])) _
    refine XS.isub X4.here hx rfl (hb hby d3_10) rfl ?_
    show Steps p.tables e below (T4.setTop (mkF m 11 #[.val (.ref p0)] [(.int ((3 : Int32) - (2 : Int32))), (.ref w)])) _
    refine own_ldB X4 hx hZ e4 A_w (j := ((3 : Int32) - (2 : Int32))) (k := 1) (by decide) (by decide) (by decide) (g := (mkF m 11 #[.val (.ref p0)] [(.int ((3 : Int32) - (2 : Int32))), (.ref w)])) rfl rfl (hb hby d3_11) ?_
    show Steps p.tables e below (T4.setTop (mkF m 12 #[.val (.ref p0)] [(.int (g_ 1))])) _
    refine XS.sipush X4.here hx rfl (hb hby d3_12) ?_
    show Steps p.tables e below (T4.setTop (mkF m 15 #[.val (.ref p0)] [(.int (255 : Int32)), (.int (g_ 1))])) _
    refine XS.iand X4.here hx rfl (hb hby d3_15) rfl ?_
    show Steps p.tables e below (T4.setTop (mkF m 16 #[.val (.ref p0)] [(.int ((g_ 1) &&& (255 : Int32)))])) _
    refine XS.bipush X4.here hx rfl (hb hby d3_16) ?_
    show Steps p.tables e below (T4.setTop (mkF m 18 #[.val (.ref p0)] [(.int (8 : Int32)), (.int ((g_ 1) &&& (255 : Int32)))])) _
    refine XS.ishl X4.here hx rfl (hb hby d3_18) rfl ?_
    show Steps p.tables e below (T4.setTop (mkF m 19 #[.val (.ref p0)] [(.int (((g_ 1) &&& (255 : Int32)) <<< ((8 : Int32) &&& 31)))])) _
    refine XS.aloadN X4.here hx rfl (hb hby d3_19) rfl rfl ?_
    exact k
  obtain ⟨T6, X6, e6, st6⟩ := getF X4 hx hZ hown (host := "") (Or.inl (hw _ (List.mem_of_getElem? (i := 19) rfl))) Via.refl e4 F_p0_bytes (g := (mkF m 20 #[.val (.ref p0)] [(.ref p0), (.int (((g_ 1) &&& (255 : Int32)) <<< ((8 : Int32) &&& 31)))])) rfl rfl (hb hby d3_20)
  have pre7 : ∀ t, Steps p.tables e below (T6.setTop (mkF m 24 #[.val (.ref p0)] [(.ref p0), (.ref w), (.int (((g_ 1) &&& (255 : Int32)) <<< ((8 : Int32) &&& 31)))])) t → Steps p.tables e below (s₁.setTop (entryFrame m #[(.ref p0)] 1)) t := by
    intro t k
    refine pre5 t ?_
    show Steps p.tables e below (T4.setTop (mkF m 20 #[.val (.ref p0)] [(.ref p0), (.int (((g_ 1) &&& (255 : Int32)) <<< ((8 : Int32) &&& 31)))])) _
    refine st6 _ ?_
    show Steps p.tables e below (T6.setTop (mkF m 23 #[.val (.ref p0)] [(.ref w), (.int (((g_ 1) &&& (255 : Int32)) <<< ((8 : Int32) &&& 31)))])) _
    refine XS.aloadN X6.here hx rfl (hb hby d3_23) rfl rfl ?_
    exact k
  obtain ⟨T8, X8, e8, st8⟩ := getF X6 hx hZ hown (host := "") (Or.inl (hw _ (List.mem_of_getElem? (i := 19) rfl))) Via.refl e6 F_p0_bytes (g := (mkF m 24 #[.val (.ref p0)] [(.ref p0), (.ref w), (.int (((g_ 1) &&& (255 : Int32)) <<< ((8 : Int32) &&& 31)))])) rfl rfl (hb hby d3_24)
  obtain ⟨fs, hr, hrun, hended, hW, hsame⟩ := X8.leave (v := some (.int ((((g_ 1) &&& (255 : Int32)) <<< ((8 : Int32) &&& 31)) ||| ((g_ 2) &&& (255 : Int32))))) (fun h => by rw [Bd.returns] at h; cases h)
  refine ⟨_, _, pre7 _ ?_, hrun, hended, _, _, rfl, ?_, ⟨_, rfl⟩, hW, hsame.mono (by decide) (by decide)⟩
  · show Steps p.tables e below (T6.setTop (mkF m 24 #[.val (.ref p0)] [(.ref p0), (.ref w), (.int (((g_ 1) &&& (255 : Int32)) <<< ((8 : Int32) &&& 31)))])) _
    refine st8 _ ?_
    show Steps p.tables e below (T8.setTop (mkF m 27 #[.val (.ref p0)] [(.ref w), (.ref w), (.int (((g_ 1) &&& (255 : Int32)) <<< ((8 : Int32) &&& 31)))])) _
    refine own_len X8 hx hZ e8 A_w (z := (3 : Int32)) rfl (g := (mkF m 27 #[.val (.ref p0)] [(.ref w), (.ref w), (.int (((g_ 1) &&& (255 : Int32)) <<< ((8 : Int32) &&& 31)))])) rfl rfl (hb hby d3_27) ?_
    show Steps p.tables e below (T8.setTop (mkF m 28 #[.val (.ref p0)] [(.int (3 : Int32)), (.ref w), (.int (((g_ 1) &&& (255 : Int32)) <<< ((8 : Int32) &&& 31)))])) _
    refine XS.iconst X8.here hx rfl (hb hby d3_28) ?_
    show Steps p.tables e below (T8.setTop (mkF m 29 #[.val (.ref p0)] [(.int (1 : Int32)), (.int (3 : Int32)), (.ref w), (.int (((g_ 1) &&& (255 : Int32)) <<< ((8 : Int32) &&& 31)))])) _
    refine XS.isub X8.here hx rfl (hb hby d3_29) rfl ?_
    show Steps p.tables e below (T8.setTop (mkF m 30 #[.val (.ref p0)] [(.int ((3 : Int32) - (1 : Int32))), (.ref w), (.int (((g_ 1) &&& (255 : Int32)) <<< ((8 : Int32) &&& 31)))])) _
    refine own_ldB X8 hx hZ e8 A_w (j := ((3 : Int32) - (1 : Int32))) (k := 2) (by decide) (by decide) (by decide) (g := (mkF m 30 #[.val (.ref p0)] [(.int ((3 : Int32) - (1 : Int32))), (.ref w), (.int (((g_ 1) &&& (255 : Int32)) <<< ((8 : Int32) &&& 31)))])) rfl rfl (hb hby d3_30) ?_
    show Steps p.tables e below (T8.setTop (mkF m 31 #[.val (.ref p0)] [(.int (g_ 2)), (.int (((g_ 1) &&& (255 : Int32)) <<< ((8 : Int32) &&& 31)))])) _
    refine XS.sipush X8.here hx rfl (hb hby d3_31) ?_
    show Steps p.tables e below (T8.setTop (mkF m 34 #[.val (.ref p0)] [(.int (255 : Int32)), (.int (g_ 2)), (.int (((g_ 1) &&& (255 : Int32)) <<< ((8 : Int32) &&& 31)))])) _
    refine XS.iand X8.here hx rfl (hb hby d3_34) rfl ?_
    show Steps p.tables e below (T8.setTop (mkF m 35 #[.val (.ref p0)] [(.int ((g_ 2) &&& (255 : Int32))), (.int (((g_ 1) &&& (255 : Int32)) <<< ((8 : Int32) &&& 31)))])) _
    refine XS.ior X8.here hx rfl (hb hby d3_35) rfl ?_
    show Steps p.tables e below (T8.setTop (mkF m 36 #[.val (.ref p0)] [(.int ((((g_ 1) &&& (255 : Int32)) <<< ((8 : Int32) &&& 31)) ||| ((g_ 2) &&& (255 : Int32))))])) _
    exact retI X8 hx Bd.returns (hb hby d3_36) hr
  · show Q_3t3 Z p0 w g_ h0 n0 _ T8.heap _
    rw [e8]
    exact ⟨congrArg (fun z => some (Value.int z)) (by rfl : ((((g_ 1) &&& (255 : Int32)) <<< ((8 : Int32) &&& 31)) ||| ((g_ 2) &&& (255 : Int32))) = f_3t3 g_), N0, rfl⟩
theorem ef_1t4 (m : MethodId) (p0 : Addr) (p1 : Addr) : entryFrame m #[(.ref p0), (.ref p1)] 2 = mkF m 0 #[.val (.ref p0), .val (.ref p1)] [] := by first | (simp [entryFrame, mkF, argsToLocals, Value.category]; done) | rfl
def Q_1t4 (Z : State) (p0 : Addr) (p1 : Addr) (g_ : Nat → Int32) (h0 : Heap) (n0 : Nat) (v : Option Value) (h : Heap) (L : List Loc) : Prop := ∃ w : Addr, v = none ∧ Fr n0 L ∧ h0.size ≤ w ∧ Keep h0 h [p0] ∧ Exa Z h p0 "com/example/cardwire/cardwire/core/ResponseApdu" ∧ Fld Z h p0 "com/example/cardwire/cardwire/core/ResponseApdu" "bytes" "[B" (.ref w) ∧ own_A Z h w .byte 4 (fun i => .int (g_ i))
set_option maxRecDepth 65536 in
set_option maxHeartbeats 40000000 in
theorem rm_1t4 (l : Launch) (Z : State) (a0 : Array Value) (hw : ∀ d ∈ tables_1, d.before a0 Z = true) (ws : List Jvm.Cond) (p0 : Addr) (p1 : Addr) (g_ : Nat → Int32) (h0 : Heap) (n0 : Nat) (Z0 : n0 ≤ h0.size) (E_p0 : Exa Z h0 p0 "com/example/cardwire/cardwire/core/ResponseApdu") (F_p0_bytes : Fld Z h0 p0 "com/example/cardwire/cardwire/core/ResponseApdu" "bytes" "[B" .null) (ge_p0 : n0 ≤ p0) (A_p1 : own_A Z h0 p1 .byte 4 (fun i => .int (g_ i))) (E_p1 : Exa Z h0 p1 "[B") (ne_p0_p1 : p0 ≠ p1) :
    MetFree l (⟨"com/example/cardwire/cardwire/core/ResponseApdu", "<init>", "([B)V"⟩ : MethodName) (head1 (Jvm.Cond.code (⟨"com/example/cardwire/cardwire/core/ResponseApdu", "<init>", "([B)V"⟩ : MethodName) prog_23_method_1_code 2 none :: ws) ({ frames := 1, cells := 1, slots := 4, locals := 15 } : Room)) (fun a U => a = #[(.ref p0), (.ref p1)] ∧ Z.Warmed39 U.vm ∧ U.heap = h0) (fun _ _ _ _ _ => True) (fun _ U o U' => ∃ v L, o = .returned v ∧ Q_1t4 Z p0 p1 g_ h0 n0 v U'.heap L ∧ FrameEnd U o U' L ({ frames := 1, cells := 1, slots := 4, locals := 15 } : Room).cells ({ frames := 1, cells := 1, slots := 4, locals := 15 } : Room).slots) := by
  refine MetFree.of_bodySF (plainFor_of_name pn_1) hisR ?_
  intro p e s m args below meth c s₁ Bd hml0 hP hK
  obtain ⟨rfl, hZ, hh⟩ := hP
  have hx := Bd.exec
  have hby := Bd.bytes
  have hml : c.maxLocals = 2 := hml0
  have hown : s.vm.findClass "com/example/cardwire/cardwire/core/ResponseApdu" = some m.cls := findClass_of_methodNamed Bd.named
  have hnm := (name_of_methodNamed Bd.named Bd.method).1
  have X0 : Stand p l e ({ frames := 1, cells := 1, slots := 4, locals := 15 } : Room) s m #[(.ref p0), (.ref p1)] below meth c s₁ [] 0 0 := Stand.of_body Bd
  have e0 : s₁.heap = h0 := by rw [← hh, Bd.state]; rfl
  have N0 := Fr.nil n0
  have K0 : Keep h0 h0 [p0] := Keep.refl h0 _
  have pre0 : ∀ t, Steps p.tables e below (s₁.setTop (mkF m 0 #[.val (.ref p0), .val (.ref p1)] [])) t → Steps p.tables e below (s₁.setTop (entryFrame m #[(.ref p0), (.ref p1)] 2)) t := fun t k => castTop (ef_1t4 m p0 p1) k
  have pre1 : ∀ t, Steps p.tables e below (s₁.setTop (mkF m 1 #[.val (.ref p0), .val (.ref p1)] [(.ref p0)])) t → Steps p.tables e below (s₁.setTop (entryFrame m #[(.ref p0), (.ref p1)] 2)) t := by
    intro t k
    refine pre0 t ?_
    show Steps p.tables e below (s₁.setTop (mkF m 0 #[.val (.ref p0), .val (.ref p1)] [])) _
    refine XS.aloadN X0.here hx rfl (hb hby d1_0) rfl rfl ?_
    exact k
  obtain ⟨T2, X2, e2, st2⟩ := initO X0 hx hZ hown (hw _ (List.mem_of_getElem? (i := 7) rfl)) (hw _ (List.mem_of_getElem? (i := 8) rfl)) (hw _ (List.mem_of_getElem? (i := 9) rfl)) e0 (g := (mkF m 1 #[.val (.ref p0), .val (.ref p1)] [(.ref p0)])) rfl (by rw [hml]; rfl) rfl (hb hby d1_1) (by decide) (W := 0) (by show 2 * 0 + _ ≤ _; exact Nat.le_of_eq rfl) (by decide)
  have pre3 : ∀ t, Steps p.tables e below (T2.setTop (mkF m 22 #[.val (.ref p0), .val (.ref p1)] [(.ref p1), (.ref p0)])) t → Steps p.tables e below (s₁.setTop (entryFrame m #[(.ref p0), (.ref p1)] 2)) t := by
    intro t k
    refine pre1 t ?_
    show Steps p.tables e below (s₁.setTop (mkF m 1 #[.val (.ref p0), .val (.ref p1)] [(.ref p0)])) _
    refine st2 _ ?_
    show Steps p.tables e below (T2.setTop (mkF m 4 #[.val (.ref p0), .val (.ref p1)] [])) _
    refine XS.aloadN X2.here hx rfl (hb hby d1_4) rfl rfl ?_
    show Steps p.tables e below (T2.setTop (mkF m 5 #[.val (.ref p0), .val (.ref p1)] [(.ref p1)])) _
    refine own_len X2 hx hZ e2 A_p1 (z := (4 : Int32)) rfl (g := (mkF m 5 #[.val (.ref p0), .val (.ref p1)] [(.ref p1)])) rfl rfl (hb hby d1_5) ?_
    show Steps p.tables e below (T2.setTop (mkF m 6 #[.val (.ref p0), .val (.ref p1)] [(.int (4 : Int32))])) _
    refine XS.iconst X2.here hx rfl (hb hby d1_6) ?_
    show Steps p.tables e below (T2.setTop (mkF m 7 #[.val (.ref p0), .val (.ref p1)] [(.int (2 : Int32)), (.int (4 : Int32))])) _
    refine XS.icmpYes X2.here hx rfl (pc0 := 7) (pc' := 20) rfl (hb hby d1_7) rfl (flt (by decide : ¬ ((4 : Int32) < (2 : Int32)))).2.1 (by decide) (by decide) ?_
    show Steps p.tables e below (T2.setTop (mkF m 20 #[.val (.ref p0), .val (.ref p1)] [])) _
    refine XS.aloadN X2.here hx rfl (hb hby d1_20) rfl rfl ?_
    show Steps p.tables e below (T2.setTop (mkF m 21 #[.val (.ref p0), .val (.ref p1)] [(.ref p0)])) _
    refine XS.aloadN X2.here hx rfl (hb hby d1_21) rfl rfl ?_
    exact k
  obtain ⟨T4, h4, b4, gb4, X4, e4, E4, A4, B4, st4⟩ := own_clone X2 hx hZ hown (hw _ (List.mem_of_getElem? (i := 10) rfl)) (hw _ (List.mem_of_getElem? (i := 11) rfl)) (hw _ (List.mem_of_getElem? (i := 15) rfl)) (hw _ (List.mem_of_getElem? (i := 13) rfl)) (hw _ (List.mem_of_getElem? (i := 14) rfl)) (hw _ (List.mem_of_getElem? (i := 16) rfl)) e2 A_p1 E_p1 (g := (mkF m 22 #[.val (.ref p0), .val (.ref p1)] [(.ref p1), (.ref p0)])) rfl (by rw [hml]; rfl) rfl (hb hby d1_22) (by decide) (W := 1) (by show 2 * 0 + _ ≤ _; exact Nat.le_of_eq rfl) (by decide) (cap := 4) (by decide) (by decide) (by decide)
  have ne_p0_b4 : p0 ≠ b4 := Nat.ne_of_lt (Nat.lt_of_lt_of_le E_p0.lt (Nat.le_of_eq gb4.symm))
  have ne_p1_b4 : p1 ≠ b4 := Nat.ne_of_lt (Nat.lt_of_lt_of_le A_p1.lt (Nat.le_of_eq gb4.symm))
  have sz_b4 : h0.size ≤ b4 := Nat.le_trans K0.1 (Nat.le_of_eq gb4.symm)
  have ge_b4 : n0 ≤ b4 := Nat.le_trans Z0 (Nat.le_of_eq gb4.symm)
  have exa_p0_4 := E_p0.ext E4
  have fld_p0_bytes_4 := F_p0_bytes.ext E4
  have arr_p1_4 := A_p1.ext E4
  have exa_p1_4 := E_p1.ext E4
  have K4 := K0.ext E4
  have Z4 := Nat.le_trans Z0 E4.1
  have pre5 : ∀ t, Steps p.tables e below (T4.setTop (mkF m 25 #[.val (.ref p0), .val (.ref p1)] [(.ref b4), (.ref p0)])) t → Steps p.tables e below (s₁.setTop (entryFrame m #[(.ref p0), (.ref p1)] 2)) t := by
    intro t k
    refine pre3 t ?_
    show Steps p.tables e below (T2.setTop (mkF m 22 #[.val (.ref p0), .val (.ref p1)] [(.ref p1), (.ref p0)])) _
    refine st4 _ ?_
    exact k
  obtain ⟨T6, X6, e6, st6⟩ := castY X4 hx hZ hown (hw _ (List.mem_of_getElem? (i := 17) rfl)) e4 (Ins.self B4) (g := (mkF m 25 #[.val (.ref p0), .val (.ref p1)] [(.ref b4), (.ref p0)])) rfl rfl (hb hby d1_25)
  have pre7 : ∀ t, Steps p.tables e below (T6.setTop (mkF m 28 #[.val (.ref p0), .val (.ref p1)] [(.ref b4), (.ref p0)])) t → Steps p.tables e below (s₁.setTop (entryFrame m #[(.ref p0), (.ref p1)] 2)) t := by
    intro t k
    refine pre5 t ?_
    show Steps p.tables e below (T4.setTop (mkF m 25 #[.val (.ref p0), .val (.ref p1)] [(.ref b4), (.ref p0)])) _
    refine st6 _ ?_
    exact k
  obtain ⟨T8, h8, X8, e8, W8, st8⟩ := putF X6 hx hZ hown (host := "") (Or.inl (hw _ (List.mem_of_getElem? (i := 19) rfl))) Via.refl e6 fld_p0_bytes_4 exa_p0_4 (Or.inr ⟨(hw _ (List.mem_of_getElem? (i := 20) rfl)), rfl, hnm⟩) (hw _ (List.mem_of_getElem? (i := 2) rfl)) (ty := (.array .byte)) (by decide) rfl rfl (g := (mkF m 28 #[.val (.ref p0), .val (.ref p1)] [(.ref b4), (.ref p0)])) rfl rfl (hb hby d1_28)
  have Fw8 := fld_p0_bytes_4.same W8
  have exa_p0_8 := exa_p0_4.wr W8
  have arr_p1_8 := arr_p1_4.other W8 ne_p0_p1.symm
  have exa_p1_8 := exa_p1_4.wr W8
  have arr_b4_8 := A4.other W8 ne_p0_b4.symm
  have exa_b4_8 := B4.wr W8
  have K8 := K4.wr W8 (Or.inl (List.mem_of_getElem? (i := 0) rfl))
  have Z8 := Nat.le_trans Z4 (Nat.le_of_eq W8.size.symm)
  have N8 := Fr.snoc X8 N0 ge_p0
  obtain ⟨fs, hr, hrun, hended, hW, hsame⟩ := X8.leave (v := none) (fun _ => rfl)
  refine ⟨_, _, pre7 _ ?_, hrun, hended, _, _, rfl, ?_, ⟨_, rfl⟩, hW, hsame.mono (by decide) (by decide)⟩
  · show Steps p.tables e below (T6.setTop (mkF m 28 #[.val (.ref p0), .val (.ref p1)] [(.ref b4), (.ref p0)])) _
    refine st8 _ ?_
    show Steps p.tables e below (T8.setTop (mkF m 31 #[.val (.ref p0), .val (.ref p1)] [])) _
    exact X8.returnOut hx Bd.returns (hb hby d1_31) hr
  · show Q_1t4 Z p0 p1 g_ h0 n0 _ T8.heap _
    rw [e8]
    exact ⟨b4, rfl, N8, sz_b4, K8, exa_p0_8, Fw8, arr_b4_8⟩
theorem ef_3t4 (m : MethodId) (p0 : Addr) : entryFrame m #[(.ref p0)] 1 = mkF m 0 #[.val (.ref p0)] [] := by first | (simp [entryFrame, mkF, argsToLocals, Value.category]; done) | rfl
def f_3t4 (g_ : Nat → Int32) : Int32 := ((((g_ 2) &&& (255 : Int32)) <<< ((8 : Int32) &&& 31)) ||| ((g_ 3) &&& (255 : Int32)))
def Q_3t4 (Z : State) (p0 : Addr) (w : Addr) (g_ : Nat → Int32) (h0 : Heap) (n0 : Nat) (v : Option Value) (h : Heap) (L : List Loc) : Prop := v = some (.int (f_3t4 g_)) ∧ Fr n0 L ∧ h = h0
set_option maxRecDepth 65536 in
set_option maxHeartbeats 40000000 in
theorem rm_3t4 (l : Launch) (Z : State) (a0 : Array Value) (hw : ∀ d ∈ tables_1, d.before a0 Z = true) (ws : List Jvm.Cond) (p0 : Addr) (w : Addr) (g_ : Nat → Int32) (h0 : Heap) (n0 : Nat) (Z0 : n0 ≤ h0.size) (F_p0_bytes : Fld Z h0 p0 "com/example/cardwire/cardwire/core/ResponseApdu" "bytes" "[B" (.ref w)) (A_w : own_A Z h0 w .byte 4 (fun i => .int (g_ i))) :
    MetFree l (⟨"com/example/cardwire/cardwire/core/ResponseApdu", "statusWord", "()I"⟩ : MethodName) (head1 (Jvm.Cond.code (⟨"com/example/cardwire/cardwire/core/ResponseApdu", "statusWord", "()I"⟩ : MethodName) prog_23_method_4_code 1 (some .int) :: ws) ({ frames := 0, cells := 0, slots := 0, locals := 0 } : Room)) (fun a U => a = #[(.ref p0)] ∧ Z.Warmed39 U.vm ∧ U.heap = h0) (fun _ _ _ _ _ => True) (fun _ U o U' => ∃ v L, o = .returned v ∧ Q_3t4 Z p0 w g_ h0 n0 v U'.heap L ∧ FrameEnd U o U' L ({ frames := 0, cells := 0, slots := 0, locals := 0 } : Room).cells ({ frames := 0, cells := 0, slots := 0, locals := 0 } : Room).slots) := by
  refine MetFree.of_bodySF (plainFor_of_name pn_3) hisR ?_
  intro p e s m args below meth c s₁ Bd hml0 hP hK
  obtain ⟨rfl, hZ, hh⟩ := hP
  have hx := Bd.exec
  have hby := Bd.bytes
  have hml : c.maxLocals = 1 := hml0
  have hown : s.vm.findClass "com/example/cardwire/cardwire/core/ResponseApdu" = some m.cls := findClass_of_methodNamed Bd.named
  have hnm := (name_of_methodNamed Bd.named Bd.method).1
  have X0 : Stand p l e ({ frames := 0, cells := 0, slots := 0, locals := 0 } : Room) s m #[(.ref p0)] below meth c s₁ [] 0 0 := Stand.of_body Bd
  have e0 : s₁.heap = h0 := by rw [← hh, Bd.state]; rfl
  have N0 := Fr.nil n0
  have K0 : Keep h0 h0 [] := Keep.refl h0 _
  have pre0 : ∀ t, Steps p.tables e below (s₁.setTop (mkF m 0 #[.val (.ref p0)] [])) t → Steps p.tables e below (s₁.setTop (entryFrame m #[(.ref p0)] 1)) t := fun t k => castTop (ef_3t4 m p0) k
  have pre1 : ∀ t, Steps p.tables e below (s₁.setTop (mkF m 1 #[.val (.ref p0)] [(.ref p0)])) t → Steps p.tables e below (s₁.setTop (entryFrame m #[(.ref p0)] 1)) t := by
    intro t k
    refine pre0 t ?_
    show Steps p.tables e below (s₁.setTop (mkF m 0 #[.val (.ref p0)] [])) _
    refine XS.aloadN X0.here hx rfl (hb hby d3_0) rfl rfl ?_
    exact k
  obtain ⟨T2, X2, e2, st2⟩ := getF X0 hx hZ hown (host := "") (Or.inl (hw _ (List.mem_of_getElem? (i := 19) rfl))) Via.refl e0 F_p0_bytes (g := (mkF m 1 #[.val (.ref p0)] [(.ref p0)])) rfl rfl (hb hby d3_1)
  have pre3 : ∀ t, Steps p.tables e below (T2.setTop (mkF m 5 #[.val (.ref p0)] [(.ref p0), (.ref w)])) t → Steps p.tables e below (s₁.setTop (entryFrame m #[(.ref p0)] 1)) t := by
    intro t k
    refine pre1 t ?_
    show Steps p.tables e below (s₁.setTop (mkF m 1 #[.val (.ref p0)] [(.ref p0)])) _
    refine st2 _ ?_
    show Steps p.tables e below (T2.setTop (mkF m 4 #[.val (.ref p0)] [(.ref w)])) _
    refine XS.aloadN X2.here hx rfl (hb hby d3_4) rfl rfl ?_
    exact k
  obtain ⟨T4, X4, e4, st4⟩ := getF X2 hx hZ hown (host := "") (Or.inl (hw _ (List.mem_of_getElem? (i := 19) rfl))) Via.refl e2 F_p0_bytes (g := (mkF m 5 #[.val (.ref p0)] [(.ref p0), (.ref w)])) rfl rfl (hb hby d3_5)
  have pre5 : ∀ t, Steps p.tables e below (T4.setTop (mkF m 20 #[.val (.ref p0)] [(.ref p0), (.int (((g_ 2) &&& (255 : Int32)) <<< ((8 : Int32) &&& 31)))])) t → Steps p.tables e below (s₁.setTop (entryFrame m #[(.ref p0)] 1)) t := by
    intro t k
    refine pre3 t ?_
    show Steps p.tables e below (T2.setTop (mkF m 5 #[.val (.ref p0)] [(.ref p0), (.ref w)])) _
    refine st4 _ ?_
    show Steps p.tables e below (T4.setTop (mkF m 8 #[.val (.ref p0)] [(.ref w), (.ref w)])) _
    refine own_len X4 hx hZ e4 A_w (z := (4 : Int32)) rfl (g := (mkF m 8 #[.val (.ref p0)] [(.ref w), (.ref w)])) rfl rfl (hb hby d3_8) ?_
    show Steps p.tables e below (T4.setTop (mkF m 9 #[.val (.ref p0)] [(.int (4 : Int32)), (.ref w)])) _
    refine XS.iconst X4.here hx rfl (hb hby d3_9) ?_
    show Steps p.tables e below (T4.setTop (mkF m 10 #[.val (.ref p0)] [(.int (2 : Int32)), (.int (4 : Int32)), (.ref w)])) _
    refine XS.isub X4.here hx rfl (hb hby d3_10) rfl ?_
    show Steps p.tables e below (T4.setTop (mkF m 11 #[.val (.ref p0)] [(.int ((4 : Int32) - (2 : Int32))), (.ref w)])) _
    refine own_ldB X4 hx hZ e4 A_w (j := ((4 : Int32) - (2 : Int32))) (k := 2) (by decide) (by decide) (by decide) (g := (mkF m 11 #[.val (.ref p0)] [(.int ((4 : Int32) - (2 : Int32))), (.ref w)])) rfl rfl (hb hby d3_11) ?_
    show Steps p.tables e below (T4.setTop (mkF m 12 #[.val (.ref p0)] [(.int (g_ 2))])) _
    refine XS.sipush X4.here hx rfl (hb hby d3_12) ?_
    show Steps p.tables e below (T4.setTop (mkF m 15 #[.val (.ref p0)] [(.int (255 : Int32)), (.int (g_ 2))])) _
    refine XS.iand X4.here hx rfl (hb hby d3_15) rfl ?_
    show Steps p.tables e below (T4.setTop (mkF m 16 #[.val (.ref p0)] [(.int ((g_ 2) &&& (255 : Int32)))])) _
    refine XS.bipush X4.here hx rfl (hb hby d3_16) ?_
    show Steps p.tables e below (T4.setTop (mkF m 18 #[.val (.ref p0)] [(.int (8 : Int32)), (.int ((g_ 2) &&& (255 : Int32)))])) _
    refine XS.ishl X4.here hx rfl (hb hby d3_18) rfl ?_
    show Steps p.tables e below (T4.setTop (mkF m 19 #[.val (.ref p0)] [(.int (((g_ 2) &&& (255 : Int32)) <<< ((8 : Int32) &&& 31)))])) _
    refine XS.aloadN X4.here hx rfl (hb hby d3_19) rfl rfl ?_
    exact k
  obtain ⟨T6, X6, e6, st6⟩ := getF X4 hx hZ hown (host := "") (Or.inl (hw _ (List.mem_of_getElem? (i := 19) rfl))) Via.refl e4 F_p0_bytes (g := (mkF m 20 #[.val (.ref p0)] [(.ref p0), (.int (((g_ 2) &&& (255 : Int32)) <<< ((8 : Int32) &&& 31)))])) rfl rfl (hb hby d3_20)
  have pre7 : ∀ t, Steps p.tables e below (T6.setTop (mkF m 24 #[.val (.ref p0)] [(.ref p0), (.ref w), (.int (((g_ 2) &&& (255 : Int32)) <<< ((8 : Int32) &&& 31)))])) t → Steps p.tables e below (s₁.setTop (entryFrame m #[(.ref p0)] 1)) t := by
    intro t k
    refine pre5 t ?_
    show Steps p.tables e below (T4.setTop (mkF m 20 #[.val (.ref p0)] [(.ref p0), (.int (((g_ 2) &&& (255 : Int32)) <<< ((8 : Int32) &&& 31)))])) _
    refine st6 _ ?_
    show Steps p.tables e below (T6.setTop (mkF m 23 #[.val (.ref p0)] [(.ref w), (.int (((g_ 2) &&& (255 : Int32)) <<< ((8 : Int32) &&& 31)))])) _
    refine XS.aloadN X6.here hx rfl (hb hby d3_23) rfl rfl ?_
    exact k
  obtain ⟨T8, X8, e8, st8⟩ := getF X6 hx hZ hown (host := "") (Or.inl (hw _ (List.mem_of_getElem? (i := 19) rfl))) Via.refl e6 F_p0_bytes (g := (mkF m 24 #[.val (.ref p0)] [(.ref p0), (.ref w), (.int (((g_ 2) &&& (255 : Int32)) <<< ((8 : Int32) &&& 31)))])) rfl rfl (hb hby d3_24)
  obtain ⟨fs, hr, hrun, hended, hW, hsame⟩ := X8.leave (v := some (.int ((((g_ 2) &&& (255 : Int32)) <<< ((8 : Int32) &&& 31)) ||| ((g_ 3) &&& (255 : Int32))))) (fun h => by rw [Bd.returns] at h; cases h)
  refine ⟨_, _, pre7 _ ?_, hrun, hended, _, _, rfl, ?_, ⟨_, rfl⟩, hW, hsame.mono (by decide) (by decide)⟩
  · show Steps p.tables e below (T6.setTop (mkF m 24 #[.val (.ref p0)] [(.ref p0), (.ref w), (.int (((g_ 2) &&& (255 : Int32)) <<< ((8 : Int32) &&& 31)))])) _
    refine st8 _ ?_
    show Steps p.tables e below (T8.setTop (mkF m 27 #[.val (.ref p0)] [(.ref w), (.ref w), (.int (((g_ 2) &&& (255 : Int32)) <<< ((8 : Int32) &&& 31)))])) _
    refine own_len X8 hx hZ e8 A_w (z := (4 : Int32)) rfl (g := (mkF m 27 #[.val (.ref p0)] [(.ref w), (.ref w), (.int (((g_ 2) &&& (255 : Int32)) <<< ((8 : Int32) &&& 31)))])) rfl rfl (hb hby d3_27) ?_
    show Steps p.tables e below (T8.setTop (mkF m 28 #[.val (.ref p0)] [(.int (4 : Int32)), (.ref w), (.int (((g_ 2) &&& (255 : Int32)) <<< ((8 : Int32) &&& 31)))])) _
    refine XS.iconst X8.here hx rfl (hb hby d3_28) ?_
    show Steps p.tables e below (T8.setTop (mkF m 29 #[.val (.ref p0)] [(.int (1 : Int32)), (.int (4 : Int32)), (.ref w), (.int (((g_ 2) &&& (255 : Int32)) <<< ((8 : Int32) &&& 31)))])) _
    refine XS.isub X8.here hx rfl (hb hby d3_29) rfl ?_
    show Steps p.tables e below (T8.setTop (mkF m 30 #[.val (.ref p0)] [(.int ((4 : Int32) - (1 : Int32))), (.ref w), (.int (((g_ 2) &&& (255 : Int32)) <<< ((8 : Int32) &&& 31)))])) _
    refine own_ldB X8 hx hZ e8 A_w (j := ((4 : Int32) - (1 : Int32))) (k := 3) (by decide) (by decide) (by decide) (g := (mkF m 30 #[.val (.ref p0)] [(.int ((4 : Int32) - (1 : Int32))), (.ref w), (.int (((g_ 2) &&& (255 : Int32)) <<< ((8 : Int32) &&& 31)))])) rfl rfl (hb hby d3_30) ?_
    show Steps p.tables e below (T8.setTop (mkF m 31 #[.val (.ref p0)] [(.int (g_ 3)), (.int (((g_ 2) &&& (255 : Int32)) <<< ((8 : Int32) &&& 31)))])) _
    refine XS.sipush X8.here hx rfl (hb hby d3_31) ?_
    show Steps p.tables e below (T8.setTop (mkF m 34 #[.val (.ref p0)] [(.int (255 : Int32)), (.int (g_ 3)), (.int (((g_ 2) &&& (255 : Int32)) <<< ((8 : Int32) &&& 31)))])) _
    refine XS.iand X8.here hx rfl (hb hby d3_34) rfl ?_
    show Steps p.tables e below (T8.setTop (mkF m 35 #[.val (.ref p0)] [(.int ((g_ 3) &&& (255 : Int32))), (.int (((g_ 2) &&& (255 : Int32)) <<< ((8 : Int32) &&& 31)))])) _
    refine XS.ior X8.here hx rfl (hb hby d3_35) rfl ?_
    show Steps p.tables e below (T8.setTop (mkF m 36 #[.val (.ref p0)] [(.int ((((g_ 2) &&& (255 : Int32)) <<< ((8 : Int32) &&& 31)) ||| ((g_ 3) &&& (255 : Int32))))])) _
    exact retI X8 hx Bd.returns (hb hby d3_36) hr
  · show Q_3t4 Z p0 w g_ h0 n0 _ T8.heap _
    rw [e8]
    exact ⟨congrArg (fun z => some (Value.int z)) (by rfl : ((((g_ 2) &&& (255 : Int32)) <<< ((8 : Int32) &&& 31)) ||| ((g_ 3) &&& (255 : Int32))) = f_3t4 g_), N0, rfl⟩
theorem ef_1t5 (m : MethodId) (p0 : Addr) (p1 : Addr) : entryFrame m #[(.ref p0), (.ref p1)] 2 = mkF m 0 #[.val (.ref p0), .val (.ref p1)] [] := by first | (simp [entryFrame, mkF, argsToLocals, Value.category]; done) | rfl
def Q_1t5 (Z : State) (p0 : Addr) (p1 : Addr) (g_ : Nat → Int32) (h0 : Heap) (n0 : Nat) (v : Option Value) (h : Heap) (L : List Loc) : Prop := ∃ w : Addr, v = none ∧ Fr n0 L ∧ h0.size ≤ w ∧ Keep h0 h [p0] ∧ Exa Z h p0 "com/example/cardwire/cardwire/core/ResponseApdu" ∧ Fld Z h p0 "com/example/cardwire/cardwire/core/ResponseApdu" "bytes" "[B" (.ref w) ∧ own_A Z h w .byte 5 (fun i => .int (g_ i))
set_option maxRecDepth 65536 in
set_option maxHeartbeats 40000000 in
theorem rm_1t5 (l : Launch) (Z : State) (a0 : Array Value) (hw : ∀ d ∈ tables_1, d.before a0 Z = true) (ws : List Jvm.Cond) (p0 : Addr) (p1 : Addr) (g_ : Nat → Int32) (h0 : Heap) (n0 : Nat) (Z0 : n0 ≤ h0.size) (E_p0 : Exa Z h0 p0 "com/example/cardwire/cardwire/core/ResponseApdu") (F_p0_bytes : Fld Z h0 p0 "com/example/cardwire/cardwire/core/ResponseApdu" "bytes" "[B" .null) (ge_p0 : n0 ≤ p0) (A_p1 : own_A Z h0 p1 .byte 5 (fun i => .int (g_ i))) (E_p1 : Exa Z h0 p1 "[B") (ne_p0_p1 : p0 ≠ p1) :
    MetFree l (⟨"com/example/cardwire/cardwire/core/ResponseApdu", "<init>", "([B)V"⟩ : MethodName) (head1 (Jvm.Cond.code (⟨"com/example/cardwire/cardwire/core/ResponseApdu", "<init>", "([B)V"⟩ : MethodName) prog_23_method_1_code 2 none :: ws) ({ frames := 1, cells := 1, slots := 5, locals := 15 } : Room)) (fun a U => a = #[(.ref p0), (.ref p1)] ∧ Z.Warmed39 U.vm ∧ U.heap = h0) (fun _ _ _ _ _ => True) (fun _ U o U' => ∃ v L, o = .returned v ∧ Q_1t5 Z p0 p1 g_ h0 n0 v U'.heap L ∧ FrameEnd U o U' L ({ frames := 1, cells := 1, slots := 5, locals := 15 } : Room).cells ({ frames := 1, cells := 1, slots := 5, locals := 15 } : Room).slots) := by
  refine MetFree.of_bodySF (plainFor_of_name pn_1) hisR ?_
  intro p e s m args below meth c s₁ Bd hml0 hP hK
  obtain ⟨rfl, hZ, hh⟩ := hP
  have hx := Bd.exec
  have hby := Bd.bytes
  have hml : c.maxLocals = 2 := hml0
  have hown : s.vm.findClass "com/example/cardwire/cardwire/core/ResponseApdu" = some m.cls := findClass_of_methodNamed Bd.named
  have hnm := (name_of_methodNamed Bd.named Bd.method).1
  have X0 : Stand p l e ({ frames := 1, cells := 1, slots := 5, locals := 15 } : Room) s m #[(.ref p0), (.ref p1)] below meth c s₁ [] 0 0 := Stand.of_body Bd
  have e0 : s₁.heap = h0 := by rw [← hh, Bd.state]; rfl
  have N0 := Fr.nil n0
  have K0 : Keep h0 h0 [p0] := Keep.refl h0 _
  have pre0 : ∀ t, Steps p.tables e below (s₁.setTop (mkF m 0 #[.val (.ref p0), .val (.ref p1)] [])) t → Steps p.tables e below (s₁.setTop (entryFrame m #[(.ref p0), (.ref p1)] 2)) t := fun t k => castTop (ef_1t5 m p0 p1) k
  have pre1 : ∀ t, Steps p.tables e below (s₁.setTop (mkF m 1 #[.val (.ref p0), .val (.ref p1)] [(.ref p0)])) t → Steps p.tables e below (s₁.setTop (entryFrame m #[(.ref p0), (.ref p1)] 2)) t := by
    intro t k
    refine pre0 t ?_
    show Steps p.tables e below (s₁.setTop (mkF m 0 #[.val (.ref p0), .val (.ref p1)] [])) _
    refine XS.aloadN X0.here hx rfl (hb hby d1_0) rfl rfl ?_
    exact k
  obtain ⟨T2, X2, e2, st2⟩ := initO X0 hx hZ hown (hw _ (List.mem_of_getElem? (i := 7) rfl)) (hw _ (List.mem_of_getElem? (i := 8) rfl)) (hw _ (List.mem_of_getElem? (i := 9) rfl)) e0 (g := (mkF m 1 #[.val (.ref p0), .val (.ref p1)] [(.ref p0)])) rfl (by rw [hml]; rfl) rfl (hb hby d1_1) (by decide) (W := 0) (by show 2 * 0 + _ ≤ _; exact Nat.le_of_eq rfl) (by decide)
  have pre3 : ∀ t, Steps p.tables e below (T2.setTop (mkF m 22 #[.val (.ref p0), .val (.ref p1)] [(.ref p1), (.ref p0)])) t → Steps p.tables e below (s₁.setTop (entryFrame m #[(.ref p0), (.ref p1)] 2)) t := by
    intro t k
    refine pre1 t ?_
    show Steps p.tables e below (s₁.setTop (mkF m 1 #[.val (.ref p0), .val (.ref p1)] [(.ref p0)])) _
    refine st2 _ ?_
    show Steps p.tables e below (T2.setTop (mkF m 4 #[.val (.ref p0), .val (.ref p1)] [])) _
    refine XS.aloadN X2.here hx rfl (hb hby d1_4) rfl rfl ?_
    show Steps p.tables e below (T2.setTop (mkF m 5 #[.val (.ref p0), .val (.ref p1)] [(.ref p1)])) _
    refine own_len X2 hx hZ e2 A_p1 (z := (5 : Int32)) rfl (g := (mkF m 5 #[.val (.ref p0), .val (.ref p1)] [(.ref p1)])) rfl rfl (hb hby d1_5) ?_
    show Steps p.tables e below (T2.setTop (mkF m 6 #[.val (.ref p0), .val (.ref p1)] [(.int (5 : Int32))])) _
    refine XS.iconst X2.here hx rfl (hb hby d1_6) ?_
    show Steps p.tables e below (T2.setTop (mkF m 7 #[.val (.ref p0), .val (.ref p1)] [(.int (2 : Int32)), (.int (5 : Int32))])) _
    refine XS.icmpYes X2.here hx rfl (pc0 := 7) (pc' := 20) rfl (hb hby d1_7) rfl (flt (by decide : ¬ ((5 : Int32) < (2 : Int32)))).2.1 (by decide) (by decide) ?_
    show Steps p.tables e below (T2.setTop (mkF m 20 #[.val (.ref p0), .val (.ref p1)] [])) _
    refine XS.aloadN X2.here hx rfl (hb hby d1_20) rfl rfl ?_
    show Steps p.tables e below (T2.setTop (mkF m 21 #[.val (.ref p0), .val (.ref p1)] [(.ref p0)])) _
    refine XS.aloadN X2.here hx rfl (hb hby d1_21) rfl rfl ?_
    exact k
  obtain ⟨T4, h4, b4, gb4, X4, e4, E4, A4, B4, st4⟩ := own_clone X2 hx hZ hown (hw _ (List.mem_of_getElem? (i := 10) rfl)) (hw _ (List.mem_of_getElem? (i := 11) rfl)) (hw _ (List.mem_of_getElem? (i := 15) rfl)) (hw _ (List.mem_of_getElem? (i := 13) rfl)) (hw _ (List.mem_of_getElem? (i := 14) rfl)) (hw _ (List.mem_of_getElem? (i := 16) rfl)) e2 A_p1 E_p1 (g := (mkF m 22 #[.val (.ref p0), .val (.ref p1)] [(.ref p1), (.ref p0)])) rfl (by rw [hml]; rfl) rfl (hb hby d1_22) (by decide) (W := 1) (by show 2 * 0 + _ ≤ _; exact Nat.le_of_eq rfl) (by decide) (cap := 5) (by decide) (by decide) (by decide)
  have ne_p0_b4 : p0 ≠ b4 := Nat.ne_of_lt (Nat.lt_of_lt_of_le E_p0.lt (Nat.le_of_eq gb4.symm))
  have ne_p1_b4 : p1 ≠ b4 := Nat.ne_of_lt (Nat.lt_of_lt_of_le A_p1.lt (Nat.le_of_eq gb4.symm))
  have sz_b4 : h0.size ≤ b4 := Nat.le_trans K0.1 (Nat.le_of_eq gb4.symm)
  have ge_b4 : n0 ≤ b4 := Nat.le_trans Z0 (Nat.le_of_eq gb4.symm)
  have exa_p0_4 := E_p0.ext E4
  have fld_p0_bytes_4 := F_p0_bytes.ext E4
  have arr_p1_4 := A_p1.ext E4
  have exa_p1_4 := E_p1.ext E4
  have K4 := K0.ext E4
  have Z4 := Nat.le_trans Z0 E4.1
  have pre5 : ∀ t, Steps p.tables e below (T4.setTop (mkF m 25 #[.val (.ref p0), .val (.ref p1)] [(.ref b4), (.ref p0)])) t → Steps p.tables e below (s₁.setTop (entryFrame m #[(.ref p0), (.ref p1)] 2)) t := by
    intro t k
    refine pre3 t ?_
    show Steps p.tables e below (T2.setTop (mkF m 22 #[.val (.ref p0), .val (.ref p1)] [(.ref p1), (.ref p0)])) _
    refine st4 _ ?_
    exact k
  obtain ⟨T6, X6, e6, st6⟩ := castY X4 hx hZ hown (hw _ (List.mem_of_getElem? (i := 17) rfl)) e4 (Ins.self B4) (g := (mkF m 25 #[.val (.ref p0), .val (.ref p1)] [(.ref b4), (.ref p0)])) rfl rfl (hb hby d1_25)
  have pre7 : ∀ t, Steps p.tables e below (T6.setTop (mkF m 28 #[.val (.ref p0), .val (.ref p1)] [(.ref b4), (.ref p0)])) t → Steps p.tables e below (s₁.setTop (entryFrame m #[(.ref p0), (.ref p1)] 2)) t := by
    intro t k
    refine pre5 t ?_
    show Steps p.tables e below (T4.setTop (mkF m 25 #[.val (.ref p0), .val (.ref p1)] [(.ref b4), (.ref p0)])) _
    refine st6 _ ?_
    exact k
  obtain ⟨T8, h8, X8, e8, W8, st8⟩ := putF X6 hx hZ hown (host := "") (Or.inl (hw _ (List.mem_of_getElem? (i := 19) rfl))) Via.refl e6 fld_p0_bytes_4 exa_p0_4 (Or.inr ⟨(hw _ (List.mem_of_getElem? (i := 20) rfl)), rfl, hnm⟩) (hw _ (List.mem_of_getElem? (i := 2) rfl)) (ty := (.array .byte)) (by decide) rfl rfl (g := (mkF m 28 #[.val (.ref p0), .val (.ref p1)] [(.ref b4), (.ref p0)])) rfl rfl (hb hby d1_28)
  have Fw8 := fld_p0_bytes_4.same W8
  have exa_p0_8 := exa_p0_4.wr W8
  have arr_p1_8 := arr_p1_4.other W8 ne_p0_p1.symm
  have exa_p1_8 := exa_p1_4.wr W8
  have arr_b4_8 := A4.other W8 ne_p0_b4.symm
  have exa_b4_8 := B4.wr W8
  have K8 := K4.wr W8 (Or.inl (List.mem_of_getElem? (i := 0) rfl))
  have Z8 := Nat.le_trans Z4 (Nat.le_of_eq W8.size.symm)
  have N8 := Fr.snoc X8 N0 ge_p0
  obtain ⟨fs, hr, hrun, hended, hW, hsame⟩ := X8.leave (v := none) (fun _ => rfl)
  refine ⟨_, _, pre7 _ ?_, hrun, hended, _, _, rfl, ?_, ⟨_, rfl⟩, hW, hsame.mono (by decide) (by decide)⟩
  · show Steps p.tables e below (T6.setTop (mkF m 28 #[.val (.ref p0), .val (.ref p1)] [(.ref b4), (.ref p0)])) _
    refine st8 _ ?_
    show Steps p.tables e below (T8.setTop (mkF m 31 #[.val (.ref p0), .val (.ref p1)] [])) _
    exact X8.returnOut hx Bd.returns (hb hby d1_31) hr
  · show Q_1t5 Z p0 p1 g_ h0 n0 _ T8.heap _
    rw [e8]
    exact ⟨b4, rfl, N8, sz_b4, K8, exa_p0_8, Fw8, arr_b4_8⟩
theorem ef_3t5 (m : MethodId) (p0 : Addr) : entryFrame m #[(.ref p0)] 1 = mkF m 0 #[.val (.ref p0)] [] := by first | (simp [entryFrame, mkF, argsToLocals, Value.category]; done) | rfl
def f_3t5 (g_ : Nat → Int32) : Int32 := ((((g_ 3) &&& (255 : Int32)) <<< ((8 : Int32) &&& 31)) ||| ((g_ 4) &&& (255 : Int32)))
def Q_3t5 (Z : State) (p0 : Addr) (w : Addr) (g_ : Nat → Int32) (h0 : Heap) (n0 : Nat) (v : Option Value) (h : Heap) (L : List Loc) : Prop := v = some (.int (f_3t5 g_)) ∧ Fr n0 L ∧ h = h0
set_option maxRecDepth 65536 in
set_option maxHeartbeats 40000000 in
theorem rm_3t5 (l : Launch) (Z : State) (a0 : Array Value) (hw : ∀ d ∈ tables_1, d.before a0 Z = true) (ws : List Jvm.Cond) (p0 : Addr) (w : Addr) (g_ : Nat → Int32) (h0 : Heap) (n0 : Nat) (Z0 : n0 ≤ h0.size) (F_p0_bytes : Fld Z h0 p0 "com/example/cardwire/cardwire/core/ResponseApdu" "bytes" "[B" (.ref w)) (A_w : own_A Z h0 w .byte 5 (fun i => .int (g_ i))) :
    MetFree l (⟨"com/example/cardwire/cardwire/core/ResponseApdu", "statusWord", "()I"⟩ : MethodName) (head1 (Jvm.Cond.code (⟨"com/example/cardwire/cardwire/core/ResponseApdu", "statusWord", "()I"⟩ : MethodName) prog_23_method_4_code 1 (some .int) :: ws) ({ frames := 0, cells := 0, slots := 0, locals := 0 } : Room)) (fun a U => a = #[(.ref p0)] ∧ Z.Warmed39 U.vm ∧ U.heap = h0) (fun _ _ _ _ _ => True) (fun _ U o U' => ∃ v L, o = .returned v ∧ Q_3t5 Z p0 w g_ h0 n0 v U'.heap L ∧ FrameEnd U o U' L ({ frames := 0, cells := 0, slots := 0, locals := 0 } : Room).cells ({ frames := 0, cells := 0, slots := 0, locals := 0 } : Room).slots) := by
  refine MetFree.of_bodySF (plainFor_of_name pn_3) hisR ?_
  intro p e s m args below meth c s₁ Bd hml0 hP hK
  obtain ⟨rfl, hZ, hh⟩ := hP
  have hx := Bd.exec
  have hby := Bd.bytes
  have hml : c.maxLocals = 1 := hml0
  have hown : s.vm.findClass "com/example/cardwire/cardwire/core/ResponseApdu" = some m.cls := findClass_of_methodNamed Bd.named
  have hnm := (name_of_methodNamed Bd.named Bd.method).1
  have X0 : Stand p l e ({ frames := 0, cells := 0, slots := 0, locals := 0 } : Room) s m #[(.ref p0)] below meth c s₁ [] 0 0 := Stand.of_body Bd
  have e0 : s₁.heap = h0 := by rw [← hh, Bd.state]; rfl
  have N0 := Fr.nil n0
  have K0 : Keep h0 h0 [] := Keep.refl h0 _
  have pre0 : ∀ t, Steps p.tables e below (s₁.setTop (mkF m 0 #[.val (.ref p0)] [])) t → Steps p.tables e below (s₁.setTop (entryFrame m #[(.ref p0)] 1)) t := fun t k => castTop (ef_3t5 m p0) k
  have pre1 : ∀ t, Steps p.tables e below (s₁.setTop (mkF m 1 #[.val (.ref p0)] [(.ref p0)])) t → Steps p.tables e below (s₁.setTop (entryFrame m #[(.ref p0)] 1)) t := by
    intro t k
    refine pre0 t ?_
    show Steps p.tables e below (s₁.setTop (mkF m 0 #[.val (.ref p0)] [])) _
    refine XS.aloadN X0.here hx rfl (hb hby d3_0) rfl rfl ?_
    exact k
  obtain ⟨T2, X2, e2, st2⟩ := getF X0 hx hZ hown (host := "") (Or.inl (hw _ (List.mem_of_getElem? (i := 19) rfl))) Via.refl e0 F_p0_bytes (g := (mkF m 1 #[.val (.ref p0)] [(.ref p0)])) rfl rfl (hb hby d3_1)
  have pre3 : ∀ t, Steps p.tables e below (T2.setTop (mkF m 5 #[.val (.ref p0)] [(.ref p0), (.ref w)])) t → Steps p.tables e below (s₁.setTop (entryFrame m #[(.ref p0)] 1)) t := by
    intro t k
    refine pre1 t ?_
    show Steps p.tables e below (s₁.setTop (mkF m 1 #[.val (.ref p0)] [(.ref p0)])) _
    refine st2 _ ?_
    show Steps p.tables e below (T2.setTop (mkF m 4 #[.val (.ref p0)] [(.ref w)])) _
    refine XS.aloadN X2.here hx rfl (hb hby d3_4) rfl rfl ?_
    exact k
  obtain ⟨T4, X4, e4, st4⟩ := getF X2 hx hZ hown (host := "") (Or.inl (hw _ (List.mem_of_getElem? (i := 19) rfl))) Via.refl e2 F_p0_bytes (g := (mkF m 5 #[.val (.ref p0)] [(.ref p0), (.ref w)])) rfl rfl (hb hby d3_5)
  have pre5 : ∀ t, Steps p.tables e below (T4.setTop (mkF m 20 #[.val (.ref p0)] [(.ref p0), (.int (((g_ 3) &&& (255 : Int32)) <<< ((8 : Int32) &&& 31)))])) t → Steps p.tables e below (s₁.setTop (entryFrame m #[(.ref p0)] 1)) t := by
    intro t k
    refine pre3 t ?_
    show Steps p.tables e below (T2.setTop (mkF m 5 #[.val (.ref p0)] [(.ref p0), (.ref w)])) _
    refine st4 _ ?_
    show Steps p.tables e below (T4.setTop (mkF m 8 #[.val (.ref p0)] [(.ref w), (.ref w)])) _
    refine own_len X4 hx hZ e4 A_w (z := (5 : Int32)) rfl (g := (mkF m 8 #[.val (.ref p0)] [(.ref w), (.ref w)])) rfl rfl (hb hby d3_8) ?_
    show Steps p.tables e below (T4.setTop (mkF m 9 #[.val (.ref p0)] [(.int (5 : Int32)), (.ref w)])) _
    refine XS.iconst X4.here hx rfl (hb hby d3_9) ?_
    show Steps p.tables e below (T4.setTop (mkF m 10 #[.val (.ref p0)] [(.int (2 : Int32)), (.int (5 : Int32)), (.ref w)])) _
    refine XS.isub X4.here hx rfl (hb hby d3_10) rfl ?_
    show Steps p.tables e below (T4.setTop (mkF m 11 #[.val (.ref p0)] [(.int ((5 : Int32) - (2 : Int32))), (.ref w)])) _
    refine own_ldB X4 hx hZ e4 A_w (j := ((5 : Int32) - (2 : Int32))) (k := 3) (by decide) (by decide) (by decide) (g := (mkF m 11 #[.val (.ref p0)] [(.int ((5 : Int32) - (2 : Int32))), (.ref w)])) rfl rfl (hb hby d3_11) ?_
    show Steps p.tables e below (T4.setTop (mkF m 12 #[.val (.ref p0)] [(.int (g_ 3))])) _
    refine XS.sipush X4.here hx rfl (hb hby d3_12) ?_
    show Steps p.tables e below (T4.setTop (mkF m 15 #[.val (.ref p0)] [(.int (255 : Int32)), (.int (g_ 3))])) _
    refine XS.iand X4.here hx rfl (hb hby d3_15) rfl ?_
    show Steps p.tables e below (T4.setTop (mkF m 16 #[.val (.ref p0)] [(.int ((g_ 3) &&& (255 : Int32)))])) _
    refine XS.bipush X4.here hx rfl (hb hby d3_16) ?_
    show Steps p.tables e below (T4.setTop (mkF m 18 #[.val (.ref p0)] [(.int (8 : Int32)), (.int ((g_ 3) &&& (255 : Int32)))])) _
    refine XS.ishl X4.here hx rfl (hb hby d3_18) rfl ?_
    show Steps p.tables e below (T4.setTop (mkF m 19 #[.val (.ref p0)] [(.int (((g_ 3) &&& (255 : Int32)) <<< ((8 : Int32) &&& 31)))])) _
    refine XS.aloadN X4.here hx rfl (hb hby d3_19) rfl rfl ?_
    exact k
  obtain ⟨T6, X6, e6, st6⟩ := getF X4 hx hZ hown (host := "") (Or.inl (hw _ (List.mem_of_getElem? (i := 19) rfl))) Via.refl e4 F_p0_bytes (g := (mkF m 20 #[.val (.ref p0)] [(.ref p0), (.int (((g_ 3) &&& (255 : Int32)) <<< ((8 : Int32) &&& 31)))])) rfl rfl (hb hby d3_20)
  have pre7 : ∀ t, Steps p.tables e below (T6.setTop (mkF m 24 #[.val (.ref p0)] [(.ref p0), (.ref w), (.int (((g_ 3) &&& (255 : Int32)) <<< ((8 : Int32) &&& 31)))])) t → Steps p.tables e below (s₁.setTop (entryFrame m #[(.ref p0)] 1)) t := by
    intro t k
    refine pre5 t ?_
    show Steps p.tables e below (T4.setTop (mkF m 20 #[.val (.ref p0)] [(.ref p0), (.int (((g_ 3) &&& (255 : Int32)) <<< ((8 : Int32) &&& 31)))])) _
    refine st6 _ ?_
    show Steps p.tables e below (T6.setTop (mkF m 23 #[.val (.ref p0)] [(.ref w), (.int (((g_ 3) &&& (255 : Int32)) <<< ((8 : Int32) &&& 31)))])) _
    refine XS.aloadN X6.here hx rfl (hb hby d3_23) rfl rfl ?_
    exact k
  obtain ⟨T8, X8, e8, st8⟩ := getF X6 hx hZ hown (host := "") (Or.inl (hw _ (List.mem_of_getElem? (i := 19) rfl))) Via.refl e6 F_p0_bytes (g := (mkF m 24 #[.val (.ref p0)] [(.ref p0), (.ref w), (.int (((g_ 3) &&& (255 : Int32)) <<< ((8 : Int32) &&& 31)))])) rfl rfl (hb hby d3_24)
  obtain ⟨fs, hr, hrun, hended, hW, hsame⟩ := X8.leave (v := some (.int ((((g_ 3) &&& (255 : Int32)) <<< ((8 : Int32) &&& 31)) ||| ((g_ 4) &&& (255 : Int32))))) (fun h => by rw [Bd.returns] at h; cases h)
  refine ⟨_, _, pre7 _ ?_, hrun, hended, _, _, rfl, ?_, ⟨_, rfl⟩, hW, hsame.mono (by decide) (by decide)⟩
  · show Steps p.tables e below (T6.setTop (mkF m 24 #[.val (.ref p0)] [(.ref p0), (.ref w), (.int (((g_ 3) &&& (255 : Int32)) <<< ((8 : Int32) &&& 31)))])) _
    refine st8 _ ?_
    show Steps p.tables e below (T8.setTop (mkF m 27 #[.val (.ref p0)] [(.ref w), (.ref w), (.int (((g_ 3) &&& (255 : Int32)) <<< ((8 : Int32) &&& 31)))])) _
    refine own_len X8 hx hZ e8 A_w (z := (5 : Int32)) rfl (g := (mkF m 27 #[.val (.ref p0)] [(.ref w), (.ref w), (.int (((g_ 3) &&& (255 : Int32)) <<< ((8 : Int32) &&& 31)))])) rfl rfl (hb hby d3_27) ?_
    show Steps p.tables e below (T8.setTop (mkF m 28 #[.val (.ref p0)] [(.int (5 : Int32)), (.ref w), (.int (((g_ 3) &&& (255 : Int32)) <<< ((8 : Int32) &&& 31)))])) _
    refine XS.iconst X8.here hx rfl (hb hby d3_28) ?_
    show Steps p.tables e below (T8.setTop (mkF m 29 #[.val (.ref p0)] [(.int (1 : Int32)), (.int (5 : Int32)), (.ref w), (.int (((g_ 3) &&& (255 : Int32)) <<< ((8 : Int32) &&& 31)))])) _
    refine XS.isub X8.here hx rfl (hb hby d3_29) rfl ?_
    show Steps p.tables e below (T8.setTop (mkF m 30 #[.val (.ref p0)] [(.int ((5 : Int32) - (1 : Int32))), (.ref w), (.int (((g_ 3) &&& (255 : Int32)) <<< ((8 : Int32) &&& 31)))])) _
    refine own_ldB X8 hx hZ e8 A_w (j := ((5 : Int32) - (1 : Int32))) (k := 4) (by decide) (by decide) (by decide) (g := (mkF m 30 #[.val (.ref p0)] [(.int ((5 : Int32) - (1 : Int32))), (.ref w), (.int (((g_ 3) &&& (255 : Int32)) <<< ((8 : Int32) &&& 31)))])) rfl rfl (hb hby d3_30) ?_
    show Steps p.tables e below (T8.setTop (mkF m 31 #[.val (.ref p0)] [(.int (g_ 4)), (.int (((g_ 3) &&& (255 : Int32)) <<< ((8 : Int32) &&& 31)))])) _
    refine XS.sipush X8.here hx rfl (hb hby d3_31) ?_
    show Steps p.tables e below (T8.setTop (mkF m 34 #[.val (.ref p0)] [(.int (255 : Int32)), (.int (g_ 4)), (.int (((g_ 3) &&& (255 : Int32)) <<< ((8 : Int32) &&& 31)))])) _
    refine XS.iand X8.here hx rfl (hb hby d3_34) rfl ?_
    show Steps p.tables e below (T8.setTop (mkF m 35 #[.val (.ref p0)] [(.int ((g_ 4) &&& (255 : Int32))), (.int (((g_ 3) &&& (255 : Int32)) <<< ((8 : Int32) &&& 31)))])) _
    refine XS.ior X8.here hx rfl (hb hby d3_35) rfl ?_
    show Steps p.tables e below (T8.setTop (mkF m 36 #[.val (.ref p0)] [(.int ((((g_ 3) &&& (255 : Int32)) <<< ((8 : Int32) &&& 31)) ||| ((g_ 4) &&& (255 : Int32))))])) _
    exact retI X8 hx Bd.returns (hb hby d3_36) hr
  · show Q_3t5 Z p0 w g_ h0 n0 _ T8.heap _
    rw [e8]
    exact ⟨congrArg (fun z => some (Value.int z)) (by rfl : ((((g_ 3) &&& (255 : Int32)) <<< ((8 : Int32) &&& 31)) ||| ((g_ 4) &&& (255 : Int32))) = f_3t5 g_), N0, rfl⟩
theorem d4_0 : decode method_2_code 0 = .ok (.iload_n 0, 1) := by decide +kernel
theorem d4_1 : decode method_2_code 1 = .ok (.i2b, 1) := by decide +kernel
theorem d4_2 : decode method_2_code 2 = .ok (.istore_n 1, 1) := by decide +kernel
theorem d4_3 : decode method_2_code 3 = .ok (.iload_n 1, 1) := by decide +kernel
theorem d4_4 : decode method_2_code 4 = .ok (.ifCond .ge 9, 3) := by decide +kernel
theorem d4_7 : decode method_2_code 7 = .ok (.iload_n 1, 1) := by decide +kernel
theorem d4_8 : decode method_2_code 8 = .ok (.sipush 256, 3) := by decide +kernel
theorem d4_11 : decode method_2_code 11 = .ok (.iadd, 1) := by decide +kernel
theorem d4_12 : decode method_2_code 12 = .ok (.istore_n 1, 1) := by decide +kernel
theorem d4_13 : decode method_2_code 13 = .ok (.iload_n 1, 1) := by decide +kernel
theorem d4_14 : decode method_2_code 14 = .ok (.ireturn, 1) := by decide +kernel
theorem pn_4 : plainName "com/example/cardwire/cardwire/core/ResponseApduStatusWordPinLaw" = true := by first | (simp [plainName, overriddenIn]; done) | decide +kernel
theorem ef_4 (m : MethodId) (p0 : Int32) : entryFrame m #[(.int p0)] 2 = mkF m 0 #[.val (.int p0), .unset] [] := by first | (simp [entryFrame, mkF, argsToLocals, Value.category]; done) | rfl
def f_4 (p0 : Int32) : Int32 := let v1_2 : Int32 := (p0.toInt8.toInt32); let m1_13 : Int32 := (if v1_2 < (0 : Int32) then (v1_2 + (256 : Int32)) else v1_2); m1_13
def Q_4 (Z : State) (p0 : Int32)  (h0 : Heap) (n0 : Nat) (v : Option Value) (h : Heap) (L : List Loc) : Prop := v = some (.int (f_4 p0)) ∧ Fr n0 L ∧ h = h0
set_option maxRecDepth 65536 in
set_option maxHeartbeats 40000000 in
theorem rm_4 (l : Launch) (Z : State) (a0 : Array Value) (hw : ∀ d ∈ tables_1, d.before a0 Z = true) (ws : List Jvm.Cond) (p0 : Int32)  (h0 : Heap) (n0 : Nat) (Z0 : n0 ≤ h0.size)  :
    MetFree l (⟨"com/example/cardwire/cardwire/core/ResponseApduStatusWordPinLaw", "unsigned", "(I)I"⟩ : MethodName) (head1 (Jvm.Cond.code (⟨"com/example/cardwire/cardwire/core/ResponseApduStatusWordPinLaw", "unsigned", "(I)I"⟩ : MethodName) method_2_code 2 (some .int) :: ws) ({ frames := 0, cells := 0, slots := 0, locals := 0 } : Room)) (fun a U => a = #[(.int p0)] ∧ Z.Warmed39 U.vm ∧ U.heap = h0) (fun _ _ _ _ _ => True) (fun _ U o U' => ∃ v L, o = .returned v ∧ Q_4 Z p0 h0 n0 v U'.heap L ∧ FrameEnd U o U' L ({ frames := 0, cells := 0, slots := 0, locals := 0 } : Room).cells ({ frames := 0, cells := 0, slots := 0, locals := 0 } : Room).slots) := by
  refine MetFree.of_bodySF (plainFor_of_name pn_4) hisR ?_
  intro p e s m args below meth c s₁ Bd hml0 hP hK
  obtain ⟨rfl, hZ, hh⟩ := hP
  have hx := Bd.exec
  have hby := Bd.bytes
  have hml : c.maxLocals = 2 := hml0
  have hown : s.vm.findClass "com/example/cardwire/cardwire/core/ResponseApduStatusWordPinLaw" = some m.cls := findClass_of_methodNamed Bd.named
  have hnm := (name_of_methodNamed Bd.named Bd.method).1
  have X0 : Stand p l e ({ frames := 0, cells := 0, slots := 0, locals := 0 } : Room) s m #[(.int p0)] below meth c s₁ [] 0 0 := Stand.of_body Bd
  have e0 : s₁.heap = h0 := by rw [← hh, Bd.state]; rfl
  have N0 := Fr.nil n0
  have K0 : Keep h0 h0 [] := Keep.refl h0 _
  have pre0 : ∀ t, Steps p.tables e below (s₁.setTop (mkF m 0 #[.val (.int p0), .unset] [])) t → Steps p.tables e below (s₁.setTop (entryFrame m #[(.int p0)] 2)) t := fun t k => castTop (ef_4 m p0) k
  obtain ⟨v1_2, hv1_2⟩ : ∃ z : Int32, z = (p0.toInt8.toInt32) := ⟨_, rfl⟩
  have pre1 : ∀ t, Steps p.tables e below (s₁.setTop (mkF m 4 #[.val (.int p0), .val (.int v1_2)] [(.int v1_2)])) t → Steps p.tables e below (s₁.setTop (entryFrame m #[(.int p0)] 2)) t := by
    intro t k
    refine pre0 t ?_
    show Steps p.tables e below (s₁.setTop (mkF m 0 #[.val (.int p0), .unset] [])) _
    refine XS.iloadN X0.here hx rfl (hb hby d4_0) rfl  ?_
    show Steps p.tables e below (s₁.setTop (mkF m 1 #[.val (.int p0), .unset] [(.int p0)])) _
    refine XS.i2b X0.here hx rfl (hb hby d4_1) rfl ?_
    show Steps p.tables e below (s₁.setTop (mkF m 2 #[.val (.int p0), .unset] [(.int (p0.toInt8.toInt32))])) _
    refine XS.istoreN X0.here hx rfl (hb hby d4_2) rfl (l' := #[.val (.int p0), .val (.int v1_2)]) (by rw [hv1_2]; rfl) ?_
    show Steps p.tables e below (s₁.setTop (mkF m 3 #[.val (.int p0), .val (.int v1_2)] [])) _
    refine XS.iloadN X0.here hx rfl (hb hby d4_3) rfl  ?_
    exact k
  obtain ⟨m1_13, hm1_13⟩ : ∃ z : Int32, z = (if v1_2 < (0 : Int32) then (v1_2 + (256 : Int32)) else v1_2) := ⟨_, rfl⟩
  have pre2 : ∀ t, Steps p.tables e below (s₁.setTop (mkF m 13 #[.val (.int p0), .val (.int m1_13)] [])) t → Steps p.tables e below (s₁.setTop (entryFrame m #[(.int p0)] 2)) t := by
    intro t k
    refine pre1 t ?_
    by_cases hc4 : v1_2 < (0 : Int32)
    · show Steps p.tables e below (s₁.setTop (mkF m 4 #[.val (.int p0), .val (.int v1_2)] [(.int v1_2)])) _
      refine XS.ifNo X0.here hx rfl (hb hby d4_4) rfl ((if0 _ _).trans (tlt hc4).2.1) ?_
      show Steps p.tables e below (s₁.setTop (mkF m 7 #[.val (.int p0), .val (.int v1_2)] [])) _
      refine XS.iloadN X0.here hx rfl (hb hby d4_7) rfl  ?_
      show Steps p.tables e below (s₁.setTop (mkF m 8 #[.val (.int p0), .val (.int v1_2)] [(.int v1_2)])) _
      refine XS.sipush X0.here hx rfl (hb hby d4_8) ?_
      show Steps p.tables e below (s₁.setTop (mkF m 11 #[.val (.int p0), .val (.int v1_2)] [(.int (256 : Int32)), (.int v1_2)])) _
      refine XS.iadd X0.here hx rfl (hb hby d4_11) rfl ?_
      show Steps p.tables e below (s₁.setTop (mkF m 12 #[.val (.int p0), .val (.int v1_2)] [(.int (v1_2 + (256 : Int32)))])) _
      refine XS.istoreN X0.here hx rfl (hb hby d4_12) rfl (l' := #[.val (.int p0), .val (.int (v1_2 + (256 : Int32)))]) rfl ?_
      have qm1_13 : m1_13 = (v1_2 + (256 : Int32)) := by rw [hm1_13, if_pos hc4]
      rw [qm1_13] at k
      exact k
    · show Steps p.tables e below (s₁.setTop (mkF m 4 #[.val (.int p0), .val (.int v1_2)] [(.int v1_2)])) _
      refine XS.ifYes X0.here hx rfl (pc0 := 4) (pc' := 13) rfl (hb hby d4_4) rfl ((if0 _ _).trans (flt hc4).2.1) (by decide) (by decide) ?_
      have qm1_13 : m1_13 = v1_2 := by rw [hm1_13, if_neg hc4]
      rw [qm1_13] at k
      exact k
  obtain ⟨fs, hr, hrun, hended, hW, hsame⟩ := X0.leave (v := some (.int m1_13)) (fun h => by rw [Bd.returns] at h; cases h)
  refine ⟨_, _, pre2 _ ?_, hrun, hended, _, _, rfl, ?_, ⟨_, rfl⟩, hW, hsame.mono (by decide) (by decide)⟩
  · show Steps p.tables e below (s₁.setTop (mkF m 13 #[.val (.int p0), .val (.int m1_13)] [])) _
    refine XS.iloadN X0.here hx rfl (hb hby d4_13) rfl  ?_
    show Steps p.tables e below (s₁.setTop (mkF m 14 #[.val (.int p0), .val (.int m1_13)] [(.int m1_13)])) _
    exact retI X0 hx Bd.returns (hb hby d4_14) hr
  · show Q_4 Z p0 h0 n0 _ s₁.heap _
    rw [e0]
    exact ⟨congrArg (fun z => some (Value.int z)) (by subst hv1_2 hm1_13; rfl : m1_13 = f_4 p0), N0, rfl⟩
theorem pd_0 : parseMethodDescriptor "([B)V" = some ⟨[(.array .byte)], none⟩ := by decide +kernel
theorem pd_1 : parseMethodDescriptor "()I" = some ⟨[], some .int⟩ := by decide +kernel
theorem pd_2 : parseMethodDescriptor "(I)I" = some ⟨[.int], some .int⟩ := by decide +kernel
theorem pn_0 : plainName "com/example/cardwire/cardwire/core/ResponseApduStatusWordPinLaw" = true := by first | (simp [plainName, overriddenIn]; done) | decide +kernel
theorem ef_0 (m : MethodId) (p0 : Int32) (p1 : Int32) (p2 : Int32) (p3 : Int32) (p4 : Int32) (p5 : Int32) : entryFrame m #[(.int p0), (.int p1), (.int p2), (.int p3), (.int p4), (.int p5)] maxLocals = mkF m 0 #[.val (.int p0), .val (.int p1), .val (.int p2), .val (.int p3), .val (.int p4), .val (.int p5), .unset, .unset, .unset, .unset, .unset] [] := by first | (simp [entryFrame, mkF, argsToLocals, Value.category, maxLocals]; done) | rfl
def f_0 (p0 : Int32) (p1 : Int32) (p2 : Int32) (p3 : Int32) (p4 : Int32) (p5 : Int32) : Int32 := let v6_3 : Int32 := (p0 &&& (3 : Int32)); (if v6_3 = (0 : Int32) then let g_17 : Nat → Int32 := (own_upd own_zI 0 (p3.toInt8.toInt32).toInt8.toInt32); let g_23 : Nat → Int32 := (own_upd g_17 1 (p4.toInt8.toInt32).toInt8.toInt32); let v9_142 : Int32 := (f_3t2 g_23); let v10_158 : Int32 := (((f_4 p3) * (256 : Int32)) + (f_4 p4)); let ms0_184 : Int32 := (if v9_142 = v10_158 then (if v9_142 < (0 : Int32) then (0 : Int32) else (if (65535 : Int32) < v9_142 then (0 : Int32) else (1 : Int32))) else (0 : Int32)); ms0_184 else (if v6_3 = (1 : Int32) then let g_42 : Nat → Int32 := (own_upd own_zI 0 (p1.toInt8.toInt32).toInt8.toInt32); let g_47 : Nat → Int32 := (own_upd g_42 1 (p3.toInt8.toInt32).toInt8.toInt32); let g_53 : Nat → Int32 := (own_upd g_47 2 (p4.toInt8.toInt32).toInt8.toInt32); let v9_142 : Int32 := (f_3t3 g_53); let v10_158 : Int32 := (((f_4 p3) * (256 : Int32)) + (f_4 p4)); let ms0_184 : Int32 := (if v9_142 = v10_158 then (if v9_142 < (0 : Int32) then (0 : Int32) else (if (65535 : Int32) < v9_142 then (0 : Int32) else (1 : Int32))) else (0 : Int32)); ms0_184 else (if v6_3 = (2 : Int32) then let g_72 : Nat → Int32 := (own_upd own_zI 0 (p1.toInt8.toInt32).toInt8.toInt32); let g_77 : Nat → Int32 := (own_upd g_72 1 (p2.toInt8.toInt32).toInt8.toInt32); let g_82 : Nat → Int32 := (own_upd g_77 2 (p3.toInt8.toInt32).toInt8.toInt32); let g_88 : Nat → Int32 := (own_upd g_82 3 (p4.toInt8.toInt32).toInt8.toInt32); let v9_142 : Int32 := (f_3t4 g_88); let v10_158 : Int32 := (((f_4 p3) * (256 : Int32)) + (f_4 p4)); let ms0_184 : Int32 := (if v9_142 = v10_158 then (if v9_142 < (0 : Int32) then (0 : Int32) else (if (65535 : Int32) < v9_142 then (0 : Int32) else (1 : Int32))) else (0 : Int32)); ms0_184 else let g_101 : Nat → Int32 := (own_upd own_zI 0 (p1.toInt8.toInt32).toInt8.toInt32); let g_106 : Nat → Int32 := (own_upd g_101 1 (p2.toInt8.toInt32).toInt8.toInt32); let g_112 : Nat → Int32 := (own_upd g_106 2 (p5.toInt8.toInt32).toInt8.toInt32); let g_117 : Nat → Int32 := (own_upd g_112 3 (p3.toInt8.toInt32).toInt8.toInt32); let g_123 : Nat → Int32 := (own_upd g_117 4 (p4.toInt8.toInt32).toInt8.toInt32); let v9_142 : Int32 := (f_3t5 g_123); let v10_158 : Int32 := (((f_4 p3) * (256 : Int32)) + (f_4 p4)); let ms0_184 : Int32 := (if v9_142 = v10_158 then (if v9_142 < (0 : Int32) then (0 : Int32) else (if (65535 : Int32) < v9_142 then (0 : Int32) else (1 : Int32))) else (0 : Int32)); ms0_184)))
def Q_0 (Z : State) (p0 : Int32) (p1 : Int32) (p2 : Int32) (p3 : Int32) (p4 : Int32) (p5 : Int32)  (h0 : Heap) (n0 : Nat) (v : Option Value) (h : Heap) (L : List Loc) : Prop := v = some (.int (f_0 p0 p1 p2 p3 p4 p5)) ∧ Fr n0 L ∧ True
set_option maxRecDepth 65536 in
set_option maxHeartbeats 40000000 in
theorem rm_0 (l : Launch) (Z : State) (a0 : Array Value) (hw : ∀ d ∈ tables_1, d.before a0 Z = true) (ws : List Jvm.Cond) (p0 : Int32) (p1 : Int32) (p2 : Int32) (p3 : Int32) (p4 : Int32) (p5 : Int32)  (h0 : Heap) (n0 : Nat) (Z0 : n0 ≤ h0.size)  :
    MetFree l x (head1 (Jvm.Cond.code x code maxLocals ret :: ws) room_1) (fun a U => a = #[(.int p0), (.int p1), (.int p2), (.int p3), (.int p4), (.int p5)] ∧ Z.Warmed39 U.vm ∧ U.heap = h0) (fun _ _ _ _ _ => True) (fun _ U o U' => ∃ v L, o = .returned v ∧ Q_0 Z p0 p1 p2 p3 p4 p5 h0 n0 v U'.heap L ∧ FrameEnd U o U' L 3 11) := by
  refine MetFree.of_bodySF (plainFor_of_name pn_0) hisR ?_
  intro p e s m args below meth c s₁ Bd hml0 hP hK
  obtain ⟨rfl, hZ, hh⟩ := hP
  have hx := Bd.exec
  have hby := Bd.bytes
  have hml : c.maxLocals = 11 := hml0
  have hown : s.vm.findClass "com/example/cardwire/cardwire/core/ResponseApduStatusWordPinLaw" = some m.cls := findClass_of_methodNamed Bd.named
  have hnm := (name_of_methodNamed Bd.named Bd.method).1
  have X0 : Stand p l e room_1 s m #[(.int p0), (.int p1), (.int p2), (.int p3), (.int p4), (.int p5)] below meth c s₁ [] 0 0 := Stand.of_body Bd
  have e0 : s₁.heap = h0 := by rw [← hh, Bd.state]; rfl
  have N0 := Fr.nil n0
  have K0 : Keep h0 h0 [] := Keep.refl h0 _
  have pre0 : ∀ t, Steps p.tables e below (s₁.setTop (mkF m 0 #[.val (.int p0), .val (.int p1), .val (.int p2), .val (.int p3), .val (.int p4), .val (.int p5), .unset, .unset, .unset, .unset, .unset] [])) t → Steps p.tables e below (s₁.setTop (entryFrame m #[(.int p0), (.int p1), (.int p2), (.int p3), (.int p4), (.int p5)] maxLocals)) t := fun t k => castTop (ef_0 m p0 p1 p2 p3 p4 p5) k
  obtain ⟨v6_3, hv6_3⟩ : ∃ z : Int32, z = (p0 &&& (3 : Int32)) := ⟨_, rfl⟩
  have pre1 : ∀ t, Steps p.tables e below (s₁.setTop (mkF m 7 #[.val (.int p0), .val (.int p1), .val (.int p2), .val (.int p3), .val (.int p4), .val (.int p5), .val (.int v6_3), .unset, .unset, .unset, .unset] [(.int v6_3)])) t → Steps p.tables e below (s₁.setTop (entryFrame m #[(.int p0), (.int p1), (.int p2), (.int p3), (.int p4), (.int p5)] maxLocals)) t := by
    intro t k
    refine pre0 t ?_
    show Steps p.tables e below (s₁.setTop (mkF m 0 #[.val (.int p0), .val (.int p1), .val (.int p2), .val (.int p3), .val (.int p4), .val (.int p5), .unset, .unset, .unset, .unset, .unset] [])) _
    refine XS.iloadN X0.here hx rfl (hb hby at_0) rfl  ?_
    show Steps p.tables e below (s₁.setTop (mkF m 1 #[.val (.int p0), .val (.int p1), .val (.int p2), .val (.int p3), .val (.int p4), .val (.int p5), .unset, .unset, .unset, .unset, .unset] [(.int p0)])) _
    refine XS.iconst X0.here hx rfl (hb hby at_1) ?_
    show Steps p.tables e below (s₁.setTop (mkF m 2 #[.val (.int p0), .val (.int p1), .val (.int p2), .val (.int p3), .val (.int p4), .val (.int p5), .unset, .unset, .unset, .unset, .unset] [(.int (3 : Int32)), (.int p0)])) _
    refine XS.iand X0.here hx rfl (hb hby at_2) rfl ?_
    show Steps p.tables e below (s₁.setTop (mkF m 3 #[.val (.int p0), .val (.int p1), .val (.int p2), .val (.int p3), .val (.int p4), .val (.int p5), .unset, .unset, .unset, .unset, .unset] [(.int (p0 &&& (3 : Int32)))])) _
    refine XS.istore X0.here hx rfl (hb hby at_3) rfl (l' := #[.val (.int p0), .val (.int p1), .val (.int p2), .val (.int p3), .val (.int p4), .val (.int p5), .val (.int v6_3), .unset, .unset, .unset, .unset]) (by rw [hv6_3]; rfl) ?_
    show Steps p.tables e below (s₁.setTop (mkF m 5 #[.val (.int p0), .val (.int p1), .val (.int p2), .val (.int p3), .val (.int p4), .val (.int p5), .val (.int v6_3), .unset, .unset, .unset, .unset] [])) _
    refine XS.iload X0.here hx rfl (hb hby at_5) rfl  ?_
    exact k
  by_cases hc7 : v6_3 = (0 : Int32)
  · have pre2 : ∀ t, Steps p.tables e below (s₁.setTop (mkF m 11 #[.val (.int p0), .val (.int p1), .val (.int p2), .val (.int p3), .val (.int p4), .val (.int p5), .val (.int v6_3), .unset, .unset, .unset, .unset] [(.int (2 : Int32))])) t → Steps p.tables e below (s₁.setTop (entryFrame m #[(.int p0), (.int p1), (.int p2), (.int p3), (.int p4), (.int p5)] maxLocals)) t := by
      intro t k
      refine pre1 t ?_
      show Steps p.tables e below (s₁.setTop (mkF m 7 #[.val (.int p0), .val (.int p1), .val (.int p2), .val (.int p3), .val (.int p4), .val (.int p5), .val (.int v6_3), .unset, .unset, .unset, .unset] [(.int v6_3)])) _
      refine XS.ifNo X0.here hx rfl (hb hby at_7) rfl ((if0 _ _).trans (teq hc7).2) ?_
      show Steps p.tables e below (s₁.setTop (mkF m 10 #[.val (.int p0), .val (.int p1), .val (.int p2), .val (.int p3), .val (.int p4), .val (.int p5), .val (.int v6_3), .unset, .unset, .unset, .unset] [])) _
      refine XS.iconst X0.here hx rfl (hb hby at_10) ?_
      exact k
    obtain ⟨T3, h3, b3, gb3, X3, e3, E3, A3, B3, st3⟩ := own_newPE X0 hx hZ (hw _ (List.mem_of_getElem? (i := 0) rfl)) e0 (g := (mkF m 11 #[.val (.int p0), .val (.int p1), .val (.int p2), .val (.int p3), .val (.int p4), .val (.int p5), .val (.int v6_3), .unset, .unset, .unset, .unset] [(.int (2 : Int32))])) rfl (hb hby at_11) rfl (by decide) (n := 2) rfl (G := fun i => .int (own_zI i)) (fun _ => rfl) (cap := 2) (by decide) (by decide) (by decide) (by decide) (ad := "[B") (by decide)
    have sz_b3 : h0.size ≤ b3 := Nat.le_trans K0.1 (Nat.le_of_eq gb3.symm)
    have ge_b3 : n0 ≤ b3 := Nat.le_trans Z0 (Nat.le_of_eq gb3.symm)
    have K3 := K0.ext E3
    have Z3 := Nat.le_trans Z0 E3.1
    have pre4 : ∀ t, Steps p.tables e below (T3.setTop (mkF m 17 #[.val (.int p0), .val (.int p1), .val (.int p2), .val (.int p3), .val (.int p4), .val (.int p5), .val (.int v6_3), .unset, .unset, .unset, .unset] [(.int (p3.toInt8.toInt32)), (.int (0 : Int32)), (.ref b3), (.ref b3)])) t → Steps p.tables e below (s₁.setTop (entryFrame m #[(.int p0), (.int p1), (.int p2), (.int p3), (.int p4), (.int p5)] maxLocals)) t := by
      intro t k
      refine pre2 t ?_
      show Steps p.tables e below (s₁.setTop (mkF m 11 #[.val (.int p0), .val (.int p1), .val (.int p2), .val (.int p3), .val (.int p4), .val (.int p5), .val (.int v6_3), .unset, .unset, .unset, .unset] [(.int (2 : Int32))])) _
      refine st3 _ ?_
      show Steps p.tables e below (T3.setTop (mkF m 13 #[.val (.int p0), .val (.int p1), .val (.int p2), .val (.int p3), .val (.int p4), .val (.int p5), .val (.int v6_3), .unset, .unset, .unset, .unset] [(.ref b3)])) _
      refine XS.dup X3.here hx rfl (hb hby at_13) rfl rfl ?_
      show Steps p.tables e below (T3.setTop (mkF m 14 #[.val (.int p0), .val (.int p1), .val (.int p2), .val (.int p3), .val (.int p4), .val (.int p5), .val (.int v6_3), .unset, .unset, .unset, .unset] [(.ref b3), (.ref b3)])) _
      refine XS.iconst X3.here hx rfl (hb hby at_14) ?_
      show Steps p.tables e below (T3.setTop (mkF m 15 #[.val (.int p0), .val (.int p1), .val (.int p2), .val (.int p3), .val (.int p4), .val (.int p5), .val (.int v6_3), .unset, .unset, .unset, .unset] [(.int (0 : Int32)), (.ref b3), (.ref b3)])) _
      refine XS.iloadN X3.here hx rfl (hb hby at_15) rfl  ?_
      show Steps p.tables e below (T3.setTop (mkF m 16 #[.val (.int p0), .val (.int p1), .val (.int p2), .val (.int p3), .val (.int p4), .val (.int p5), .val (.int v6_3), .unset, .unset, .unset, .unset] [(.int p3), (.int (0 : Int32)), (.ref b3), (.ref b3)])) _
      refine XS.i2b X3.here hx rfl (hb hby at_16) rfl ?_
      exact k
    obtain ⟨T5, h5, X5, e5, W5, A5, st5⟩ := own_stB X3 hx hZ e3 A3 (j := (0 : Int32)) (x := (p3.toInt8.toInt32)) (k := 0) (by decide) (by decide) (by decide) (g := (mkF m 17 #[.val (.int p0), .val (.int p1), .val (.int p2), .val (.int p3), .val (.int p4), .val (.int p5), .val (.int v6_3), .unset, .unset, .unset, .unset] [(.int (p3.toInt8.toInt32)), (.int (0 : Int32)), (.ref b3), (.ref b3)])) rfl rfl (hb hby at_17)
    obtain ⟨g_17, hg_17⟩ : ∃ z : Nat → Int32, z = (own_upd own_zI 0 (p3.toInt8.toInt32).toInt8.toInt32) := ⟨_, rfl⟩
    rw [← hg_17] at A5
    have exa_b3_5 := B3.wr W5
    have K5 := K3.wr W5 (Or.inr sz_b3)
    have Z5 := Nat.le_trans Z3 (Nat.le_of_eq W5.size.symm)
    have N5 := Fr.snoc X5 N0 ge_b3
    have pre6 : ∀ t, Steps p.tables e below (T5.setTop (mkF m 23 #[.val (.int p0), .val (.int p1), .val (.int p2), .val (.int p3), .val (.int p4), .val (.int p5), .val (.int v6_3), .unset, .unset, .unset, .unset] [(.int (p4.toInt8.toInt32)), (.int (1 : Int32)), (.ref b3), (.ref b3)])) t → Steps p.tables e below (s₁.setTop (entryFrame m #[(.int p0), (.int p1), (.int p2), (.int p3), (.int p4), (.int p5)] maxLocals)) t := by
      intro t k
      refine pre4 t ?_
      show Steps p.tables e below (T3.setTop (mkF m 17 #[.val (.int p0), .val (.int p1), .val (.int p2), .val (.int p3), .val (.int p4), .val (.int p5), .val (.int v6_3), .unset, .unset, .unset, .unset] [(.int (p3.toInt8.toInt32)), (.int (0 : Int32)), (.ref b3), (.ref b3)])) _
      refine st5 _ ?_
      show Steps p.tables e below (T5.setTop (mkF m 18 #[.val (.int p0), .val (.int p1), .val (.int p2), .val (.int p3), .val (.int p4), .val (.int p5), .val (.int v6_3), .unset, .unset, .unset, .unset] [(.ref b3)])) _
      refine XS.dup X5.here hx rfl (hb hby at_18) rfl rfl ?_
      show Steps p.tables e below (T5.setTop (mkF m 19 #[.val (.int p0), .val (.int p1), .val (.int p2), .val (.int p3), .val (.int p4), .val (.int p5), .val (.int v6_3), .unset, .unset, .unset, .unset] [(.ref b3), (.ref b3)])) _
      refine XS.iconst X5.here hx rfl (hb hby at_19) ?_
      show Steps p.tables e below (T5.setTop (mkF m 20 #[.val (.int p0), .val (.int p1), .val (.int p2), .val (.int p3), .val (.int p4), .val (.int p5), .val (.int v6_3), .unset, .unset, .unset, .unset] [(.int (1 : Int32)), (.ref b3), (.ref b3)])) _
      refine XS.iload X5.here hx rfl (hb hby at_20) rfl  ?_
      show Steps p.tables e below (T5.setTop (mkF m 22 #[.val (.int p0), .val (.int p1), .val (.int p2), .val (.int p3), .val (.int p4), .val (.int p5), .val (.int v6_3), .unset, .unset, .unset, .unset] [(.int p4), (.int (1 : Int32)), (.ref b3), (.ref b3)])) _
      refine XS.i2b X5.here hx rfl (hb hby at_22) rfl ?_
      exact k
    obtain ⟨T7, h7, X7, e7, W7, A7, st7⟩ := own_stB X5 hx hZ e5 A5 (j := (1 : Int32)) (x := (p4.toInt8.toInt32)) (k := 1) (by decide) (by decide) (by decide) (g := (mkF m 23 #[.val (.int p0), .val (.int p1), .val (.int p2), .val (.int p3), .val (.int p4), .val (.int p5), .val (.int v6_3), .unset, .unset, .unset, .unset] [(.int (p4.toInt8.toInt32)), (.int (1 : Int32)), (.ref b3), (.ref b3)])) rfl rfl (hb hby at_23)
    obtain ⟨g_23, hg_23⟩ : ∃ z : Nat → Int32, z = (own_upd g_17 1 (p4.toInt8.toInt32).toInt8.toInt32) := ⟨_, rfl⟩
    rw [← hg_23] at A7
    have exa_b3_7 := exa_b3_5.wr W7
    have K7 := K5.wr W7 (Or.inr sz_b3)
    have Z7 := Nat.le_trans Z5 (Nat.le_of_eq W7.size.symm)
    have N7 := Fr.snoc X7 N5 ge_b3
    have pre8 : ∀ t, Steps p.tables e below (T7.setTop (mkF m 126 #[.val (.int p0), .val (.int p1), .val (.int p2), .val (.int p3), .val (.int p4), .val (.int p5), .val (.int v6_3), .val (.ref b3), .unset, .unset, .unset] [])) t → Steps p.tables e below (s₁.setTop (entryFrame m #[(.int p0), (.int p1), (.int p2), (.int p3), (.int p4), (.int p5)] maxLocals)) t := by
      intro t k
      refine pre6 t ?_
      show Steps p.tables e below (T5.setTop (mkF m 23 #[.val (.int p0), .val (.int p1), .val (.int p2), .val (.int p3), .val (.int p4), .val (.int p5), .val (.int v6_3), .unset, .unset, .unset, .unset] [(.int (p4.toInt8.toInt32)), (.int (1 : Int32)), (.ref b3), (.ref b3)])) _
      refine st7 _ ?_
      show Steps p.tables e below (T7.setTop (mkF m 24 #[.val (.int p0), .val (.int p1), .val (.int p2), .val (.int p3), .val (.int p4), .val (.int p5), .val (.int v6_3), .unset, .unset, .unset, .unset] [(.ref b3)])) _
      refine XS.astore X7.here hx rfl (hb hby at_24) rfl rfl (l' := #[.val (.int p0), .val (.int p1), .val (.int p2), .val (.int p3), .val (.int p4), .val (.int p5), .val (.int v6_3), .val (.ref b3), .unset, .unset, .unset]) rfl ?_
      show Steps p.tables e below (T7.setTop (mkF m 26 #[.val (.int p0), .val (.int p1), .val (.int p2), .val (.int p3), .val (.int p4), .val (.int p5), .val (.int v6_3), .val (.ref b3), .unset, .unset, .unset] [])) _
      refine XS.goto X7.here hx rfl (pc0 := 26) (pc' := 126) rfl (hb hby at_26) (by decide) (by decide) ?_
      exact k
    obtain ⟨T9, h9, X9, e9, E9, A9, D9, -, st9⟩ := newO X7 hx hZ hown (hw _ (List.mem_of_getElem? (i := 1) rfl)) (hw _ (List.mem_of_getElem? (i := 2) rfl)) (hw _ (List.mem_of_getElem? (i := 3) rfl)) e7 (g := (mkF m 126 #[.val (.int p0), .val (.int p1), .val (.int p2), .val (.int p3), .val (.int p4), .val (.int p5), .val (.int v6_3), .val (.ref b3), .unset, .unset, .unset] [])) rfl (hb hby at_126) (by decide) (by decide)
    obtain ⟨b9, gb9⟩ : ∃ z, z = h7.size := ⟨_, rfl⟩
    rw [← gb9] at A9 D9 st9
    have ne_b3_b9 : b3 ≠ b9 := Nat.ne_of_lt (Nat.lt_of_lt_of_le A7.lt (Nat.le_of_eq gb9.symm))
    have sz_b9 : h0.size ≤ b9 := Nat.le_trans K7.1 (Nat.le_of_eq gb9.symm)
    have ge_b9 : n0 ≤ b9 := Nat.le_trans Z7 (Nat.le_of_eq gb9.symm)
    have arr_b3_9 := A7.ext E9
    have exa_b3_9 := exa_b3_7.ext E9
    have K9 := K7.ext E9
    have Z9 := Nat.le_trans Z7 E9.1
    have F9_bytes : Fld Z h9 b9 "com/example/cardwire/cardwire/core/ResponseApdu" "bytes" "[B" .null := D9 (Or.inr (hw _ (List.mem_of_getElem? (i := 20) rfl))) (ty := (.array .byte)) (by decide)
    have pre11 : ∀ t, Steps p.tables e below (T9.setTop (mkF m 132 #[.val (.int p0), .val (.int p1), .val (.int p2), .val (.int p3), .val (.int p4), .val (.int p5), .val (.int v6_3), .val (.ref b3), .unset, .unset, .unset] [(.ref b3), (.ref b9), (.ref b9)])) t → Steps p.tables e below (s₁.setTop (entryFrame m #[(.int p0), (.int p1), (.int p2), (.int p3), (.int p4), (.int p5)] maxLocals)) t := by
      intro t k
      refine pre8 t ?_
      show Steps p.tables e below (T7.setTop (mkF m 126 #[.val (.int p0), .val (.int p1), .val (.int p2), .val (.int p3), .val (.int p4), .val (.int p5), .val (.int v6_3), .val (.ref b3), .unset, .unset, .unset] [])) _
      refine st9 _ ?_
      show Steps p.tables e below (T9.setTop (mkF m 129 #[.val (.int p0), .val (.int p1), .val (.int p2), .val (.int p3), .val (.int p4), .val (.int p5), .val (.int v6_3), .val (.ref b3), .unset, .unset, .unset] [(.ref b9)])) _
      refine XS.dup X9.here hx rfl (hb hby at_129) rfl rfl ?_
      show Steps p.tables e below (T9.setTop (mkF m 130 #[.val (.int p0), .val (.int p1), .val (.int p2), .val (.int p3), .val (.int p4), .val (.int p5), .val (.int v6_3), .val (.ref b3), .unset, .unset, .unset] [(.ref b9), (.ref b9)])) _
      refine XS.aload X9.here hx rfl (hb hby at_130) rfl rfl ?_
      exact k
    obtain ⟨_, _, ⟨T10, L10, k10, n10⟩, -, X10, ⟨Lc10, hQ10, l10, y10, z10⟩, st10⟩ := X9.specialBack hx (y := (⟨"com/example/cardwire/cardwire/core/ResponseApdu", "<init>", "([B)V"⟩ : MethodName)) rfl hown (mvT hZ (hw _ (List.mem_of_getElem? (i := 4) rfl))) (mvT hZ (hw _ (List.mem_of_getElem? (i := 5) rfl))) (mvT hZ (hw _ (List.mem_of_getElem? (i := 6) rfl))) (by decide) (backOf (W := 1) (rm_1t2 l Z a0 hw [] b9 b3 g_23 h9 n0 Z9 A9 F9_bytes ge_b9 arr_b3_9 exa_b3_9 ne_b3_b9.symm) hZ (hw _ (List.mem_of_getElem? (i := 6) rfl)) (hw _ (List.mem_of_getElem? (i := 3) rfl)) (by decide) (by decide)) (g := (mkF m 132 #[.val (.int p0), .val (.int p1), .val (.int p2), .val (.int p3), .val (.int p4), .val (.int p5), .val (.int v6_3), .val (.ref b3), .unset, .unset, .unset] [(.ref b3), (.ref b9), (.ref b9)])) rfl (by rw [hml]; rfl) (Steps.refl _) (a := b9) (argsL := [(.ref b3)]) (rest := [(.ref b9)]) (lenOf pd_0 rfl) rfl (by show 2 * 0 + _ ≤ _; exact Nat.le_of_eq rfl) (hb hby at_132) (fun _ _ => ⟨rfl, e9, (by decide : 2 + 1 ≤ _), (by decide : 3 + 2 ≤ _)⟩)
    dsimp only [Pt.U, Pt.locs, Pt.cells, Pt.slots] at X10 l10 y10 z10 st10 hQ10
    subst l10 y10 z10
    obtain ⟨w_10, rfl, N10q, sz0_w_10, Kc10, Q10_0, Q10_1, Q10_2⟩ := hQ10
    have Kd10 : Keep h9 T10.heap [b9] := Kc10
    have ne_b3_w_10 : b3 ≠ w_10 := Nat.ne_of_lt (Nat.lt_of_lt_of_le arr_b3_9.lt sz0_w_10)
    have ne_b9_w_10 : b9 ≠ w_10 := Nat.ne_of_lt (Nat.lt_of_lt_of_le A9.lt sz0_w_10)
    have sz_w_10 : h0.size ≤ w_10 := Nat.le_trans K9.1 sz0_w_10
    have ge_w_10 : n0 ≤ w_10 := Nat.le_trans Z9 sz0_w_10
    have arr_b3_10 := arr_b3_9.keep Kd10 (ninS ne_b3_b9 nin0)
    have exa_b3_10 := exa_b3_9.keep Kd10
    have exa_b9_10 := A9.keep Kd10
    have K10 := K9.trans Kd10 (allS (Or.inr sz_b9) all0)
    have Z10 := Nat.le_trans Z9 Kd10.1
    have N10 := Fr.app N7 N10q
    have pre13 : ∀ t, Steps p.tables e below (T10.setTop (mkF m 139 #[.val (.int p0), .val (.int p1), .val (.int p2), .val (.int p3), .val (.int p4), .val (.int p5), .val (.int v6_3), .val (.ref b3), .val (.ref b9), .unset, .unset] [(.ref b9)])) t → Steps p.tables e below (s₁.setTop (entryFrame m #[(.int p0), (.int p1), (.int p2), (.int p3), (.int p4), (.int p5)] maxLocals)) t := by
      intro t k
      refine pre11 t ?_
      show Steps p.tables e below (T9.setTop (mkF m 132 #[.val (.int p0), .val (.int p1), .val (.int p2), .val (.int p3), .val (.int p4), .val (.int p5), .val (.int v6_3), .val (.ref b3), .unset, .unset, .unset] [(.ref b3), (.ref b9), (.ref b9)])) _
      refine st10.trans ?_
      show Steps p.tables e below (T10.setTop (mkF m 135 #[.val (.int p0), .val (.int p1), .val (.int p2), .val (.int p3), .val (.int p4), .val (.int p5), .val (.int v6_3), .val (.ref b3), .unset, .unset, .unset] [(.ref b9)])) _
      refine XS.astore X10.here hx rfl (hb hby at_135) rfl rfl (l' := #[.val (.int p0), .val (.int p1), .val (.int p2), .val (.int p3), .val (.int p4), .val (.int p5), .val (.int v6_3), .val (.ref b3), .val (.ref b9), .unset, .unset]) rfl ?_
      show Steps p.tables e below (T10.setTop (mkF m 137 #[.val (.int p0), .val (.int p1), .val (.int p2), .val (.int p3), .val (.int p4), .val (.int p5), .val (.int v6_3), .val (.ref b3), .val (.ref b9), .unset, .unset] [])) _
      refine XS.aload X10.here hx rfl (hb hby at_137) rfl rfl ?_
      exact k
    obtain ⟨cq12, kq12, q12a, q12b, q12c⟩ := isOf hZ rfl Q10_0
    obtain ⟨_, _, ⟨T12, L12, k12, n12⟩, -, X12, ⟨Lc12, hQ12, l12, y12, z12⟩, st12⟩ := X10.virtualBack hx (y := (⟨"com/example/cardwire/cardwire/core/ResponseApdu", "statusWord", "()I"⟩ : MethodName)) (z := (⟨"com/example/cardwire/cardwire/core/ResponseApdu", "statusWord", "()I"⟩ : MethodName)) hown (mvT hZ (hw _ (List.mem_of_getElem? (i := 21) rfl))) (mvT hZ (hw _ (List.mem_of_getElem? (i := 22) rfl))) (notFace_of_selects (args := #[]) (mvT hZ (hw _ (List.mem_of_getElem? (i := 24) rfl)))) (mvT hZ (hw _ (List.mem_of_getElem? (i := 24) rfl))) (mvT hZ (hw _ (List.mem_of_getElem? (i := 23) rfl))) (by decide) (backOf (W := 0) (rm_3t2 l Z a0 hw [] b9 w_10 g_23 T10.heap n0 Z10 Q10_1 Q10_2) hZ (hw _ (List.mem_of_getElem? (i := 25) rfl)) (hw _ (List.mem_of_getElem? (i := 3) rfl)) (by decide) (by decide)) q12a q12c (g := (mkF m 139 #[.val (.int p0), .val (.int p1), .val (.int p2), .val (.int p3), .val (.int p4), .val (.int p5), .val (.int v6_3), .val (.ref b3), .val (.ref b9), .unset, .unset] [(.ref b9)])) rfl (by rw [hml]; rfl) (Steps.refl _) (argsL := []) (rest := []) (lenOf pd_1 rfl) rfl (by show 2 * 0 + _ ≤ _; exact Nat.le_of_eq rfl) (hb hby at_139) (fun _ _ => ⟨rfl, rfl, (by decide : 3 + 0 ≤ _), (by decide : 5 + 0 ≤ _)⟩)
    dsimp only [Pt.U, Pt.locs, Pt.cells, Pt.slots] at X12 l12 y12 z12 st12 hQ12
    subst l12 y12 z12
    obtain ⟨rfl, N12q, e12⟩ := hQ12
    have N12 := Fr.app N10 N12q
    obtain ⟨v9_142, hv9_142⟩ : ∃ z : Int32, z = (f_3t2 g_23) := ⟨_, rfl⟩
    have pre15 : ∀ t, Steps p.tables e below (T12.setTop (mkF m 145 #[.val (.int p0), .val (.int p1), .val (.int p2), .val (.int p3), .val (.int p4), .val (.int p5), .val (.int v6_3), .val (.ref b3), .val (.ref b9), .val (.int v9_142), .unset] [(.int p3)])) t → Steps p.tables e below (s₁.setTop (entryFrame m #[(.int p0), (.int p1), (.int p2), (.int p3), (.int p4), (.int p5)] maxLocals)) t := by
      intro t k
      refine pre13 t ?_
      show Steps p.tables e below (T10.setTop (mkF m 139 #[.val (.int p0), .val (.int p1), .val (.int p2), .val (.int p3), .val (.int p4), .val (.int p5), .val (.int v6_3), .val (.ref b3), .val (.ref b9), .unset, .unset] [(.ref b9)])) _
      refine st12.trans ?_
      show Steps p.tables e below (T12.setTop (mkF m 142 #[.val (.int p0), .val (.int p1), .val (.int p2), .val (.int p3), .val (.int p4), .val (.int p5), .val (.int v6_3), .val (.ref b3), .val (.ref b9), .unset, .unset] [(.int (f_3t2 g_23))])) _
      refine XS.istore X12.here hx rfl (hb hby at_142) rfl (l' := #[.val (.int p0), .val (.int p1), .val (.int p2), .val (.int p3), .val (.int p4), .val (.int p5), .val (.int v6_3), .val (.ref b3), .val (.ref b9), .val (.int v9_142), .unset]) (by rw [hv9_142]; rfl) ?_
      show Steps p.tables e below (T12.setTop (mkF m 144 #[.val (.int p0), .val (.int p1), .val (.int p2), .val (.int p3), .val (.int p4), .val (.int p5), .val (.int v6_3), .val (.ref b3), .val (.ref b9), .val (.int v9_142), .unset] [])) _
      refine XS.iloadN X12.here hx rfl (hb hby at_144) rfl  ?_
      exact k
    obtain ⟨_, _, ⟨T14, L14, k14, n14⟩, -, X14, ⟨Lc14, hQ14, l14, y14, z14⟩, st14⟩ := Jvm.LawKit.callS X12 hx (y := (⟨"com/example/cardwire/cardwire/core/ResponseApduStatusWordPinLaw", "unsigned", "(I)I"⟩ : MethodName)) hown (mvT hZ (hw _ (List.mem_of_getElem? (i := 26) rfl))) (mvT hZ (hw _ (List.mem_of_getElem? (i := 27) rfl))) (mvT hZ (hw _ (List.mem_of_getElem? (i := 28) rfl))) (mvT hZ (hw _ (List.mem_of_getElem? (i := 29) rfl))) (by decide) (backOf (W := 0) (rm_4 l Z a0 hw [] p3 T10.heap n0 Z10 ) hZ (hw _ (List.mem_of_getElem? (i := 29) rfl)) (hw _ (List.mem_of_getElem? (i := 28) rfl)) (by decide) (by decide)) (g := (mkF m 145 #[.val (.int p0), .val (.int p1), .val (.int p2), .val (.int p3), .val (.int p4), .val (.int p5), .val (.int v6_3), .val (.ref b3), .val (.ref b9), .val (.int v9_142), .unset] [(.int p3)])) rfl (by rw [hml]; rfl) (argsL := [(.int p3)]) (rest := []) (lenOf pd_2 rfl) rfl (by show 2 * 0 + _ ≤ _; exact Nat.le_of_eq rfl) (hb hby at_145) (fun _ _ => ⟨rfl, e12, (by decide : 3 + 0 ≤ _), (by decide : 5 + 0 ≤ _)⟩)
    dsimp only [Pt.U, Pt.locs, Pt.cells, Pt.slots] at X14 l14 y14 z14 st14 hQ14
    subst l14 y14 z14
    obtain ⟨rfl, N14q, e14⟩ := hQ14
    have N14 := Fr.app N12 N14q
    have pre17 : ∀ t, Steps p.tables e below (T14.setTop (mkF m 154 #[.val (.int p0), .val (.int p1), .val (.int p2), .val (.int p3), .val (.int p4), .val (.int p5), .val (.int v6_3), .val (.ref b3), .val (.ref b9), .val (.int v9_142), .unset] [(.int p4), (.int ((f_4 p3) * (256 : Int32)))])) t → Steps p.tables e below (s₁.setTop (entryFrame m #[(.int p0), (.int p1), (.int p2), (.int p3), (.int p4), (.int p5)] maxLocals)) t := by
      intro t k
      refine pre15 t ?_
      show Steps p.tables e below (T12.setTop (mkF m 145 #[.val (.int p0), .val (.int p1), .val (.int p2), .val (.int p3), .val (.int p4), .val (.int p5), .val (.int v6_3), .val (.ref b3), .val (.ref b9), .val (.int v9_142), .unset] [(.int p3)])) _
      refine st14 _ ?_
      show Steps p.tables e below (T14.setTop (mkF m 148 #[.val (.int p0), .val (.int p1), .val (.int p2), .val (.int p3), .val (.int p4), .val (.int p5), .val (.int v6_3), .val (.ref b3), .val (.ref b9), .val (.int v9_142), .unset] [(.int (f_4 p3))])) _
      refine XS.sipush X14.here hx rfl (hb hby at_148) ?_
      show Steps p.tables e below (T14.setTop (mkF m 151 #[.val (.int p0), .val (.int p1), .val (.int p2), .val (.int p3), .val (.int p4), .val (.int p5), .val (.int v6_3), .val (.ref b3), .val (.ref b9), .val (.int v9_142), .unset] [(.int (256 : Int32)), (.int (f_4 p3))])) _
      refine XS.imul X14.here hx rfl (hb hby at_151) rfl ?_
      show Steps p.tables e below (T14.setTop (mkF m 152 #[.val (.int p0), .val (.int p1), .val (.int p2), .val (.int p3), .val (.int p4), .val (.int p5), .val (.int v6_3), .val (.ref b3), .val (.ref b9), .val (.int v9_142), .unset] [(.int ((f_4 p3) * (256 : Int32)))])) _
      refine XS.iload X14.here hx rfl (hb hby at_152) rfl  ?_
      exact k
    obtain ⟨_, _, ⟨T16, L16, k16, n16⟩, -, X16, ⟨Lc16, hQ16, l16, y16, z16⟩, st16⟩ := Jvm.LawKit.callS X14 hx (y := (⟨"com/example/cardwire/cardwire/core/ResponseApduStatusWordPinLaw", "unsigned", "(I)I"⟩ : MethodName)) hown (mvT hZ (hw _ (List.mem_of_getElem? (i := 26) rfl))) (mvT hZ (hw _ (List.mem_of_getElem? (i := 27) rfl))) (mvT hZ (hw _ (List.mem_of_getElem? (i := 28) rfl))) (mvT hZ (hw _ (List.mem_of_getElem? (i := 29) rfl))) (by decide) (backOf (W := 1) (rm_4 l Z a0 hw [] p4 T10.heap n0 Z10 ) hZ (hw _ (List.mem_of_getElem? (i := 29) rfl)) (hw _ (List.mem_of_getElem? (i := 28) rfl)) (by decide) (by decide)) (g := (mkF m 154 #[.val (.int p0), .val (.int p1), .val (.int p2), .val (.int p3), .val (.int p4), .val (.int p5), .val (.int v6_3), .val (.ref b3), .val (.ref b9), .val (.int v9_142), .unset] [(.int p4), (.int ((f_4 p3) * (256 : Int32)))])) rfl (by rw [hml]; rfl) (argsL := [(.int p4)]) (rest := [(.int ((f_4 p3) * (256 : Int32)))]) (lenOf pd_2 rfl) rfl (by show 2 * 0 + _ ≤ _; exact Nat.le_of_eq rfl) (hb hby at_154) (fun _ _ => ⟨rfl, e14, (by decide : 3 + 0 ≤ _), (by decide : 5 + 0 ≤ _)⟩)
    dsimp only [Pt.U, Pt.locs, Pt.cells, Pt.slots] at X16 l16 y16 z16 st16 hQ16
    subst l16 y16 z16
    obtain ⟨rfl, N16q, e16⟩ := hQ16
    have N16 := Fr.app N14 N16q
    obtain ⟨v10_158, hv10_158⟩ : ∃ z : Int32, z = (((f_4 p3) * (256 : Int32)) + (f_4 p4)) := ⟨_, rfl⟩
    have pre18 : ∀ t, Steps p.tables e below (T16.setTop (mkF m 164 #[.val (.int p0), .val (.int p1), .val (.int p2), .val (.int p3), .val (.int p4), .val (.int p5), .val (.int v6_3), .val (.ref b3), .val (.ref b9), .val (.int v9_142), .val (.int v10_158)] [(.int v10_158), (.int v9_142)])) t → Steps p.tables e below (s₁.setTop (entryFrame m #[(.int p0), (.int p1), (.int p2), (.int p3), (.int p4), (.int p5)] maxLocals)) t := by
      intro t k
      refine pre17 t ?_
      show Steps p.tables e below (T14.setTop (mkF m 154 #[.val (.int p0), .val (.int p1), .val (.int p2), .val (.int p3), .val (.int p4), .val (.int p5), .val (.int v6_3), .val (.ref b3), .val (.ref b9), .val (.int v9_142), .unset] [(.int p4), (.int ((f_4 p3) * (256 : Int32)))])) _
      refine st16 _ ?_
      show Steps p.tables e below (T16.setTop (mkF m 157 #[.val (.int p0), .val (.int p1), .val (.int p2), .val (.int p3), .val (.int p4), .val (.int p5), .val (.int v6_3), .val (.ref b3), .val (.ref b9), .val (.int v9_142), .unset] [(.int (f_4 p4)), (.int ((f_4 p3) * (256 : Int32)))])) _
      refine XS.iadd X16.here hx rfl (hb hby at_157) rfl ?_
      show Steps p.tables e below (T16.setTop (mkF m 158 #[.val (.int p0), .val (.int p1), .val (.int p2), .val (.int p3), .val (.int p4), .val (.int p5), .val (.int v6_3), .val (.ref b3), .val (.ref b9), .val (.int v9_142), .unset] [(.int (((f_4 p3) * (256 : Int32)) + (f_4 p4)))])) _
      refine XS.istore X16.here hx rfl (hb hby at_158) rfl (l' := #[.val (.int p0), .val (.int p1), .val (.int p2), .val (.int p3), .val (.int p4), .val (.int p5), .val (.int v6_3), .val (.ref b3), .val (.ref b9), .val (.int v9_142), .val (.int v10_158)]) (by rw [hv10_158]; rfl) ?_
      show Steps p.tables e below (T16.setTop (mkF m 160 #[.val (.int p0), .val (.int p1), .val (.int p2), .val (.int p3), .val (.int p4), .val (.int p5), .val (.int v6_3), .val (.ref b3), .val (.ref b9), .val (.int v9_142), .val (.int v10_158)] [])) _
      refine XS.iload X16.here hx rfl (hb hby at_160) rfl  ?_
      show Steps p.tables e below (T16.setTop (mkF m 162 #[.val (.int p0), .val (.int p1), .val (.int p2), .val (.int p3), .val (.int p4), .val (.int p5), .val (.int v6_3), .val (.ref b3), .val (.ref b9), .val (.int v9_142), .val (.int v10_158)] [(.int v9_142)])) _
      refine XS.iload X16.here hx rfl (hb hby at_162) rfl  ?_
      exact k
    obtain ⟨ms0_184, hms0_184⟩ : ∃ z : Int32, z = (if v9_142 = v10_158 then (if v9_142 < (0 : Int32) then (0 : Int32) else (if (65535 : Int32) < v9_142 then (0 : Int32) else (1 : Int32))) else (0 : Int32)) := ⟨_, rfl⟩
    have pre19 : ∀ t, Steps p.tables e below (T16.setTop (mkF m 184 #[.val (.int p0), .val (.int p1), .val (.int p2), .val (.int p3), .val (.int p4), .val (.int p5), .val (.int v6_3), .val (.ref b3), .val (.ref b9), .val (.int v9_142), .val (.int v10_158)] [(.int ms0_184)])) t → Steps p.tables e below (s₁.setTop (entryFrame m #[(.int p0), (.int p1), (.int p2), (.int p3), (.int p4), (.int p5)] maxLocals)) t := by
      intro t k
      refine pre18 t ?_
      by_cases hc164 : v9_142 = v10_158
      · show Steps p.tables e below (T16.setTop (mkF m 164 #[.val (.int p0), .val (.int p1), .val (.int p2), .val (.int p3), .val (.int p4), .val (.int p5), .val (.int v6_3), .val (.ref b3), .val (.ref b9), .val (.int v9_142), .val (.int v10_158)] [(.int v10_158), (.int v9_142)])) _
        refine XS.icmpNo X16.here hx rfl (hb hby at_164) rfl (teq hc164).2 ?_
        show Steps p.tables e below (T16.setTop (mkF m 167 #[.val (.int p0), .val (.int p1), .val (.int p2), .val (.int p3), .val (.int p4), .val (.int p5), .val (.int v6_3), .val (.ref b3), .val (.ref b9), .val (.int v9_142), .val (.int v10_158)] [])) _
        refine XS.iload X16.here hx rfl (hb hby at_167) rfl  ?_
        by_cases hc169 : v9_142 < (0 : Int32)
        · show Steps p.tables e below (T16.setTop (mkF m 169 #[.val (.int p0), .val (.int p1), .val (.int p2), .val (.int p3), .val (.int p4), .val (.int p5), .val (.int v6_3), .val (.ref b3), .val (.ref b9), .val (.int v9_142), .val (.int v10_158)] [(.int v9_142)])) _
          refine XS.ifYes X16.here hx rfl (pc0 := 169) (pc' := 183) rfl (hb hby at_169) rfl ((if0 _ _).trans (tlt hc169).1) (by decide) (by decide) ?_
          show Steps p.tables e below (T16.setTop (mkF m 183 #[.val (.int p0), .val (.int p1), .val (.int p2), .val (.int p3), .val (.int p4), .val (.int p5), .val (.int v6_3), .val (.ref b3), .val (.ref b9), .val (.int v9_142), .val (.int v10_158)] [])) _
          refine XS.iconst X16.here hx rfl (hb hby at_183) ?_
          have qms0_184 : ms0_184 = (0 : Int32) := by rw [hms0_184, if_pos hc164, if_pos hc169]
          rw [qms0_184] at k
          exact k
        · show Steps p.tables e below (T16.setTop (mkF m 169 #[.val (.int p0), .val (.int p1), .val (.int p2), .val (.int p3), .val (.int p4), .val (.int p5), .val (.int v6_3), .val (.ref b3), .val (.ref b9), .val (.int v9_142), .val (.int v10_158)] [(.int v9_142)])) _
          refine XS.ifNo X16.here hx rfl (hb hby at_169) rfl ((if0 _ _).trans (flt hc169).1) ?_
          show Steps p.tables e below (T16.setTop (mkF m 172 #[.val (.int p0), .val (.int p1), .val (.int p2), .val (.int p3), .val (.int p4), .val (.int p5), .val (.int v6_3), .val (.ref b3), .val (.ref b9), .val (.int v9_142), .val (.int v10_158)] [])) _
          refine XS.iload X16.here hx rfl (hb hby at_172) rfl  ?_
          show Steps p.tables e below (T16.setTop (mkF m 174 #[.val (.int p0), .val (.int p1), .val (.int p2), .val (.int p3), .val (.int p4), .val (.int p5), .val (.int v6_3), .val (.ref b3), .val (.ref b9), .val (.int v9_142), .val (.int v10_158)] [(.int v9_142)])) _
          refine X16.ldcInt hx hown (mvT hZ (hw _ (List.mem_of_getElem? (i := 30) rfl))) (g := (mkF m 174 #[.val (.int p0), .val (.int p1), .val (.int p2), .val (.int p3), .val (.int p4), .val (.int p5), .val (.int v6_3), .val (.ref b3), .val (.ref b9), .val (.int v9_142), .val (.int v10_158)] [(.int v9_142)])) rfl (hb hby at_174) _ ?_
          by_cases hc176 : (65535 : Int32) < v9_142
          · show Steps p.tables e below (T16.setTop (mkF m 176 #[.val (.int p0), .val (.int p1), .val (.int p2), .val (.int p3), .val (.int p4), .val (.int p5), .val (.int v6_3), .val (.ref b3), .val (.ref b9), .val (.int v9_142), .val (.int v10_158)] [(.int (65535 : Int32)), (.int v9_142)])) _
            refine XS.icmpYes X16.here hx rfl (pc0 := 176) (pc' := 183) rfl (hb hby at_176) rfl (tlt hc176).2.2.1 (by decide) (by decide) ?_
            show Steps p.tables e below (T16.setTop (mkF m 183 #[.val (.int p0), .val (.int p1), .val (.int p2), .val (.int p3), .val (.int p4), .val (.int p5), .val (.int v6_3), .val (.ref b3), .val (.ref b9), .val (.int v9_142), .val (.int v10_158)] [])) _
            refine XS.iconst X16.here hx rfl (hb hby at_183) ?_
            have qms0_184 : ms0_184 = (0 : Int32) := by rw [hms0_184, if_pos hc164, if_neg hc169, if_pos hc176]
            rw [qms0_184] at k
            exact k
          · show Steps p.tables e below (T16.setTop (mkF m 176 #[.val (.int p0), .val (.int p1), .val (.int p2), .val (.int p3), .val (.int p4), .val (.int p5), .val (.int v6_3), .val (.ref b3), .val (.ref b9), .val (.int v9_142), .val (.int v10_158)] [(.int (65535 : Int32)), (.int v9_142)])) _
            refine XS.icmpNo X16.here hx rfl (hb hby at_176) rfl (flt hc176).2.2.1 ?_
            show Steps p.tables e below (T16.setTop (mkF m 179 #[.val (.int p0), .val (.int p1), .val (.int p2), .val (.int p3), .val (.int p4), .val (.int p5), .val (.int v6_3), .val (.ref b3), .val (.ref b9), .val (.int v9_142), .val (.int v10_158)] [])) _
            refine XS.iconst X16.here hx rfl (hb hby at_179) ?_
            show Steps p.tables e below (T16.setTop (mkF m 180 #[.val (.int p0), .val (.int p1), .val (.int p2), .val (.int p3), .val (.int p4), .val (.int p5), .val (.int v6_3), .val (.ref b3), .val (.ref b9), .val (.int v9_142), .val (.int v10_158)] [(.int (1 : Int32))])) _
            refine XS.goto X16.here hx rfl (pc0 := 180) (pc' := 184) rfl (hb hby at_180) (by decide) (by decide) ?_
            have qms0_184 : ms0_184 = (1 : Int32) := by rw [hms0_184, if_pos hc164, if_neg hc169, if_neg hc176]
            rw [qms0_184] at k
            exact k
      · show Steps p.tables e below (T16.setTop (mkF m 164 #[.val (.int p0), .val (.int p1), .val (.int p2), .val (.int p3), .val (.int p4), .val (.int p5), .val (.int v6_3), .val (.ref b3), .val (.ref b9), .val (.int v9_142), .val (.int v10_158)] [(.int v10_158), (.int v9_142)])) _
        refine XS.icmpYes X16.here hx rfl (pc0 := 164) (pc' := 183) rfl (hb hby at_164) rfl (feq hc164).2 (by decide) (by decide) ?_
        show Steps p.tables e below (T16.setTop (mkF m 183 #[.val (.int p0), .val (.int p1), .val (.int p2), .val (.int p3), .val (.int p4), .val (.int p5), .val (.int v6_3), .val (.ref b3), .val (.ref b9), .val (.int v9_142), .val (.int v10_158)] [])) _
        refine XS.iconst X16.here hx rfl (hb hby at_183) ?_
        have qms0_184 : ms0_184 = (0 : Int32) := by rw [hms0_184, if_neg hc164]
        rw [qms0_184] at k
        exact k
    have hnar : nar .boolean ms0_184 = ms0_184 := by rw [hms0_184]; (repeat' split) <;> rfl
    obtain ⟨fs, hr, hrun, hended, hW, hsame⟩ := X16.leave (v := some (.int ms0_184)) (fun h => by rw [Bd.returns] at h; cases h)
    refine ⟨_, _, pre19 _ ?_, hrun, hended, _, _, rfl, ?_, ⟨_, rfl⟩, hW, hsame.mono (by decide) (by decide)⟩
    · show Steps p.tables e below (T16.setTop (mkF m 184 #[.val (.int p0), .val (.int p1), .val (.int p2), .val (.int p3), .val (.int p4), .val (.int p5), .val (.int v6_3), .val (.ref b3), .val (.ref b9), .val (.int v9_142), .val (.int v10_158)] [(.int ms0_184)])) _
      exact retN X16 hx (t := .boolean) Bd.returns (by simp) (hb hby at_184) (by rw [hnar]; exact hr)
    · show Q_0 Z p0 p1 p2 p3 p4 p5 h0 n0 _ T16.heap _
      rw [e16]
      exact ⟨congrArg (fun z => some (Value.int z)) (by subst hv6_3 hg_17 hg_23 hv9_142 hv10_158 hms0_184; exact (if_pos hc7).symm : ms0_184 = f_0 p0 p1 p2 p3 p4 p5), N16, trivial⟩
  · have pre20 : ∀ t, Steps p.tables e below (s₁.setTop (mkF m 32 #[.val (.int p0), .val (.int p1), .val (.int p2), .val (.int p3), .val (.int p4), .val (.int p5), .val (.int v6_3), .unset, .unset, .unset, .unset] [(.int (1 : Int32)), (.int v6_3)])) t → Steps p.tables e below (s₁.setTop (entryFrame m #[(.int p0), (.int p1), (.int p2), (.int p3), (.int p4), (.int p5)] maxLocals)) t := by
      intro t k
      refine pre1 t ?_
      show Steps p.tables e below (s₁.setTop (mkF m 7 #[.val (.int p0), .val (.int p1), .val (.int p2), .val (.int p3), .val (.int p4), .val (.int p5), .val (.int v6_3), .unset, .unset, .unset, .unset] [(.int v6_3)])) _
      refine XS.ifYes X0.here hx rfl (pc0 := 7) (pc' := 29) rfl (hb hby at_7) rfl ((if0 _ _).trans (feq hc7).2) (by decide) (by decide) ?_
      show Steps p.tables e below (s₁.setTop (mkF m 29 #[.val (.int p0), .val (.int p1), .val (.int p2), .val (.int p3), .val (.int p4), .val (.int p5), .val (.int v6_3), .unset, .unset, .unset, .unset] [])) _
      refine XS.iload X0.here hx rfl (hb hby at_29) rfl  ?_
      show Steps p.tables e below (s₁.setTop (mkF m 31 #[.val (.int p0), .val (.int p1), .val (.int p2), .val (.int p3), .val (.int p4), .val (.int p5), .val (.int v6_3), .unset, .unset, .unset, .unset] [(.int v6_3)])) _
      refine XS.iconst X0.here hx rfl (hb hby at_31) ?_
      exact k
    by_cases hc32 : v6_3 = (1 : Int32)
    · have pre21 : ∀ t, Steps p.tables e below (s₁.setTop (mkF m 36 #[.val (.int p0), .val (.int p1), .val (.int p2), .val (.int p3), .val (.int p4), .val (.int p5), .val (.int v6_3), .unset, .unset, .unset, .unset] [(.int (3 : Int32))])) t → Steps p.tables e below (s₁.setTop (entryFrame m #[(.int p0), (.int p1), (.int p2), (.int p3), (.int p4), (.int p5)] maxLocals)) t := by
        intro t k
        refine pre20 t ?_
        show Steps p.tables e below (s₁.setTop (mkF m 32 #[.val (.int p0), .val (.int p1), .val (.int p2), .val (.int p3), .val (.int p4), .val (.int p5), .val (.int v6_3), .unset, .unset, .unset, .unset] [(.int (1 : Int32)), (.int v6_3)])) _
        refine XS.icmpNo X0.here hx rfl (hb hby at_32) rfl (teq hc32).2 ?_
        show Steps p.tables e below (s₁.setTop (mkF m 35 #[.val (.int p0), .val (.int p1), .val (.int p2), .val (.int p3), .val (.int p4), .val (.int p5), .val (.int v6_3), .unset, .unset, .unset, .unset] [])) _
        refine XS.iconst X0.here hx rfl (hb hby at_35) ?_
        exact k
      obtain ⟨T22, h22, b22, gb22, X22, e22, E22, A22, B22, st22⟩ := own_newPE X0 hx hZ (hw _ (List.mem_of_getElem? (i := 0) rfl)) e0 (g := (mkF m 36 #[.val (.int p0), .val (.int p1), .val (.int p2), .val (.int p3), .val (.int p4), .val (.int p5), .val (.int v6_3), .unset, .unset, .unset, .unset] [(.int (3 : Int32))])) rfl (hb hby at_36) rfl (by decide) (n := 3) rfl (G := fun i => .int (own_zI i)) (fun _ => rfl) (cap := 3) (by decide) (by decide) (by decide) (by decide) (ad := "[B") (by decide)
      have sz_b22 : h0.size ≤ b22 := Nat.le_trans K0.1 (Nat.le_of_eq gb22.symm)
      have ge_b22 : n0 ≤ b22 := Nat.le_trans Z0 (Nat.le_of_eq gb22.symm)
      have K22 := K0.ext E22
      have Z22 := Nat.le_trans Z0 E22.1
      have pre23 : ∀ t, Steps p.tables e below (T22.setTop (mkF m 42 #[.val (.int p0), .val (.int p1), .val (.int p2), .val (.int p3), .val (.int p4), .val (.int p5), .val (.int v6_3), .unset, .unset, .unset, .unset] [(.int (p1.toInt8.toInt32)), (.int (0 : Int32)), (.ref b22), (.ref b22)])) t → Steps p.tables e below (s₁.setTop (entryFrame m #[(.int p0), (.int p1), (.int p2), (.int p3), (.int p4), (.int p5)] maxLocals)) t := by
        intro t k
        refine pre21 t ?_
        show Steps p.tables e below (s₁.setTop (mkF m 36 #[.val (.int p0), .val (.int p1), .val (.int p2), .val (.int p3), .val (.int p4), .val (.int p5), .val (.int v6_3), .unset, .unset, .unset, .unset] [(.int (3 : Int32))])) _
        refine st22 _ ?_
        show Steps p.tables e below (T22.setTop (mkF m 38 #[.val (.int p0), .val (.int p1), .val (.int p2), .val (.int p3), .val (.int p4), .val (.int p5), .val (.int v6_3), .unset, .unset, .unset, .unset] [(.ref b22)])) _
        refine XS.dup X22.here hx rfl (hb hby at_38) rfl rfl ?_
        show Steps p.tables e below (T22.setTop (mkF m 39 #[.val (.int p0), .val (.int p1), .val (.int p2), .val (.int p3), .val (.int p4), .val (.int p5), .val (.int v6_3), .unset, .unset, .unset, .unset] [(.ref b22), (.ref b22)])) _
        refine XS.iconst X22.here hx rfl (hb hby at_39) ?_
        show Steps p.tables e below (T22.setTop (mkF m 40 #[.val (.int p0), .val (.int p1), .val (.int p2), .val (.int p3), .val (.int p4), .val (.int p5), .val (.int v6_3), .unset, .unset, .unset, .unset] [(.int (0 : Int32)), (.ref b22), (.ref b22)])) _
        refine XS.iloadN X22.here hx rfl (hb hby at_40) rfl  ?_
        show Steps p.tables e below (T22.setTop (mkF m 41 #[.val (.int p0), .val (.int p1), .val (.int p2), .val (.int p3), .val (.int p4), .val (.int p5), .val (.int v6_3), .unset, .unset, .unset, .unset] [(.int p1), (.int (0 : Int32)), (.ref b22), (.ref b22)])) _
        refine XS.i2b X22.here hx rfl (hb hby at_41) rfl ?_
        exact k
      obtain ⟨T24, h24, X24, e24, W24, A24, st24⟩ := own_stB X22 hx hZ e22 A22 (j := (0 : Int32)) (x := (p1.toInt8.toInt32)) (k := 0) (by decide) (by decide) (by decide) (g := (mkF m 42 #[.val (.int p0), .val (.int p1), .val (.int p2), .val (.int p3), .val (.int p4), .val (.int p5), .val (.int v6_3), .unset, .unset, .unset, .unset] [(.int (p1.toInt8.toInt32)), (.int (0 : Int32)), (.ref b22), (.ref b22)])) rfl rfl (hb hby at_42)
      obtain ⟨g_42, hg_42⟩ : ∃ z : Nat → Int32, z = (own_upd own_zI 0 (p1.toInt8.toInt32).toInt8.toInt32) := ⟨_, rfl⟩
      rw [← hg_42] at A24
      have exa_b22_24 := B22.wr W24
      have K24 := K22.wr W24 (Or.inr sz_b22)
      have Z24 := Nat.le_trans Z22 (Nat.le_of_eq W24.size.symm)
      have N24 := Fr.snoc X24 N0 ge_b22
      have pre25 : ∀ t, Steps p.tables e below (T24.setTop (mkF m 47 #[.val (.int p0), .val (.int p1), .val (.int p2), .val (.int p3), .val (.int p4), .val (.int p5), .val (.int v6_3), .unset, .unset, .unset, .unset] [(.int (p3.toInt8.toInt32)), (.int (1 : Int32)), (.ref b22), (.ref b22)])) t → Steps p.tables e below (s₁.setTop (entryFrame m #[(.int p0), (.int p1), (.int p2), (.int p3), (.int p4), (.int p5)] maxLocals)) t := by
        intro t k
        refine pre23 t ?_
        show Steps p.tables e below (T22.setTop (mkF m 42 #[.val (.int p0), .val (.int p1), .val (.int p2), .val (.int p3), .val (.int p4), .val (.int p5), .val (.int v6_3), .unset, .unset, .unset, .unset] [(.int (p1.toInt8.toInt32)), (.int (0 : Int32)), (.ref b22), (.ref b22)])) _
        refine st24 _ ?_
        show Steps p.tables e below (T24.setTop (mkF m 43 #[.val (.int p0), .val (.int p1), .val (.int p2), .val (.int p3), .val (.int p4), .val (.int p5), .val (.int v6_3), .unset, .unset, .unset, .unset] [(.ref b22)])) _
        refine XS.dup X24.here hx rfl (hb hby at_43) rfl rfl ?_
        show Steps p.tables e below (T24.setTop (mkF m 44 #[.val (.int p0), .val (.int p1), .val (.int p2), .val (.int p3), .val (.int p4), .val (.int p5), .val (.int v6_3), .unset, .unset, .unset, .unset] [(.ref b22), (.ref b22)])) _
        refine XS.iconst X24.here hx rfl (hb hby at_44) ?_
        show Steps p.tables e below (T24.setTop (mkF m 45 #[.val (.int p0), .val (.int p1), .val (.int p2), .val (.int p3), .val (.int p4), .val (.int p5), .val (.int v6_3), .unset, .unset, .unset, .unset] [(.int (1 : Int32)), (.ref b22), (.ref b22)])) _
        refine XS.iloadN X24.here hx rfl (hb hby at_45) rfl  ?_
        show Steps p.tables e below (T24.setTop (mkF m 46 #[.val (.int p0), .val (.int p1), .val (.int p2), .val (.int p3), .val (.int p4), .val (.int p5), .val (.int v6_3), .unset, .unset, .unset, .unset] [(.int p3), (.int (1 : Int32)), (.ref b22), (.ref b22)])) _
        refine XS.i2b X24.here hx rfl (hb hby at_46) rfl ?_
        exact k
      obtain ⟨T26, h26, X26, e26, W26, A26, st26⟩ := own_stB X24 hx hZ e24 A24 (j := (1 : Int32)) (x := (p3.toInt8.toInt32)) (k := 1) (by decide) (by decide) (by decide) (g := (mkF m 47 #[.val (.int p0), .val (.int p1), .val (.int p2), .val (.int p3), .val (.int p4), .val (.int p5), .val (.int v6_3), .unset, .unset, .unset, .unset] [(.int (p3.toInt8.toInt32)), (.int (1 : Int32)), (.ref b22), (.ref b22)])) rfl rfl (hb hby at_47)
      obtain ⟨g_47, hg_47⟩ : ∃ z : Nat → Int32, z = (own_upd g_42 1 (p3.toInt8.toInt32).toInt8.toInt32) := ⟨_, rfl⟩
      rw [← hg_47] at A26
      have exa_b22_26 := exa_b22_24.wr W26
      have K26 := K24.wr W26 (Or.inr sz_b22)
      have Z26 := Nat.le_trans Z24 (Nat.le_of_eq W26.size.symm)
      have N26 := Fr.snoc X26 N24 ge_b22
      have pre27 : ∀ t, Steps p.tables e below (T26.setTop (mkF m 53 #[.val (.int p0), .val (.int p1), .val (.int p2), .val (.int p3), .val (.int p4), .val (.int p5), .val (.int v6_3), .unset, .unset, .unset, .unset] [(.int (p4.toInt8.toInt32)), (.int (2 : Int32)), (.ref b22), (.ref b22)])) t → Steps p.tables e below (s₁.setTop (entryFrame m #[(.int p0), (.int p1), (.int p2), (.int p3), (.int p4), (.int p5)] maxLocals)) t := by
        intro t k
        refine pre25 t ?_
        show Steps p.tables e below (T24.setTop (mkF m 47 #[.val (.int p0), .val (.int p1), .val (.int p2), .val (.int p3), .val (.int p4), .val (.int p5), .val (.int v6_3), .unset, .unset, .unset, .unset] [(.int (p3.toInt8.toInt32)), (.int (1 : Int32)), (.ref b22), (.ref b22)])) _
        refine st26 _ ?_
        show Steps p.tables e below (T26.setTop (mkF m 48 #[.val (.int p0), .val (.int p1), .val (.int p2), .val (.int p3), .val (.int p4), .val (.int p5), .val (.int v6_3), .unset, .unset, .unset, .unset] [(.ref b22)])) _
        refine XS.dup X26.here hx rfl (hb hby at_48) rfl rfl ?_
        show Steps p.tables e below (T26.setTop (mkF m 49 #[.val (.int p0), .val (.int p1), .val (.int p2), .val (.int p3), .val (.int p4), .val (.int p5), .val (.int v6_3), .unset, .unset, .unset, .unset] [(.ref b22), (.ref b22)])) _
        refine XS.iconst X26.here hx rfl (hb hby at_49) ?_
        show Steps p.tables e below (T26.setTop (mkF m 50 #[.val (.int p0), .val (.int p1), .val (.int p2), .val (.int p3), .val (.int p4), .val (.int p5), .val (.int v6_3), .unset, .unset, .unset, .unset] [(.int (2 : Int32)), (.ref b22), (.ref b22)])) _
        refine XS.iload X26.here hx rfl (hb hby at_50) rfl  ?_
        show Steps p.tables e below (T26.setTop (mkF m 52 #[.val (.int p0), .val (.int p1), .val (.int p2), .val (.int p3), .val (.int p4), .val (.int p5), .val (.int v6_3), .unset, .unset, .unset, .unset] [(.int p4), (.int (2 : Int32)), (.ref b22), (.ref b22)])) _
        refine XS.i2b X26.here hx rfl (hb hby at_52) rfl ?_
        exact k
      obtain ⟨T28, h28, X28, e28, W28, A28, st28⟩ := own_stB X26 hx hZ e26 A26 (j := (2 : Int32)) (x := (p4.toInt8.toInt32)) (k := 2) (by decide) (by decide) (by decide) (g := (mkF m 53 #[.val (.int p0), .val (.int p1), .val (.int p2), .val (.int p3), .val (.int p4), .val (.int p5), .val (.int v6_3), .unset, .unset, .unset, .unset] [(.int (p4.toInt8.toInt32)), (.int (2 : Int32)), (.ref b22), (.ref b22)])) rfl rfl (hb hby at_53)
      obtain ⟨g_53, hg_53⟩ : ∃ z : Nat → Int32, z = (own_upd g_47 2 (p4.toInt8.toInt32).toInt8.toInt32) := ⟨_, rfl⟩
      rw [← hg_53] at A28
      have exa_b22_28 := exa_b22_26.wr W28
      have K28 := K26.wr W28 (Or.inr sz_b22)
      have Z28 := Nat.le_trans Z26 (Nat.le_of_eq W28.size.symm)
      have N28 := Fr.snoc X28 N26 ge_b22
      have pre29 : ∀ t, Steps p.tables e below (T28.setTop (mkF m 126 #[.val (.int p0), .val (.int p1), .val (.int p2), .val (.int p3), .val (.int p4), .val (.int p5), .val (.int v6_3), .val (.ref b22), .unset, .unset, .unset] [])) t → Steps p.tables e below (s₁.setTop (entryFrame m #[(.int p0), (.int p1), (.int p2), (.int p3), (.int p4), (.int p5)] maxLocals)) t := by
        intro t k
        refine pre27 t ?_
        show Steps p.tables e below (T26.setTop (mkF m 53 #[.val (.int p0), .val (.int p1), .val (.int p2), .val (.int p3), .val (.int p4), .val (.int p5), .val (.int v6_3), .unset, .unset, .unset, .unset] [(.int (p4.toInt8.toInt32)), (.int (2 : Int32)), (.ref b22), (.ref b22)])) _
        refine st28 _ ?_
        show Steps p.tables e below (T28.setTop (mkF m 54 #[.val (.int p0), .val (.int p1), .val (.int p2), .val (.int p3), .val (.int p4), .val (.int p5), .val (.int v6_3), .unset, .unset, .unset, .unset] [(.ref b22)])) _
        refine XS.astore X28.here hx rfl (hb hby at_54) rfl rfl (l' := #[.val (.int p0), .val (.int p1), .val (.int p2), .val (.int p3), .val (.int p4), .val (.int p5), .val (.int v6_3), .val (.ref b22), .unset, .unset, .unset]) rfl ?_
        show Steps p.tables e below (T28.setTop (mkF m 56 #[.val (.int p0), .val (.int p1), .val (.int p2), .val (.int p3), .val (.int p4), .val (.int p5), .val (.int v6_3), .val (.ref b22), .unset, .unset, .unset] [])) _
        refine XS.goto X28.here hx rfl (pc0 := 56) (pc' := 126) rfl (hb hby at_56) (by decide) (by decide) ?_
        exact k
      obtain ⟨T30, h30, X30, e30, E30, A30, D30, -, st30⟩ := newO X28 hx hZ hown (hw _ (List.mem_of_getElem? (i := 1) rfl)) (hw _ (List.mem_of_getElem? (i := 2) rfl)) (hw _ (List.mem_of_getElem? (i := 3) rfl)) e28 (g := (mkF m 126 #[.val (.int p0), .val (.int p1), .val (.int p2), .val (.int p3), .val (.int p4), .val (.int p5), .val (.int v6_3), .val (.ref b22), .unset, .unset, .unset] [])) rfl (hb hby at_126) (by decide) (by decide)
      obtain ⟨b30, gb30⟩ : ∃ z, z = h28.size := ⟨_, rfl⟩
      rw [← gb30] at A30 D30 st30
      have ne_b22_b30 : b22 ≠ b30 := Nat.ne_of_lt (Nat.lt_of_lt_of_le A28.lt (Nat.le_of_eq gb30.symm))
      have sz_b30 : h0.size ≤ b30 := Nat.le_trans K28.1 (Nat.le_of_eq gb30.symm)
      have ge_b30 : n0 ≤ b30 := Nat.le_trans Z28 (Nat.le_of_eq gb30.symm)
      have arr_b22_30 := A28.ext E30
      have exa_b22_30 := exa_b22_28.ext E30
      have K30 := K28.ext E30
      have Z30 := Nat.le_trans Z28 E30.1
      have F30_bytes : Fld Z h30 b30 "com/example/cardwire/cardwire/core/ResponseApdu" "bytes" "[B" .null := D30 (Or.inr (hw _ (List.mem_of_getElem? (i := 20) rfl))) (ty := (.array .byte)) (by decide)
      have pre32 : ∀ t, Steps p.tables e below (T30.setTop (mkF m 132 #[.val (.int p0), .val (.int p1), .val (.int p2), .val (.int p3), .val (.int p4), .val (.int p5), .val (.int v6_3), .val (.ref b22), .unset, .unset, .unset] [(.ref b22), (.ref b30), (.ref b30)])) t → Steps p.tables e below (s₁.setTop (entryFrame m #[(.int p0), (.int p1), (.int p2), (.int p3), (.int p4), (.int p5)] maxLocals)) t := by
        intro t k
        refine pre29 t ?_
        show Steps p.tables e below (T28.setTop (mkF m 126 #[.val (.int p0), .val (.int p1), .val (.int p2), .val (.int p3), .val (.int p4), .val (.int p5), .val (.int v6_3), .val (.ref b22), .unset, .unset, .unset] [])) _
        refine st30 _ ?_
        show Steps p.tables e below (T30.setTop (mkF m 129 #[.val (.int p0), .val (.int p1), .val (.int p2), .val (.int p3), .val (.int p4), .val (.int p5), .val (.int v6_3), .val (.ref b22), .unset, .unset, .unset] [(.ref b30)])) _
        refine XS.dup X30.here hx rfl (hb hby at_129) rfl rfl ?_
        show Steps p.tables e below (T30.setTop (mkF m 130 #[.val (.int p0), .val (.int p1), .val (.int p2), .val (.int p3), .val (.int p4), .val (.int p5), .val (.int v6_3), .val (.ref b22), .unset, .unset, .unset] [(.ref b30), (.ref b30)])) _
        refine XS.aload X30.here hx rfl (hb hby at_130) rfl rfl ?_
        exact k
      obtain ⟨_, _, ⟨T31, L31, k31, n31⟩, -, X31, ⟨Lc31, hQ31, l31, y31, z31⟩, st31⟩ := X30.specialBack hx (y := (⟨"com/example/cardwire/cardwire/core/ResponseApdu", "<init>", "([B)V"⟩ : MethodName)) rfl hown (mvT hZ (hw _ (List.mem_of_getElem? (i := 4) rfl))) (mvT hZ (hw _ (List.mem_of_getElem? (i := 5) rfl))) (mvT hZ (hw _ (List.mem_of_getElem? (i := 6) rfl))) (by decide) (backOf (W := 1) (rm_1t3 l Z a0 hw [] b30 b22 g_53 h30 n0 Z30 A30 F30_bytes ge_b30 arr_b22_30 exa_b22_30 ne_b22_b30.symm) hZ (hw _ (List.mem_of_getElem? (i := 6) rfl)) (hw _ (List.mem_of_getElem? (i := 3) rfl)) (by decide) (by decide)) (g := (mkF m 132 #[.val (.int p0), .val (.int p1), .val (.int p2), .val (.int p3), .val (.int p4), .val (.int p5), .val (.int v6_3), .val (.ref b22), .unset, .unset, .unset] [(.ref b22), (.ref b30), (.ref b30)])) rfl (by rw [hml]; rfl) (Steps.refl _) (a := b30) (argsL := [(.ref b22)]) (rest := [(.ref b30)]) (lenOf pd_0 rfl) rfl (by show 2 * 0 + _ ≤ _; exact Nat.le_of_eq rfl) (hb hby at_132) (fun _ _ => ⟨rfl, e30, (by decide : 2 + 1 ≤ _), (by decide : 4 + 3 ≤ _)⟩)
      dsimp only [Pt.U, Pt.locs, Pt.cells, Pt.slots] at X31 l31 y31 z31 st31 hQ31
      subst l31 y31 z31
      obtain ⟨w_31, rfl, N31q, sz0_w_31, Kc31, Q31_0, Q31_1, Q31_2⟩ := hQ31
      have Kd31 : Keep h30 T31.heap [b30] := Kc31
      have ne_b22_w_31 : b22 ≠ w_31 := Nat.ne_of_lt (Nat.lt_of_lt_of_le arr_b22_30.lt sz0_w_31)
      have ne_b30_w_31 : b30 ≠ w_31 := Nat.ne_of_lt (Nat.lt_of_lt_of_le A30.lt sz0_w_31)
      have sz_w_31 : h0.size ≤ w_31 := Nat.le_trans K30.1 sz0_w_31
      have ge_w_31 : n0 ≤ w_31 := Nat.le_trans Z30 sz0_w_31
      have arr_b22_31 := arr_b22_30.keep Kd31 (ninS ne_b22_b30 nin0)
      have exa_b22_31 := exa_b22_30.keep Kd31
      have exa_b30_31 := A30.keep Kd31
      have K31 := K30.trans Kd31 (allS (Or.inr sz_b30) all0)
      have Z31 := Nat.le_trans Z30 Kd31.1
      have N31 := Fr.app N28 N31q
      have pre34 : ∀ t, Steps p.tables e below (T31.setTop (mkF m 139 #[.val (.int p0), .val (.int p1), .val (.int p2), .val (.int p3), .val (.int p4), .val (.int p5), .val (.int v6_3), .val (.ref b22), .val (.ref b30), .unset, .unset] [(.ref b30)])) t → Steps p.tables e below (s₁.setTop (entryFrame m #[(.int p0), (.int p1), (.int p2), (.int p3), (.int p4), (.int p5)] maxLocals)) t := by
        intro t k
        refine pre32 t ?_
        show Steps p.tables e below (T30.setTop (mkF m 132 #[.val (.int p0), .val (.int p1), .val (.int p2), .val (.int p3), .val (.int p4), .val (.int p5), .val (.int v6_3), .val (.ref b22), .unset, .unset, .unset] [(.ref b22), (.ref b30), (.ref b30)])) _
        refine st31.trans ?_
        show Steps p.tables e below (T31.setTop (mkF m 135 #[.val (.int p0), .val (.int p1), .val (.int p2), .val (.int p3), .val (.int p4), .val (.int p5), .val (.int v6_3), .val (.ref b22), .unset, .unset, .unset] [(.ref b30)])) _
        refine XS.astore X31.here hx rfl (hb hby at_135) rfl rfl (l' := #[.val (.int p0), .val (.int p1), .val (.int p2), .val (.int p3), .val (.int p4), .val (.int p5), .val (.int v6_3), .val (.ref b22), .val (.ref b30), .unset, .unset]) rfl ?_
        show Steps p.tables e below (T31.setTop (mkF m 137 #[.val (.int p0), .val (.int p1), .val (.int p2), .val (.int p3), .val (.int p4), .val (.int p5), .val (.int v6_3), .val (.ref b22), .val (.ref b30), .unset, .unset] [])) _
        refine XS.aload X31.here hx rfl (hb hby at_137) rfl rfl ?_
        exact k
      obtain ⟨cq33, kq33, q33a, q33b, q33c⟩ := isOf hZ rfl Q31_0
      obtain ⟨_, _, ⟨T33, L33, k33, n33⟩, -, X33, ⟨Lc33, hQ33, l33, y33, z33⟩, st33⟩ := X31.virtualBack hx (y := (⟨"com/example/cardwire/cardwire/core/ResponseApdu", "statusWord", "()I"⟩ : MethodName)) (z := (⟨"com/example/cardwire/cardwire/core/ResponseApdu", "statusWord", "()I"⟩ : MethodName)) hown (mvT hZ (hw _ (List.mem_of_getElem? (i := 21) rfl))) (mvT hZ (hw _ (List.mem_of_getElem? (i := 22) rfl))) (notFace_of_selects (args := #[]) (mvT hZ (hw _ (List.mem_of_getElem? (i := 24) rfl)))) (mvT hZ (hw _ (List.mem_of_getElem? (i := 24) rfl))) (mvT hZ (hw _ (List.mem_of_getElem? (i := 23) rfl))) (by decide) (backOf (W := 0) (rm_3t3 l Z a0 hw [] b30 w_31 g_53 T31.heap n0 Z31 Q31_1 Q31_2) hZ (hw _ (List.mem_of_getElem? (i := 25) rfl)) (hw _ (List.mem_of_getElem? (i := 3) rfl)) (by decide) (by decide)) q33a q33c (g := (mkF m 139 #[.val (.int p0), .val (.int p1), .val (.int p2), .val (.int p3), .val (.int p4), .val (.int p5), .val (.int v6_3), .val (.ref b22), .val (.ref b30), .unset, .unset] [(.ref b30)])) rfl (by rw [hml]; rfl) (Steps.refl _) (argsL := []) (rest := []) (lenOf pd_1 rfl) rfl (by show 2 * 0 + _ ≤ _; exact Nat.le_of_eq rfl) (hb hby at_139) (fun _ _ => ⟨rfl, rfl, (by decide : 3 + 0 ≤ _), (by decide : 7 + 0 ≤ _)⟩)
      dsimp only [Pt.U, Pt.locs, Pt.cells, Pt.slots] at X33 l33 y33 z33 st33 hQ33
      subst l33 y33 z33
      obtain ⟨rfl, N33q, e33⟩ := hQ33
      have N33 := Fr.app N31 N33q
      obtain ⟨v9_142, hv9_142⟩ : ∃ z : Int32, z = (f_3t3 g_53) := ⟨_, rfl⟩
      have pre36 : ∀ t, Steps p.tables e below (T33.setTop (mkF m 145 #[.val (.int p0), .val (.int p1), .val (.int p2), .val (.int p3), .val (.int p4), .val (.int p5), .val (.int v6_3), .val (.ref b22), .val (.ref b30), .val (.int v9_142), .unset] [(.int p3)])) t → Steps p.tables e below (s₁.setTop (entryFrame m #[(.int p0), (.int p1), (.int p2), (.int p3), (.int p4), (.int p5)] maxLocals)) t := by
        intro t k
        refine pre34 t ?_
        show Steps p.tables e below (T31.setTop (mkF m 139 #[.val (.int p0), .val (.int p1), .val (.int p2), .val (.int p3), .val (.int p4), .val (.int p5), .val (.int v6_3), .val (.ref b22), .val (.ref b30), .unset, .unset] [(.ref b30)])) _
        refine st33.trans ?_
        show Steps p.tables e below (T33.setTop (mkF m 142 #[.val (.int p0), .val (.int p1), .val (.int p2), .val (.int p3), .val (.int p4), .val (.int p5), .val (.int v6_3), .val (.ref b22), .val (.ref b30), .unset, .unset] [(.int (f_3t3 g_53))])) _
        refine XS.istore X33.here hx rfl (hb hby at_142) rfl (l' := #[.val (.int p0), .val (.int p1), .val (.int p2), .val (.int p3), .val (.int p4), .val (.int p5), .val (.int v6_3), .val (.ref b22), .val (.ref b30), .val (.int v9_142), .unset]) (by rw [hv9_142]; rfl) ?_
        show Steps p.tables e below (T33.setTop (mkF m 144 #[.val (.int p0), .val (.int p1), .val (.int p2), .val (.int p3), .val (.int p4), .val (.int p5), .val (.int v6_3), .val (.ref b22), .val (.ref b30), .val (.int v9_142), .unset] [])) _
        refine XS.iloadN X33.here hx rfl (hb hby at_144) rfl  ?_
        exact k
      obtain ⟨_, _, ⟨T35, L35, k35, n35⟩, -, X35, ⟨Lc35, hQ35, l35, y35, z35⟩, st35⟩ := Jvm.LawKit.callS X33 hx (y := (⟨"com/example/cardwire/cardwire/core/ResponseApduStatusWordPinLaw", "unsigned", "(I)I"⟩ : MethodName)) hown (mvT hZ (hw _ (List.mem_of_getElem? (i := 26) rfl))) (mvT hZ (hw _ (List.mem_of_getElem? (i := 27) rfl))) (mvT hZ (hw _ (List.mem_of_getElem? (i := 28) rfl))) (mvT hZ (hw _ (List.mem_of_getElem? (i := 29) rfl))) (by decide) (backOf (W := 0) (rm_4 l Z a0 hw [] p3 T31.heap n0 Z31 ) hZ (hw _ (List.mem_of_getElem? (i := 29) rfl)) (hw _ (List.mem_of_getElem? (i := 28) rfl)) (by decide) (by decide)) (g := (mkF m 145 #[.val (.int p0), .val (.int p1), .val (.int p2), .val (.int p3), .val (.int p4), .val (.int p5), .val (.int v6_3), .val (.ref b22), .val (.ref b30), .val (.int v9_142), .unset] [(.int p3)])) rfl (by rw [hml]; rfl) (argsL := [(.int p3)]) (rest := []) (lenOf pd_2 rfl) rfl (by show 2 * 0 + _ ≤ _; exact Nat.le_of_eq rfl) (hb hby at_145) (fun _ _ => ⟨rfl, e33, (by decide : 3 + 0 ≤ _), (by decide : 7 + 0 ≤ _)⟩)
      dsimp only [Pt.U, Pt.locs, Pt.cells, Pt.slots] at X35 l35 y35 z35 st35 hQ35
      subst l35 y35 z35
      obtain ⟨rfl, N35q, e35⟩ := hQ35
      have N35 := Fr.app N33 N35q
      have pre38 : ∀ t, Steps p.tables e below (T35.setTop (mkF m 154 #[.val (.int p0), .val (.int p1), .val (.int p2), .val (.int p3), .val (.int p4), .val (.int p5), .val (.int v6_3), .val (.ref b22), .val (.ref b30), .val (.int v9_142), .unset] [(.int p4), (.int ((f_4 p3) * (256 : Int32)))])) t → Steps p.tables e below (s₁.setTop (entryFrame m #[(.int p0), (.int p1), (.int p2), (.int p3), (.int p4), (.int p5)] maxLocals)) t := by
        intro t k
        refine pre36 t ?_
        show Steps p.tables e below (T33.setTop (mkF m 145 #[.val (.int p0), .val (.int p1), .val (.int p2), .val (.int p3), .val (.int p4), .val (.int p5), .val (.int v6_3), .val (.ref b22), .val (.ref b30), .val (.int v9_142), .unset] [(.int p3)])) _
        refine st35 _ ?_
        show Steps p.tables e below (T35.setTop (mkF m 148 #[.val (.int p0), .val (.int p1), .val (.int p2), .val (.int p3), .val (.int p4), .val (.int p5), .val (.int v6_3), .val (.ref b22), .val (.ref b30), .val (.int v9_142), .unset] [(.int (f_4 p3))])) _
        refine XS.sipush X35.here hx rfl (hb hby at_148) ?_
        show Steps p.tables e below (T35.setTop (mkF m 151 #[.val (.int p0), .val (.int p1), .val (.int p2), .val (.int p3), .val (.int p4), .val (.int p5), .val (.int v6_3), .val (.ref b22), .val (.ref b30), .val (.int v9_142), .unset] [(.int (256 : Int32)), (.int (f_4 p3))])) _
        refine XS.imul X35.here hx rfl (hb hby at_151) rfl ?_
        show Steps p.tables e below (T35.setTop (mkF m 152 #[.val (.int p0), .val (.int p1), .val (.int p2), .val (.int p3), .val (.int p4), .val (.int p5), .val (.int v6_3), .val (.ref b22), .val (.ref b30), .val (.int v9_142), .unset] [(.int ((f_4 p3) * (256 : Int32)))])) _
        refine XS.iload X35.here hx rfl (hb hby at_152) rfl  ?_
        exact k
      obtain ⟨_, _, ⟨T37, L37, k37, n37⟩, -, X37, ⟨Lc37, hQ37, l37, y37, z37⟩, st37⟩ := Jvm.LawKit.callS X35 hx (y := (⟨"com/example/cardwire/cardwire/core/ResponseApduStatusWordPinLaw", "unsigned", "(I)I"⟩ : MethodName)) hown (mvT hZ (hw _ (List.mem_of_getElem? (i := 26) rfl))) (mvT hZ (hw _ (List.mem_of_getElem? (i := 27) rfl))) (mvT hZ (hw _ (List.mem_of_getElem? (i := 28) rfl))) (mvT hZ (hw _ (List.mem_of_getElem? (i := 29) rfl))) (by decide) (backOf (W := 1) (rm_4 l Z a0 hw [] p4 T31.heap n0 Z31 ) hZ (hw _ (List.mem_of_getElem? (i := 29) rfl)) (hw _ (List.mem_of_getElem? (i := 28) rfl)) (by decide) (by decide)) (g := (mkF m 154 #[.val (.int p0), .val (.int p1), .val (.int p2), .val (.int p3), .val (.int p4), .val (.int p5), .val (.int v6_3), .val (.ref b22), .val (.ref b30), .val (.int v9_142), .unset] [(.int p4), (.int ((f_4 p3) * (256 : Int32)))])) rfl (by rw [hml]; rfl) (argsL := [(.int p4)]) (rest := [(.int ((f_4 p3) * (256 : Int32)))]) (lenOf pd_2 rfl) rfl (by show 2 * 0 + _ ≤ _; exact Nat.le_of_eq rfl) (hb hby at_154) (fun _ _ => ⟨rfl, e35, (by decide : 3 + 0 ≤ _), (by decide : 7 + 0 ≤ _)⟩)
      dsimp only [Pt.U, Pt.locs, Pt.cells, Pt.slots] at X37 l37 y37 z37 st37 hQ37
      subst l37 y37 z37
      obtain ⟨rfl, N37q, e37⟩ := hQ37
      have N37 := Fr.app N35 N37q
      obtain ⟨v10_158, hv10_158⟩ : ∃ z : Int32, z = (((f_4 p3) * (256 : Int32)) + (f_4 p4)) := ⟨_, rfl⟩
      have pre39 : ∀ t, Steps p.tables e below (T37.setTop (mkF m 164 #[.val (.int p0), .val (.int p1), .val (.int p2), .val (.int p3), .val (.int p4), .val (.int p5), .val (.int v6_3), .val (.ref b22), .val (.ref b30), .val (.int v9_142), .val (.int v10_158)] [(.int v10_158), (.int v9_142)])) t → Steps p.tables e below (s₁.setTop (entryFrame m #[(.int p0), (.int p1), (.int p2), (.int p3), (.int p4), (.int p5)] maxLocals)) t := by
        intro t k
        refine pre38 t ?_
        show Steps p.tables e below (T35.setTop (mkF m 154 #[.val (.int p0), .val (.int p1), .val (.int p2), .val (.int p3), .val (.int p4), .val (.int p5), .val (.int v6_3), .val (.ref b22), .val (.ref b30), .val (.int v9_142), .unset] [(.int p4), (.int ((f_4 p3) * (256 : Int32)))])) _
        refine st37 _ ?_
        show Steps p.tables e below (T37.setTop (mkF m 157 #[.val (.int p0), .val (.int p1), .val (.int p2), .val (.int p3), .val (.int p4), .val (.int p5), .val (.int v6_3), .val (.ref b22), .val (.ref b30), .val (.int v9_142), .unset] [(.int (f_4 p4)), (.int ((f_4 p3) * (256 : Int32)))])) _
        refine XS.iadd X37.here hx rfl (hb hby at_157) rfl ?_
        show Steps p.tables e below (T37.setTop (mkF m 158 #[.val (.int p0), .val (.int p1), .val (.int p2), .val (.int p3), .val (.int p4), .val (.int p5), .val (.int v6_3), .val (.ref b22), .val (.ref b30), .val (.int v9_142), .unset] [(.int (((f_4 p3) * (256 : Int32)) + (f_4 p4)))])) _
        refine XS.istore X37.here hx rfl (hb hby at_158) rfl (l' := #[.val (.int p0), .val (.int p1), .val (.int p2), .val (.int p3), .val (.int p4), .val (.int p5), .val (.int v6_3), .val (.ref b22), .val (.ref b30), .val (.int v9_142), .val (.int v10_158)]) (by rw [hv10_158]; rfl) ?_
        show Steps p.tables e below (T37.setTop (mkF m 160 #[.val (.int p0), .val (.int p1), .val (.int p2), .val (.int p3), .val (.int p4), .val (.int p5), .val (.int v6_3), .val (.ref b22), .val (.ref b30), .val (.int v9_142), .val (.int v10_158)] [])) _
        refine XS.iload X37.here hx rfl (hb hby at_160) rfl  ?_
        show Steps p.tables e below (T37.setTop (mkF m 162 #[.val (.int p0), .val (.int p1), .val (.int p2), .val (.int p3), .val (.int p4), .val (.int p5), .val (.int v6_3), .val (.ref b22), .val (.ref b30), .val (.int v9_142), .val (.int v10_158)] [(.int v9_142)])) _
        refine XS.iload X37.here hx rfl (hb hby at_162) rfl  ?_
        exact k
      obtain ⟨ms0_184, hms0_184⟩ : ∃ z : Int32, z = (if v9_142 = v10_158 then (if v9_142 < (0 : Int32) then (0 : Int32) else (if (65535 : Int32) < v9_142 then (0 : Int32) else (1 : Int32))) else (0 : Int32)) := ⟨_, rfl⟩
      have pre40 : ∀ t, Steps p.tables e below (T37.setTop (mkF m 184 #[.val (.int p0), .val (.int p1), .val (.int p2), .val (.int p3), .val (.int p4), .val (.int p5), .val (.int v6_3), .val (.ref b22), .val (.ref b30), .val (.int v9_142), .val (.int v10_158)] [(.int ms0_184)])) t → Steps p.tables e below (s₁.setTop (entryFrame m #[(.int p0), (.int p1), (.int p2), (.int p3), (.int p4), (.int p5)] maxLocals)) t := by
        intro t k
        refine pre39 t ?_
        by_cases hc164 : v9_142 = v10_158
        · show Steps p.tables e below (T37.setTop (mkF m 164 #[.val (.int p0), .val (.int p1), .val (.int p2), .val (.int p3), .val (.int p4), .val (.int p5), .val (.int v6_3), .val (.ref b22), .val (.ref b30), .val (.int v9_142), .val (.int v10_158)] [(.int v10_158), (.int v9_142)])) _
          refine XS.icmpNo X37.here hx rfl (hb hby at_164) rfl (teq hc164).2 ?_
          show Steps p.tables e below (T37.setTop (mkF m 167 #[.val (.int p0), .val (.int p1), .val (.int p2), .val (.int p3), .val (.int p4), .val (.int p5), .val (.int v6_3), .val (.ref b22), .val (.ref b30), .val (.int v9_142), .val (.int v10_158)] [])) _
          refine XS.iload X37.here hx rfl (hb hby at_167) rfl  ?_
          by_cases hc169 : v9_142 < (0 : Int32)
          · show Steps p.tables e below (T37.setTop (mkF m 169 #[.val (.int p0), .val (.int p1), .val (.int p2), .val (.int p3), .val (.int p4), .val (.int p5), .val (.int v6_3), .val (.ref b22), .val (.ref b30), .val (.int v9_142), .val (.int v10_158)] [(.int v9_142)])) _
            refine XS.ifYes X37.here hx rfl (pc0 := 169) (pc' := 183) rfl (hb hby at_169) rfl ((if0 _ _).trans (tlt hc169).1) (by decide) (by decide) ?_
            show Steps p.tables e below (T37.setTop (mkF m 183 #[.val (.int p0), .val (.int p1), .val (.int p2), .val (.int p3), .val (.int p4), .val (.int p5), .val (.int v6_3), .val (.ref b22), .val (.ref b30), .val (.int v9_142), .val (.int v10_158)] [])) _
            refine XS.iconst X37.here hx rfl (hb hby at_183) ?_
            have qms0_184 : ms0_184 = (0 : Int32) := by rw [hms0_184, if_pos hc164, if_pos hc169]
            rw [qms0_184] at k
            exact k
          · show Steps p.tables e below (T37.setTop (mkF m 169 #[.val (.int p0), .val (.int p1), .val (.int p2), .val (.int p3), .val (.int p4), .val (.int p5), .val (.int v6_3), .val (.ref b22), .val (.ref b30), .val (.int v9_142), .val (.int v10_158)] [(.int v9_142)])) _
            refine XS.ifNo X37.here hx rfl (hb hby at_169) rfl ((if0 _ _).trans (flt hc169).1) ?_
            show Steps p.tables e below (T37.setTop (mkF m 172 #[.val (.int p0), .val (.int p1), .val (.int p2), .val (.int p3), .val (.int p4), .val (.int p5), .val (.int v6_3), .val (.ref b22), .val (.ref b30), .val (.int v9_142), .val (.int v10_158)] [])) _
            refine XS.iload X37.here hx rfl (hb hby at_172) rfl  ?_
            show Steps p.tables e below (T37.setTop (mkF m 174 #[.val (.int p0), .val (.int p1), .val (.int p2), .val (.int p3), .val (.int p4), .val (.int p5), .val (.int v6_3), .val (.ref b22), .val (.ref b30), .val (.int v9_142), .val (.int v10_158)] [(.int v9_142)])) _
            refine X37.ldcInt hx hown (mvT hZ (hw _ (List.mem_of_getElem? (i := 30) rfl))) (g := (mkF m 174 #[.val (.int p0), .val (.int p1), .val (.int p2), .val (.int p3), .val (.int p4), .val (.int p5), .val (.int v6_3), .val (.ref b22), .val (.ref b30), .val (.int v9_142), .val (.int v10_158)] [(.int v9_142)])) rfl (hb hby at_174) _ ?_
            by_cases hc176 : (65535 : Int32) < v9_142
            · show Steps p.tables e below (T37.setTop (mkF m 176 #[.val (.int p0), .val (.int p1), .val (.int p2), .val (.int p3), .val (.int p4), .val (.int p5), .val (.int v6_3), .val (.ref b22), .val (.ref b30), .val (.int v9_142), .val (.int v10_158)] [(.int (65535 : Int32)), (.int v9_142)])) _
              refine XS.icmpYes X37.here hx rfl (pc0 := 176) (pc' := 183) rfl (hb hby at_176) rfl (tlt hc176).2.2.1 (by decide) (by decide) ?_
              show Steps p.tables e below (T37.setTop (mkF m 183 #[.val (.int p0), .val (.int p1), .val (.int p2), .val (.int p3), .val (.int p4), .val (.int p5), .val (.int v6_3), .val (.ref b22), .val (.ref b30), .val (.int v9_142), .val (.int v10_158)] [])) _
              refine XS.iconst X37.here hx rfl (hb hby at_183) ?_
              have qms0_184 : ms0_184 = (0 : Int32) := by rw [hms0_184, if_pos hc164, if_neg hc169, if_pos hc176]
              rw [qms0_184] at k
              exact k
            · show Steps p.tables e below (T37.setTop (mkF m 176 #[.val (.int p0), .val (.int p1), .val (.int p2), .val (.int p3), .val (.int p4), .val (.int p5), .val (.int v6_3), .val (.ref b22), .val (.ref b30), .val (.int v9_142), .val (.int v10_158)] [(.int (65535 : Int32)), (.int v9_142)])) _
              refine XS.icmpNo X37.here hx rfl (hb hby at_176) rfl (flt hc176).2.2.1 ?_
              show Steps p.tables e below (T37.setTop (mkF m 179 #[.val (.int p0), .val (.int p1), .val (.int p2), .val (.int p3), .val (.int p4), .val (.int p5), .val (.int v6_3), .val (.ref b22), .val (.ref b30), .val (.int v9_142), .val (.int v10_158)] [])) _
              refine XS.iconst X37.here hx rfl (hb hby at_179) ?_
              show Steps p.tables e below (T37.setTop (mkF m 180 #[.val (.int p0), .val (.int p1), .val (.int p2), .val (.int p3), .val (.int p4), .val (.int p5), .val (.int v6_3), .val (.ref b22), .val (.ref b30), .val (.int v9_142), .val (.int v10_158)] [(.int (1 : Int32))])) _
              refine XS.goto X37.here hx rfl (pc0 := 180) (pc' := 184) rfl (hb hby at_180) (by decide) (by decide) ?_
              have qms0_184 : ms0_184 = (1 : Int32) := by rw [hms0_184, if_pos hc164, if_neg hc169, if_neg hc176]
              rw [qms0_184] at k
              exact k
        · show Steps p.tables e below (T37.setTop (mkF m 164 #[.val (.int p0), .val (.int p1), .val (.int p2), .val (.int p3), .val (.int p4), .val (.int p5), .val (.int v6_3), .val (.ref b22), .val (.ref b30), .val (.int v9_142), .val (.int v10_158)] [(.int v10_158), (.int v9_142)])) _
          refine XS.icmpYes X37.here hx rfl (pc0 := 164) (pc' := 183) rfl (hb hby at_164) rfl (feq hc164).2 (by decide) (by decide) ?_
          show Steps p.tables e below (T37.setTop (mkF m 183 #[.val (.int p0), .val (.int p1), .val (.int p2), .val (.int p3), .val (.int p4), .val (.int p5), .val (.int v6_3), .val (.ref b22), .val (.ref b30), .val (.int v9_142), .val (.int v10_158)] [])) _
          refine XS.iconst X37.here hx rfl (hb hby at_183) ?_
          have qms0_184 : ms0_184 = (0 : Int32) := by rw [hms0_184, if_neg hc164]
          rw [qms0_184] at k
          exact k
      have hnar : nar .boolean ms0_184 = ms0_184 := by rw [hms0_184]; (repeat' split) <;> rfl
      obtain ⟨fs, hr, hrun, hended, hW, hsame⟩ := X37.leave (v := some (.int ms0_184)) (fun h => by rw [Bd.returns] at h; cases h)
      refine ⟨_, _, pre40 _ ?_, hrun, hended, _, _, rfl, ?_, ⟨_, rfl⟩, hW, hsame.mono (by decide) (by decide)⟩
      · show Steps p.tables e below (T37.setTop (mkF m 184 #[.val (.int p0), .val (.int p1), .val (.int p2), .val (.int p3), .val (.int p4), .val (.int p5), .val (.int v6_3), .val (.ref b22), .val (.ref b30), .val (.int v9_142), .val (.int v10_158)] [(.int ms0_184)])) _
        exact retN X37 hx (t := .boolean) Bd.returns (by simp) (hb hby at_184) (by rw [hnar]; exact hr)
      · show Q_0 Z p0 p1 p2 p3 p4 p5 h0 n0 _ T37.heap _
        rw [e37]
        exact ⟨congrArg (fun z => some (Value.int z)) (by subst hv6_3 hg_42 hg_47 hg_53 hv9_142 hv10_158 hms0_184; exact ((if_neg hc7).trans (if_pos hc32)).symm : ms0_184 = f_0 p0 p1 p2 p3 p4 p5), N37, trivial⟩
    · have pre41 : ∀ t, Steps p.tables e below (s₁.setTop (mkF m 62 #[.val (.int p0), .val (.int p1), .val (.int p2), .val (.int p3), .val (.int p4), .val (.int p5), .val (.int v6_3), .unset, .unset, .unset, .unset] [(.int (2 : Int32)), (.int v6_3)])) t → Steps p.tables e below (s₁.setTop (entryFrame m #[(.int p0), (.int p1), (.int p2), (.int p3), (.int p4), (.int p5)] maxLocals)) t := by
        intro t k
        refine pre20 t ?_
        show Steps p.tables e below (s₁.setTop (mkF m 32 #[.val (.int p0), .val (.int p1), .val (.int p2), .val (.int p3), .val (.int p4), .val (.int p5), .val (.int v6_3), .unset, .unset, .unset, .unset] [(.int (1 : Int32)), (.int v6_3)])) _
        refine XS.icmpYes X0.here hx rfl (pc0 := 32) (pc' := 59) rfl (hb hby at_32) rfl (feq hc32).2 (by decide) (by decide) ?_
        show Steps p.tables e below (s₁.setTop (mkF m 59 #[.val (.int p0), .val (.int p1), .val (.int p2), .val (.int p3), .val (.int p4), .val (.int p5), .val (.int v6_3), .unset, .unset, .unset, .unset] [])) _
        refine XS.iload X0.here hx rfl (hb hby at_59) rfl  ?_
        show Steps p.tables e below (s₁.setTop (mkF m 61 #[.val (.int p0), .val (.int p1), .val (.int p2), .val (.int p3), .val (.int p4), .val (.int p5), .val (.int v6_3), .unset, .unset, .unset, .unset] [(.int v6_3)])) _
        refine XS.iconst X0.here hx rfl (hb hby at_61) ?_
        exact k
      by_cases hc62 : v6_3 = (2 : Int32)
      · have pre42 : ∀ t, Steps p.tables e below (s₁.setTop (mkF m 66 #[.val (.int p0), .val (.int p1), .val (.int p2), .val (.int p3), .val (.int p4), .val (.int p5), .val (.int v6_3), .unset, .unset, .unset, .unset] [(.int (4 : Int32))])) t → Steps p.tables e below (s₁.setTop (entryFrame m #[(.int p0), (.int p1), (.int p2), (.int p3), (.int p4), (.int p5)] maxLocals)) t := by
          intro t k
          refine pre41 t ?_
          show Steps p.tables e below (s₁.setTop (mkF m 62 #[.val (.int p0), .val (.int p1), .val (.int p2), .val (.int p3), .val (.int p4), .val (.int p5), .val (.int v6_3), .unset, .unset, .unset, .unset] [(.int (2 : Int32)), (.int v6_3)])) _
          refine XS.icmpNo X0.here hx rfl (hb hby at_62) rfl (teq hc62).2 ?_
          show Steps p.tables e below (s₁.setTop (mkF m 65 #[.val (.int p0), .val (.int p1), .val (.int p2), .val (.int p3), .val (.int p4), .val (.int p5), .val (.int v6_3), .unset, .unset, .unset, .unset] [])) _
          refine XS.iconst X0.here hx rfl (hb hby at_65) ?_
          exact k
        obtain ⟨T43, h43, b43, gb43, X43, e43, E43, A43, B43, st43⟩ := own_newPE X0 hx hZ (hw _ (List.mem_of_getElem? (i := 0) rfl)) e0 (g := (mkF m 66 #[.val (.int p0), .val (.int p1), .val (.int p2), .val (.int p3), .val (.int p4), .val (.int p5), .val (.int v6_3), .unset, .unset, .unset, .unset] [(.int (4 : Int32))])) rfl (hb hby at_66) rfl (by decide) (n := 4) rfl (G := fun i => .int (own_zI i)) (fun _ => rfl) (cap := 4) (by decide) (by decide) (by decide) (by decide) (ad := "[B") (by decide)
        have sz_b43 : h0.size ≤ b43 := Nat.le_trans K0.1 (Nat.le_of_eq gb43.symm)
        have ge_b43 : n0 ≤ b43 := Nat.le_trans Z0 (Nat.le_of_eq gb43.symm)
        have K43 := K0.ext E43
        have Z43 := Nat.le_trans Z0 E43.1
        have pre44 : ∀ t, Steps p.tables e below (T43.setTop (mkF m 72 #[.val (.int p0), .val (.int p1), .val (.int p2), .val (.int p3), .val (.int p4), .val (.int p5), .val (.int v6_3), .unset, .unset, .unset, .unset] [(.int (p1.toInt8.toInt32)), (.int (0 : Int32)), (.ref b43), (.ref b43)])) t → Steps p.tables e below (s₁.setTop (entryFrame m #[(.int p0), (.int p1), (.int p2), (.int p3), (.int p4), (.int p5)] maxLocals)) t := by
          intro t k
          refine pre42 t ?_
          show Steps p.tables e below (s₁.setTop (mkF m 66 #[.val (.int p0), .val (.int p1), .val (.int p2), .val (.int p3), .val (.int p4), .val (.int p5), .val (.int v6_3), .unset, .unset, .unset, .unset] [(.int (4 : Int32))])) _
          refine st43 _ ?_
          show Steps p.tables e below (T43.setTop (mkF m 68 #[.val (.int p0), .val (.int p1), .val (.int p2), .val (.int p3), .val (.int p4), .val (.int p5), .val (.int v6_3), .unset, .unset, .unset, .unset] [(.ref b43)])) _
          refine XS.dup X43.here hx rfl (hb hby at_68) rfl rfl ?_
          show Steps p.tables e below (T43.setTop (mkF m 69 #[.val (.int p0), .val (.int p1), .val (.int p2), .val (.int p3), .val (.int p4), .val (.int p5), .val (.int v6_3), .unset, .unset, .unset, .unset] [(.ref b43), (.ref b43)])) _
          refine XS.iconst X43.here hx rfl (hb hby at_69) ?_
          show Steps p.tables e below (T43.setTop (mkF m 70 #[.val (.int p0), .val (.int p1), .val (.int p2), .val (.int p3), .val (.int p4), .val (.int p5), .val (.int v6_3), .unset, .unset, .unset, .unset] [(.int (0 : Int32)), (.ref b43), (.ref b43)])) _
          refine XS.iloadN X43.here hx rfl (hb hby at_70) rfl  ?_
          show Steps p.tables e below (T43.setTop (mkF m 71 #[.val (.int p0), .val (.int p1), .val (.int p2), .val (.int p3), .val (.int p4), .val (.int p5), .val (.int v6_3), .unset, .unset, .unset, .unset] [(.int p1), (.int (0 : Int32)), (.ref b43), (.ref b43)])) _
          refine XS.i2b X43.here hx rfl (hb hby at_71) rfl ?_
          exact k
        obtain ⟨T45, h45, X45, e45, W45, A45, st45⟩ := own_stB X43 hx hZ e43 A43 (j := (0 : Int32)) (x := (p1.toInt8.toInt32)) (k := 0) (by decide) (by decide) (by decide) (g := (mkF m 72 #[.val (.int p0), .val (.int p1), .val (.int p2), .val (.int p3), .val (.int p4), .val (.int p5), .val (.int v6_3), .unset, .unset, .unset, .unset] [(.int (p1.toInt8.toInt32)), (.int (0 : Int32)), (.ref b43), (.ref b43)])) rfl rfl (hb hby at_72)
        obtain ⟨g_72, hg_72⟩ : ∃ z : Nat → Int32, z = (own_upd own_zI 0 (p1.toInt8.toInt32).toInt8.toInt32) := ⟨_, rfl⟩
        rw [← hg_72] at A45
        have exa_b43_45 := B43.wr W45
        have K45 := K43.wr W45 (Or.inr sz_b43)
        have Z45 := Nat.le_trans Z43 (Nat.le_of_eq W45.size.symm)
        have N45 := Fr.snoc X45 N0 ge_b43
        have pre46 : ∀ t, Steps p.tables e below (T45.setTop (mkF m 77 #[.val (.int p0), .val (.int p1), .val (.int p2), .val (.int p3), .val (.int p4), .val (.int p5), .val (.int v6_3), .unset, .unset, .unset, .unset] [(.int (p2.toInt8.toInt32)), (.int (1 : Int32)), (.ref b43), (.ref b43)])) t → Steps p.tables e below (s₁.setTop (entryFrame m #[(.int p0), (.int p1), (.int p2), (.int p3), (.int p4), (.int p5)] maxLocals)) t := by
          intro t k
          refine pre44 t ?_
          show Steps p.tables e below (T43.setTop (mkF m 72 #[.val (.int p0), .val (.int p1), .val (.int p2), .val (.int p3), .val (.int p4), .val (.int p5), .val (.int v6_3), .unset, .unset, .unset, .unset] [(.int (p1.toInt8.toInt32)), (.int (0 : Int32)), (.ref b43), (.ref b43)])) _
          refine st45 _ ?_
          show Steps p.tables e below (T45.setTop (mkF m 73 #[.val (.int p0), .val (.int p1), .val (.int p2), .val (.int p3), .val (.int p4), .val (.int p5), .val (.int v6_3), .unset, .unset, .unset, .unset] [(.ref b43)])) _
          refine XS.dup X45.here hx rfl (hb hby at_73) rfl rfl ?_
          show Steps p.tables e below (T45.setTop (mkF m 74 #[.val (.int p0), .val (.int p1), .val (.int p2), .val (.int p3), .val (.int p4), .val (.int p5), .val (.int v6_3), .unset, .unset, .unset, .unset] [(.ref b43), (.ref b43)])) _
          refine XS.iconst X45.here hx rfl (hb hby at_74) ?_
          show Steps p.tables e below (T45.setTop (mkF m 75 #[.val (.int p0), .val (.int p1), .val (.int p2), .val (.int p3), .val (.int p4), .val (.int p5), .val (.int v6_3), .unset, .unset, .unset, .unset] [(.int (1 : Int32)), (.ref b43), (.ref b43)])) _
          refine XS.iloadN X45.here hx rfl (hb hby at_75) rfl  ?_
          show Steps p.tables e below (T45.setTop (mkF m 76 #[.val (.int p0), .val (.int p1), .val (.int p2), .val (.int p3), .val (.int p4), .val (.int p5), .val (.int v6_3), .unset, .unset, .unset, .unset] [(.int p2), (.int (1 : Int32)), (.ref b43), (.ref b43)])) _
          refine XS.i2b X45.here hx rfl (hb hby at_76) rfl ?_
          exact k
        obtain ⟨T47, h47, X47, e47, W47, A47, st47⟩ := own_stB X45 hx hZ e45 A45 (j := (1 : Int32)) (x := (p2.toInt8.toInt32)) (k := 1) (by decide) (by decide) (by decide) (g := (mkF m 77 #[.val (.int p0), .val (.int p1), .val (.int p2), .val (.int p3), .val (.int p4), .val (.int p5), .val (.int v6_3), .unset, .unset, .unset, .unset] [(.int (p2.toInt8.toInt32)), (.int (1 : Int32)), (.ref b43), (.ref b43)])) rfl rfl (hb hby at_77)
        obtain ⟨g_77, hg_77⟩ : ∃ z : Nat → Int32, z = (own_upd g_72 1 (p2.toInt8.toInt32).toInt8.toInt32) := ⟨_, rfl⟩
        rw [← hg_77] at A47
        have exa_b43_47 := exa_b43_45.wr W47
        have K47 := K45.wr W47 (Or.inr sz_b43)
        have Z47 := Nat.le_trans Z45 (Nat.le_of_eq W47.size.symm)
        have N47 := Fr.snoc X47 N45 ge_b43
        have pre48 : ∀ t, Steps p.tables e below (T47.setTop (mkF m 82 #[.val (.int p0), .val (.int p1), .val (.int p2), .val (.int p3), .val (.int p4), .val (.int p5), .val (.int v6_3), .unset, .unset, .unset, .unset] [(.int (p3.toInt8.toInt32)), (.int (2 : Int32)), (.ref b43), (.ref b43)])) t → Steps p.tables e below (s₁.setTop (entryFrame m #[(.int p0), (.int p1), (.int p2), (.int p3), (.int p4), (.int p5)] maxLocals)) t := by
          intro t k
          refine pre46 t ?_
          show Steps p.tables e below (T45.setTop (mkF m 77 #[.val (.int p0), .val (.int p1), .val (.int p2), .val (.int p3), .val (.int p4), .val (.int p5), .val (.int v6_3), .unset, .unset, .unset, .unset] [(.int (p2.toInt8.toInt32)), (.int (1 : Int32)), (.ref b43), (.ref b43)])) _
          refine st47 _ ?_
          show Steps p.tables e below (T47.setTop (mkF m 78 #[.val (.int p0), .val (.int p1), .val (.int p2), .val (.int p3), .val (.int p4), .val (.int p5), .val (.int v6_3), .unset, .unset, .unset, .unset] [(.ref b43)])) _
          refine XS.dup X47.here hx rfl (hb hby at_78) rfl rfl ?_
          show Steps p.tables e below (T47.setTop (mkF m 79 #[.val (.int p0), .val (.int p1), .val (.int p2), .val (.int p3), .val (.int p4), .val (.int p5), .val (.int v6_3), .unset, .unset, .unset, .unset] [(.ref b43), (.ref b43)])) _
          refine XS.iconst X47.here hx rfl (hb hby at_79) ?_
          show Steps p.tables e below (T47.setTop (mkF m 80 #[.val (.int p0), .val (.int p1), .val (.int p2), .val (.int p3), .val (.int p4), .val (.int p5), .val (.int v6_3), .unset, .unset, .unset, .unset] [(.int (2 : Int32)), (.ref b43), (.ref b43)])) _
          refine XS.iloadN X47.here hx rfl (hb hby at_80) rfl  ?_
          show Steps p.tables e below (T47.setTop (mkF m 81 #[.val (.int p0), .val (.int p1), .val (.int p2), .val (.int p3), .val (.int p4), .val (.int p5), .val (.int v6_3), .unset, .unset, .unset, .unset] [(.int p3), (.int (2 : Int32)), (.ref b43), (.ref b43)])) _
          refine XS.i2b X47.here hx rfl (hb hby at_81) rfl ?_
          exact k
        obtain ⟨T49, h49, X49, e49, W49, A49, st49⟩ := own_stB X47 hx hZ e47 A47 (j := (2 : Int32)) (x := (p3.toInt8.toInt32)) (k := 2) (by decide) (by decide) (by decide) (g := (mkF m 82 #[.val (.int p0), .val (.int p1), .val (.int p2), .val (.int p3), .val (.int p4), .val (.int p5), .val (.int v6_3), .unset, .unset, .unset, .unset] [(.int (p3.toInt8.toInt32)), (.int (2 : Int32)), (.ref b43), (.ref b43)])) rfl rfl (hb hby at_82)
        obtain ⟨g_82, hg_82⟩ : ∃ z : Nat → Int32, z = (own_upd g_77 2 (p3.toInt8.toInt32).toInt8.toInt32) := ⟨_, rfl⟩
        rw [← hg_82] at A49
        have exa_b43_49 := exa_b43_47.wr W49
        have K49 := K47.wr W49 (Or.inr sz_b43)
        have Z49 := Nat.le_trans Z47 (Nat.le_of_eq W49.size.symm)
        have N49 := Fr.snoc X49 N47 ge_b43
        have pre50 : ∀ t, Steps p.tables e below (T49.setTop (mkF m 88 #[.val (.int p0), .val (.int p1), .val (.int p2), .val (.int p3), .val (.int p4), .val (.int p5), .val (.int v6_3), .unset, .unset, .unset, .unset] [(.int (p4.toInt8.toInt32)), (.int (3 : Int32)), (.ref b43), (.ref b43)])) t → Steps p.tables e below (s₁.setTop (entryFrame m #[(.int p0), (.int p1), (.int p2), (.int p3), (.int p4), (.int p5)] maxLocals)) t := by
          intro t k
          refine pre48 t ?_
          show Steps p.tables e below (T47.setTop (mkF m 82 #[.val (.int p0), .val (.int p1), .val (.int p2), .val (.int p3), .val (.int p4), .val (.int p5), .val (.int v6_3), .unset, .unset, .unset, .unset] [(.int (p3.toInt8.toInt32)), (.int (2 : Int32)), (.ref b43), (.ref b43)])) _
          refine st49 _ ?_
          show Steps p.tables e below (T49.setTop (mkF m 83 #[.val (.int p0), .val (.int p1), .val (.int p2), .val (.int p3), .val (.int p4), .val (.int p5), .val (.int v6_3), .unset, .unset, .unset, .unset] [(.ref b43)])) _
          refine XS.dup X49.here hx rfl (hb hby at_83) rfl rfl ?_
          show Steps p.tables e below (T49.setTop (mkF m 84 #[.val (.int p0), .val (.int p1), .val (.int p2), .val (.int p3), .val (.int p4), .val (.int p5), .val (.int v6_3), .unset, .unset, .unset, .unset] [(.ref b43), (.ref b43)])) _
          refine XS.iconst X49.here hx rfl (hb hby at_84) ?_
          show Steps p.tables e below (T49.setTop (mkF m 85 #[.val (.int p0), .val (.int p1), .val (.int p2), .val (.int p3), .val (.int p4), .val (.int p5), .val (.int v6_3), .unset, .unset, .unset, .unset] [(.int (3 : Int32)), (.ref b43), (.ref b43)])) _
          refine XS.iload X49.here hx rfl (hb hby at_85) rfl  ?_
          show Steps p.tables e below (T49.setTop (mkF m 87 #[.val (.int p0), .val (.int p1), .val (.int p2), .val (.int p3), .val (.int p4), .val (.int p5), .val (.int v6_3), .unset, .unset, .unset, .unset] [(.int p4), (.int (3 : Int32)), (.ref b43), (.ref b43)])) _
          refine XS.i2b X49.here hx rfl (hb hby at_87) rfl ?_
          exact k
        obtain ⟨T51, h51, X51, e51, W51, A51, st51⟩ := own_stB X49 hx hZ e49 A49 (j := (3 : Int32)) (x := (p4.toInt8.toInt32)) (k := 3) (by decide) (by decide) (by decide) (g := (mkF m 88 #[.val (.int p0), .val (.int p1), .val (.int p2), .val (.int p3), .val (.int p4), .val (.int p5), .val (.int v6_3), .unset, .unset, .unset, .unset] [(.int (p4.toInt8.toInt32)), (.int (3 : Int32)), (.ref b43), (.ref b43)])) rfl rfl (hb hby at_88)
        obtain ⟨g_88, hg_88⟩ : ∃ z : Nat → Int32, z = (own_upd g_82 3 (p4.toInt8.toInt32).toInt8.toInt32) := ⟨_, rfl⟩
        rw [← hg_88] at A51
        have exa_b43_51 := exa_b43_49.wr W51
        have K51 := K49.wr W51 (Or.inr sz_b43)
        have Z51 := Nat.le_trans Z49 (Nat.le_of_eq W51.size.symm)
        have N51 := Fr.snoc X51 N49 ge_b43
        have pre52 : ∀ t, Steps p.tables e below (T51.setTop (mkF m 126 #[.val (.int p0), .val (.int p1), .val (.int p2), .val (.int p3), .val (.int p4), .val (.int p5), .val (.int v6_3), .val (.ref b43), .unset, .unset, .unset] [])) t → Steps p.tables e below (s₁.setTop (entryFrame m #[(.int p0), (.int p1), (.int p2), (.int p3), (.int p4), (.int p5)] maxLocals)) t := by
          intro t k
          refine pre50 t ?_
          show Steps p.tables e below (T49.setTop (mkF m 88 #[.val (.int p0), .val (.int p1), .val (.int p2), .val (.int p3), .val (.int p4), .val (.int p5), .val (.int v6_3), .unset, .unset, .unset, .unset] [(.int (p4.toInt8.toInt32)), (.int (3 : Int32)), (.ref b43), (.ref b43)])) _
          refine st51 _ ?_
          show Steps p.tables e below (T51.setTop (mkF m 89 #[.val (.int p0), .val (.int p1), .val (.int p2), .val (.int p3), .val (.int p4), .val (.int p5), .val (.int v6_3), .unset, .unset, .unset, .unset] [(.ref b43)])) _
          refine XS.astore X51.here hx rfl (hb hby at_89) rfl rfl (l' := #[.val (.int p0), .val (.int p1), .val (.int p2), .val (.int p3), .val (.int p4), .val (.int p5), .val (.int v6_3), .val (.ref b43), .unset, .unset, .unset]) rfl ?_
          show Steps p.tables e below (T51.setTop (mkF m 91 #[.val (.int p0), .val (.int p1), .val (.int p2), .val (.int p3), .val (.int p4), .val (.int p5), .val (.int v6_3), .val (.ref b43), .unset, .unset, .unset] [])) _
          refine XS.goto X51.here hx rfl (pc0 := 91) (pc' := 126) rfl (hb hby at_91) (by decide) (by decide) ?_
          exact k
        obtain ⟨T53, h53, X53, e53, E53, A53, D53, -, st53⟩ := newO X51 hx hZ hown (hw _ (List.mem_of_getElem? (i := 1) rfl)) (hw _ (List.mem_of_getElem? (i := 2) rfl)) (hw _ (List.mem_of_getElem? (i := 3) rfl)) e51 (g := (mkF m 126 #[.val (.int p0), .val (.int p1), .val (.int p2), .val (.int p3), .val (.int p4), .val (.int p5), .val (.int v6_3), .val (.ref b43), .unset, .unset, .unset] [])) rfl (hb hby at_126) (by decide) (by decide)
        obtain ⟨b53, gb53⟩ : ∃ z, z = h51.size := ⟨_, rfl⟩
        rw [← gb53] at A53 D53 st53
        have ne_b43_b53 : b43 ≠ b53 := Nat.ne_of_lt (Nat.lt_of_lt_of_le A51.lt (Nat.le_of_eq gb53.symm))
        have sz_b53 : h0.size ≤ b53 := Nat.le_trans K51.1 (Nat.le_of_eq gb53.symm)
        have ge_b53 : n0 ≤ b53 := Nat.le_trans Z51 (Nat.le_of_eq gb53.symm)
        have arr_b43_53 := A51.ext E53
        have exa_b43_53 := exa_b43_51.ext E53
        have K53 := K51.ext E53
        have Z53 := Nat.le_trans Z51 E53.1
        have F53_bytes : Fld Z h53 b53 "com/example/cardwire/cardwire/core/ResponseApdu" "bytes" "[B" .null := D53 (Or.inr (hw _ (List.mem_of_getElem? (i := 20) rfl))) (ty := (.array .byte)) (by decide)
        have pre55 : ∀ t, Steps p.tables e below (T53.setTop (mkF m 132 #[.val (.int p0), .val (.int p1), .val (.int p2), .val (.int p3), .val (.int p4), .val (.int p5), .val (.int v6_3), .val (.ref b43), .unset, .unset, .unset] [(.ref b43), (.ref b53), (.ref b53)])) t → Steps p.tables e below (s₁.setTop (entryFrame m #[(.int p0), (.int p1), (.int p2), (.int p3), (.int p4), (.int p5)] maxLocals)) t := by
          intro t k
          refine pre52 t ?_
          show Steps p.tables e below (T51.setTop (mkF m 126 #[.val (.int p0), .val (.int p1), .val (.int p2), .val (.int p3), .val (.int p4), .val (.int p5), .val (.int v6_3), .val (.ref b43), .unset, .unset, .unset] [])) _
          refine st53 _ ?_
          show Steps p.tables e below (T53.setTop (mkF m 129 #[.val (.int p0), .val (.int p1), .val (.int p2), .val (.int p3), .val (.int p4), .val (.int p5), .val (.int v6_3), .val (.ref b43), .unset, .unset, .unset] [(.ref b53)])) _
          refine XS.dup X53.here hx rfl (hb hby at_129) rfl rfl ?_
          show Steps p.tables e below (T53.setTop (mkF m 130 #[.val (.int p0), .val (.int p1), .val (.int p2), .val (.int p3), .val (.int p4), .val (.int p5), .val (.int v6_3), .val (.ref b43), .unset, .unset, .unset] [(.ref b53), (.ref b53)])) _
          refine XS.aload X53.here hx rfl (hb hby at_130) rfl rfl ?_
          exact k
        obtain ⟨_, _, ⟨T54, L54, k54, n54⟩, -, X54, ⟨Lc54, hQ54, l54, y54, z54⟩, st54⟩ := X53.specialBack hx (y := (⟨"com/example/cardwire/cardwire/core/ResponseApdu", "<init>", "([B)V"⟩ : MethodName)) rfl hown (mvT hZ (hw _ (List.mem_of_getElem? (i := 4) rfl))) (mvT hZ (hw _ (List.mem_of_getElem? (i := 5) rfl))) (mvT hZ (hw _ (List.mem_of_getElem? (i := 6) rfl))) (by decide) (backOf (W := 1) (rm_1t4 l Z a0 hw [] b53 b43 g_88 h53 n0 Z53 A53 F53_bytes ge_b53 arr_b43_53 exa_b43_53 ne_b43_b53.symm) hZ (hw _ (List.mem_of_getElem? (i := 6) rfl)) (hw _ (List.mem_of_getElem? (i := 3) rfl)) (by decide) (by decide)) (g := (mkF m 132 #[.val (.int p0), .val (.int p1), .val (.int p2), .val (.int p3), .val (.int p4), .val (.int p5), .val (.int v6_3), .val (.ref b43), .unset, .unset, .unset] [(.ref b43), (.ref b53), (.ref b53)])) rfl (by rw [hml]; rfl) (Steps.refl _) (a := b53) (argsL := [(.ref b43)]) (rest := [(.ref b53)]) (lenOf pd_0 rfl) rfl (by show 2 * 0 + _ ≤ _; exact Nat.le_of_eq rfl) (hb hby at_132) (fun _ _ => ⟨rfl, e53, (by decide : 2 + 1 ≤ _), (by decide : 5 + 4 ≤ _)⟩)
        dsimp only [Pt.U, Pt.locs, Pt.cells, Pt.slots] at X54 l54 y54 z54 st54 hQ54
        subst l54 y54 z54
        obtain ⟨w_54, rfl, N54q, sz0_w_54, Kc54, Q54_0, Q54_1, Q54_2⟩ := hQ54
        have Kd54 : Keep h53 T54.heap [b53] := Kc54
        have ne_b43_w_54 : b43 ≠ w_54 := Nat.ne_of_lt (Nat.lt_of_lt_of_le arr_b43_53.lt sz0_w_54)
        have ne_b53_w_54 : b53 ≠ w_54 := Nat.ne_of_lt (Nat.lt_of_lt_of_le A53.lt sz0_w_54)
        have sz_w_54 : h0.size ≤ w_54 := Nat.le_trans K53.1 sz0_w_54
        have ge_w_54 : n0 ≤ w_54 := Nat.le_trans Z53 sz0_w_54
        have arr_b43_54 := arr_b43_53.keep Kd54 (ninS ne_b43_b53 nin0)
        have exa_b43_54 := exa_b43_53.keep Kd54
        have exa_b53_54 := A53.keep Kd54
        have K54 := K53.trans Kd54 (allS (Or.inr sz_b53) all0)
        have Z54 := Nat.le_trans Z53 Kd54.1
        have N54 := Fr.app N51 N54q
        have pre57 : ∀ t, Steps p.tables e below (T54.setTop (mkF m 139 #[.val (.int p0), .val (.int p1), .val (.int p2), .val (.int p3), .val (.int p4), .val (.int p5), .val (.int v6_3), .val (.ref b43), .val (.ref b53), .unset, .unset] [(.ref b53)])) t → Steps p.tables e below (s₁.setTop (entryFrame m #[(.int p0), (.int p1), (.int p2), (.int p3), (.int p4), (.int p5)] maxLocals)) t := by
          intro t k
          refine pre55 t ?_
          show Steps p.tables e below (T53.setTop (mkF m 132 #[.val (.int p0), .val (.int p1), .val (.int p2), .val (.int p3), .val (.int p4), .val (.int p5), .val (.int v6_3), .val (.ref b43), .unset, .unset, .unset] [(.ref b43), (.ref b53), (.ref b53)])) _
          refine st54.trans ?_
          show Steps p.tables e below (T54.setTop (mkF m 135 #[.val (.int p0), .val (.int p1), .val (.int p2), .val (.int p3), .val (.int p4), .val (.int p5), .val (.int v6_3), .val (.ref b43), .unset, .unset, .unset] [(.ref b53)])) _
          refine XS.astore X54.here hx rfl (hb hby at_135) rfl rfl (l' := #[.val (.int p0), .val (.int p1), .val (.int p2), .val (.int p3), .val (.int p4), .val (.int p5), .val (.int v6_3), .val (.ref b43), .val (.ref b53), .unset, .unset]) rfl ?_
          show Steps p.tables e below (T54.setTop (mkF m 137 #[.val (.int p0), .val (.int p1), .val (.int p2), .val (.int p3), .val (.int p4), .val (.int p5), .val (.int v6_3), .val (.ref b43), .val (.ref b53), .unset, .unset] [])) _
          refine XS.aload X54.here hx rfl (hb hby at_137) rfl rfl ?_
          exact k
        obtain ⟨cq56, kq56, q56a, q56b, q56c⟩ := isOf hZ rfl Q54_0
        obtain ⟨_, _, ⟨T56, L56, k56, n56⟩, -, X56, ⟨Lc56, hQ56, l56, y56, z56⟩, st56⟩ := X54.virtualBack hx (y := (⟨"com/example/cardwire/cardwire/core/ResponseApdu", "statusWord", "()I"⟩ : MethodName)) (z := (⟨"com/example/cardwire/cardwire/core/ResponseApdu", "statusWord", "()I"⟩ : MethodName)) hown (mvT hZ (hw _ (List.mem_of_getElem? (i := 21) rfl))) (mvT hZ (hw _ (List.mem_of_getElem? (i := 22) rfl))) (notFace_of_selects (args := #[]) (mvT hZ (hw _ (List.mem_of_getElem? (i := 24) rfl)))) (mvT hZ (hw _ (List.mem_of_getElem? (i := 24) rfl))) (mvT hZ (hw _ (List.mem_of_getElem? (i := 23) rfl))) (by decide) (backOf (W := 0) (rm_3t4 l Z a0 hw [] b53 w_54 g_88 T54.heap n0 Z54 Q54_1 Q54_2) hZ (hw _ (List.mem_of_getElem? (i := 25) rfl)) (hw _ (List.mem_of_getElem? (i := 3) rfl)) (by decide) (by decide)) q56a q56c (g := (mkF m 139 #[.val (.int p0), .val (.int p1), .val (.int p2), .val (.int p3), .val (.int p4), .val (.int p5), .val (.int v6_3), .val (.ref b43), .val (.ref b53), .unset, .unset] [(.ref b53)])) rfl (by rw [hml]; rfl) (Steps.refl _) (argsL := []) (rest := []) (lenOf pd_1 rfl) rfl (by show 2 * 0 + _ ≤ _; exact Nat.le_of_eq rfl) (hb hby at_139) (fun _ _ => ⟨rfl, rfl, (by decide : 3 + 0 ≤ _), (by decide : 9 + 0 ≤ _)⟩)
        dsimp only [Pt.U, Pt.locs, Pt.cells, Pt.slots] at X56 l56 y56 z56 st56 hQ56
        subst l56 y56 z56
        obtain ⟨rfl, N56q, e56⟩ := hQ56
        have N56 := Fr.app N54 N56q
        obtain ⟨v9_142, hv9_142⟩ : ∃ z : Int32, z = (f_3t4 g_88) := ⟨_, rfl⟩
        have pre59 : ∀ t, Steps p.tables e below (T56.setTop (mkF m 145 #[.val (.int p0), .val (.int p1), .val (.int p2), .val (.int p3), .val (.int p4), .val (.int p5), .val (.int v6_3), .val (.ref b43), .val (.ref b53), .val (.int v9_142), .unset] [(.int p3)])) t → Steps p.tables e below (s₁.setTop (entryFrame m #[(.int p0), (.int p1), (.int p2), (.int p3), (.int p4), (.int p5)] maxLocals)) t := by
          intro t k
          refine pre57 t ?_
          show Steps p.tables e below (T54.setTop (mkF m 139 #[.val (.int p0), .val (.int p1), .val (.int p2), .val (.int p3), .val (.int p4), .val (.int p5), .val (.int v6_3), .val (.ref b43), .val (.ref b53), .unset, .unset] [(.ref b53)])) _
          refine st56.trans ?_
          show Steps p.tables e below (T56.setTop (mkF m 142 #[.val (.int p0), .val (.int p1), .val (.int p2), .val (.int p3), .val (.int p4), .val (.int p5), .val (.int v6_3), .val (.ref b43), .val (.ref b53), .unset, .unset] [(.int (f_3t4 g_88))])) _
          refine XS.istore X56.here hx rfl (hb hby at_142) rfl (l' := #[.val (.int p0), .val (.int p1), .val (.int p2), .val (.int p3), .val (.int p4), .val (.int p5), .val (.int v6_3), .val (.ref b43), .val (.ref b53), .val (.int v9_142), .unset]) (by rw [hv9_142]; rfl) ?_
          show Steps p.tables e below (T56.setTop (mkF m 144 #[.val (.int p0), .val (.int p1), .val (.int p2), .val (.int p3), .val (.int p4), .val (.int p5), .val (.int v6_3), .val (.ref b43), .val (.ref b53), .val (.int v9_142), .unset] [])) _
          refine XS.iloadN X56.here hx rfl (hb hby at_144) rfl  ?_
          exact k
        obtain ⟨_, _, ⟨T58, L58, k58, n58⟩, -, X58, ⟨Lc58, hQ58, l58, y58, z58⟩, st58⟩ := Jvm.LawKit.callS X56 hx (y := (⟨"com/example/cardwire/cardwire/core/ResponseApduStatusWordPinLaw", "unsigned", "(I)I"⟩ : MethodName)) hown (mvT hZ (hw _ (List.mem_of_getElem? (i := 26) rfl))) (mvT hZ (hw _ (List.mem_of_getElem? (i := 27) rfl))) (mvT hZ (hw _ (List.mem_of_getElem? (i := 28) rfl))) (mvT hZ (hw _ (List.mem_of_getElem? (i := 29) rfl))) (by decide) (backOf (W := 0) (rm_4 l Z a0 hw [] p3 T54.heap n0 Z54 ) hZ (hw _ (List.mem_of_getElem? (i := 29) rfl)) (hw _ (List.mem_of_getElem? (i := 28) rfl)) (by decide) (by decide)) (g := (mkF m 145 #[.val (.int p0), .val (.int p1), .val (.int p2), .val (.int p3), .val (.int p4), .val (.int p5), .val (.int v6_3), .val (.ref b43), .val (.ref b53), .val (.int v9_142), .unset] [(.int p3)])) rfl (by rw [hml]; rfl) (argsL := [(.int p3)]) (rest := []) (lenOf pd_2 rfl) rfl (by show 2 * 0 + _ ≤ _; exact Nat.le_of_eq rfl) (hb hby at_145) (fun _ _ => ⟨rfl, e56, (by decide : 3 + 0 ≤ _), (by decide : 9 + 0 ≤ _)⟩)
        dsimp only [Pt.U, Pt.locs, Pt.cells, Pt.slots] at X58 l58 y58 z58 st58 hQ58
        subst l58 y58 z58
        obtain ⟨rfl, N58q, e58⟩ := hQ58
        have N58 := Fr.app N56 N58q
        have pre61 : ∀ t, Steps p.tables e below (T58.setTop (mkF m 154 #[.val (.int p0), .val (.int p1), .val (.int p2), .val (.int p3), .val (.int p4), .val (.int p5), .val (.int v6_3), .val (.ref b43), .val (.ref b53), .val (.int v9_142), .unset] [(.int p4), (.int ((f_4 p3) * (256 : Int32)))])) t → Steps p.tables e below (s₁.setTop (entryFrame m #[(.int p0), (.int p1), (.int p2), (.int p3), (.int p4), (.int p5)] maxLocals)) t := by
          intro t k
          refine pre59 t ?_
          show Steps p.tables e below (T56.setTop (mkF m 145 #[.val (.int p0), .val (.int p1), .val (.int p2), .val (.int p3), .val (.int p4), .val (.int p5), .val (.int v6_3), .val (.ref b43), .val (.ref b53), .val (.int v9_142), .unset] [(.int p3)])) _
          refine st58 _ ?_
          show Steps p.tables e below (T58.setTop (mkF m 148 #[.val (.int p0), .val (.int p1), .val (.int p2), .val (.int p3), .val (.int p4), .val (.int p5), .val (.int v6_3), .val (.ref b43), .val (.ref b53), .val (.int v9_142), .unset] [(.int (f_4 p3))])) _
          refine XS.sipush X58.here hx rfl (hb hby at_148) ?_
          show Steps p.tables e below (T58.setTop (mkF m 151 #[.val (.int p0), .val (.int p1), .val (.int p2), .val (.int p3), .val (.int p4), .val (.int p5), .val (.int v6_3), .val (.ref b43), .val (.ref b53), .val (.int v9_142), .unset] [(.int (256 : Int32)), (.int (f_4 p3))])) _
          refine XS.imul X58.here hx rfl (hb hby at_151) rfl ?_
          show Steps p.tables e below (T58.setTop (mkF m 152 #[.val (.int p0), .val (.int p1), .val (.int p2), .val (.int p3), .val (.int p4), .val (.int p5), .val (.int v6_3), .val (.ref b43), .val (.ref b53), .val (.int v9_142), .unset] [(.int ((f_4 p3) * (256 : Int32)))])) _
          refine XS.iload X58.here hx rfl (hb hby at_152) rfl  ?_
          exact k
        obtain ⟨_, _, ⟨T60, L60, k60, n60⟩, -, X60, ⟨Lc60, hQ60, l60, y60, z60⟩, st60⟩ := Jvm.LawKit.callS X58 hx (y := (⟨"com/example/cardwire/cardwire/core/ResponseApduStatusWordPinLaw", "unsigned", "(I)I"⟩ : MethodName)) hown (mvT hZ (hw _ (List.mem_of_getElem? (i := 26) rfl))) (mvT hZ (hw _ (List.mem_of_getElem? (i := 27) rfl))) (mvT hZ (hw _ (List.mem_of_getElem? (i := 28) rfl))) (mvT hZ (hw _ (List.mem_of_getElem? (i := 29) rfl))) (by decide) (backOf (W := 1) (rm_4 l Z a0 hw [] p4 T54.heap n0 Z54 ) hZ (hw _ (List.mem_of_getElem? (i := 29) rfl)) (hw _ (List.mem_of_getElem? (i := 28) rfl)) (by decide) (by decide)) (g := (mkF m 154 #[.val (.int p0), .val (.int p1), .val (.int p2), .val (.int p3), .val (.int p4), .val (.int p5), .val (.int v6_3), .val (.ref b43), .val (.ref b53), .val (.int v9_142), .unset] [(.int p4), (.int ((f_4 p3) * (256 : Int32)))])) rfl (by rw [hml]; rfl) (argsL := [(.int p4)]) (rest := [(.int ((f_4 p3) * (256 : Int32)))]) (lenOf pd_2 rfl) rfl (by show 2 * 0 + _ ≤ _; exact Nat.le_of_eq rfl) (hb hby at_154) (fun _ _ => ⟨rfl, e58, (by decide : 3 + 0 ≤ _), (by decide : 9 + 0 ≤ _)⟩)
        dsimp only [Pt.U, Pt.locs, Pt.cells, Pt.slots] at X60 l60 y60 z60 st60 hQ60
        subst l60 y60 z60
        obtain ⟨rfl, N60q, e60⟩ := hQ60
        have N60 := Fr.app N58 N60q
        obtain ⟨v10_158, hv10_158⟩ : ∃ z : Int32, z = (((f_4 p3) * (256 : Int32)) + (f_4 p4)) := ⟨_, rfl⟩
        have pre62 : ∀ t, Steps p.tables e below (T60.setTop (mkF m 164 #[.val (.int p0), .val (.int p1), .val (.int p2), .val (.int p3), .val (.int p4), .val (.int p5), .val (.int v6_3), .val (.ref b43), .val (.ref b53), .val (.int v9_142), .val (.int v10_158)] [(.int v10_158), (.int v9_142)])) t → Steps p.tables e below (s₁.setTop (entryFrame m #[(.int p0), (.int p1), (.int p2), (.int p3), (.int p4), (.int p5)] maxLocals)) t := by
          intro t k
          refine pre61 t ?_
          show Steps p.tables e below (T58.setTop (mkF m 154 #[.val (.int p0), .val (.int p1), .val (.int p2), .val (.int p3), .val (.int p4), .val (.int p5), .val (.int v6_3), .val (.ref b43), .val (.ref b53), .val (.int v9_142), .unset] [(.int p4), (.int ((f_4 p3) * (256 : Int32)))])) _
          refine st60 _ ?_
          show Steps p.tables e below (T60.setTop (mkF m 157 #[.val (.int p0), .val (.int p1), .val (.int p2), .val (.int p3), .val (.int p4), .val (.int p5), .val (.int v6_3), .val (.ref b43), .val (.ref b53), .val (.int v9_142), .unset] [(.int (f_4 p4)), (.int ((f_4 p3) * (256 : Int32)))])) _
          refine XS.iadd X60.here hx rfl (hb hby at_157) rfl ?_
          show Steps p.tables e below (T60.setTop (mkF m 158 #[.val (.int p0), .val (.int p1), .val (.int p2), .val (.int p3), .val (.int p4), .val (.int p5), .val (.int v6_3), .val (.ref b43), .val (.ref b53), .val (.int v9_142), .unset] [(.int (((f_4 p3) * (256 : Int32)) + (f_4 p4)))])) _
          refine XS.istore X60.here hx rfl (hb hby at_158) rfl (l' := #[.val (.int p0), .val (.int p1), .val (.int p2), .val (.int p3), .val (.int p4), .val (.int p5), .val (.int v6_3), .val (.ref b43), .val (.ref b53), .val (.int v9_142), .val (.int v10_158)]) (by rw [hv10_158]; rfl) ?_
          show Steps p.tables e below (T60.setTop (mkF m 160 #[.val (.int p0), .val (.int p1), .val (.int p2), .val (.int p3), .val (.int p4), .val (.int p5), .val (.int v6_3), .val (.ref b43), .val (.ref b53), .val (.int v9_142), .val (.int v10_158)] [])) _
          refine XS.iload X60.here hx rfl (hb hby at_160) rfl  ?_
          show Steps p.tables e below (T60.setTop (mkF m 162 #[.val (.int p0), .val (.int p1), .val (.int p2), .val (.int p3), .val (.int p4), .val (.int p5), .val (.int v6_3), .val (.ref b43), .val (.ref b53), .val (.int v9_142), .val (.int v10_158)] [(.int v9_142)])) _
          refine XS.iload X60.here hx rfl (hb hby at_162) rfl  ?_
          exact k
        obtain ⟨ms0_184, hms0_184⟩ : ∃ z : Int32, z = (if v9_142 = v10_158 then (if v9_142 < (0 : Int32) then (0 : Int32) else (if (65535 : Int32) < v9_142 then (0 : Int32) else (1 : Int32))) else (0 : Int32)) := ⟨_, rfl⟩
        have pre63 : ∀ t, Steps p.tables e below (T60.setTop (mkF m 184 #[.val (.int p0), .val (.int p1), .val (.int p2), .val (.int p3), .val (.int p4), .val (.int p5), .val (.int v6_3), .val (.ref b43), .val (.ref b53), .val (.int v9_142), .val (.int v10_158)] [(.int ms0_184)])) t → Steps p.tables e below (s₁.setTop (entryFrame m #[(.int p0), (.int p1), (.int p2), (.int p3), (.int p4), (.int p5)] maxLocals)) t := by
          intro t k
          refine pre62 t ?_
          by_cases hc164 : v9_142 = v10_158
          · show Steps p.tables e below (T60.setTop (mkF m 164 #[.val (.int p0), .val (.int p1), .val (.int p2), .val (.int p3), .val (.int p4), .val (.int p5), .val (.int v6_3), .val (.ref b43), .val (.ref b53), .val (.int v9_142), .val (.int v10_158)] [(.int v10_158), (.int v9_142)])) _
            refine XS.icmpNo X60.here hx rfl (hb hby at_164) rfl (teq hc164).2 ?_
            show Steps p.tables e below (T60.setTop (mkF m 167 #[.val (.int p0), .val (.int p1), .val (.int p2), .val (.int p3), .val (.int p4), .val (.int p5), .val (.int v6_3), .val (.ref b43), .val (.ref b53), .val (.int v9_142), .val (.int v10_158)] [])) _
            refine XS.iload X60.here hx rfl (hb hby at_167) rfl  ?_
            by_cases hc169 : v9_142 < (0 : Int32)
            · show Steps p.tables e below (T60.setTop (mkF m 169 #[.val (.int p0), .val (.int p1), .val (.int p2), .val (.int p3), .val (.int p4), .val (.int p5), .val (.int v6_3), .val (.ref b43), .val (.ref b53), .val (.int v9_142), .val (.int v10_158)] [(.int v9_142)])) _
              refine XS.ifYes X60.here hx rfl (pc0 := 169) (pc' := 183) rfl (hb hby at_169) rfl ((if0 _ _).trans (tlt hc169).1) (by decide) (by decide) ?_
              show Steps p.tables e below (T60.setTop (mkF m 183 #[.val (.int p0), .val (.int p1), .val (.int p2), .val (.int p3), .val (.int p4), .val (.int p5), .val (.int v6_3), .val (.ref b43), .val (.ref b53), .val (.int v9_142), .val (.int v10_158)] [])) _
              refine XS.iconst X60.here hx rfl (hb hby at_183) ?_
              have qms0_184 : ms0_184 = (0 : Int32) := by rw [hms0_184, if_pos hc164, if_pos hc169]
              rw [qms0_184] at k
              exact k
            · show Steps p.tables e below (T60.setTop (mkF m 169 #[.val (.int p0), .val (.int p1), .val (.int p2), .val (.int p3), .val (.int p4), .val (.int p5), .val (.int v6_3), .val (.ref b43), .val (.ref b53), .val (.int v9_142), .val (.int v10_158)] [(.int v9_142)])) _
              refine XS.ifNo X60.here hx rfl (hb hby at_169) rfl ((if0 _ _).trans (flt hc169).1) ?_
              show Steps p.tables e below (T60.setTop (mkF m 172 #[.val (.int p0), .val (.int p1), .val (.int p2), .val (.int p3), .val (.int p4), .val (.int p5), .val (.int v6_3), .val (.ref b43), .val (.ref b53), .val (.int v9_142), .val (.int v10_158)] [])) _
              refine XS.iload X60.here hx rfl (hb hby at_172) rfl  ?_
              show Steps p.tables e below (T60.setTop (mkF m 174 #[.val (.int p0), .val (.int p1), .val (.int p2), .val (.int p3), .val (.int p4), .val (.int p5), .val (.int v6_3), .val (.ref b43), .val (.ref b53), .val (.int v9_142), .val (.int v10_158)] [(.int v9_142)])) _
              refine X60.ldcInt hx hown (mvT hZ (hw _ (List.mem_of_getElem? (i := 30) rfl))) (g := (mkF m 174 #[.val (.int p0), .val (.int p1), .val (.int p2), .val (.int p3), .val (.int p4), .val (.int p5), .val (.int v6_3), .val (.ref b43), .val (.ref b53), .val (.int v9_142), .val (.int v10_158)] [(.int v9_142)])) rfl (hb hby at_174) _ ?_
              by_cases hc176 : (65535 : Int32) < v9_142
              · show Steps p.tables e below (T60.setTop (mkF m 176 #[.val (.int p0), .val (.int p1), .val (.int p2), .val (.int p3), .val (.int p4), .val (.int p5), .val (.int v6_3), .val (.ref b43), .val (.ref b53), .val (.int v9_142), .val (.int v10_158)] [(.int (65535 : Int32)), (.int v9_142)])) _
                refine XS.icmpYes X60.here hx rfl (pc0 := 176) (pc' := 183) rfl (hb hby at_176) rfl (tlt hc176).2.2.1 (by decide) (by decide) ?_
                show Steps p.tables e below (T60.setTop (mkF m 183 #[.val (.int p0), .val (.int p1), .val (.int p2), .val (.int p3), .val (.int p4), .val (.int p5), .val (.int v6_3), .val (.ref b43), .val (.ref b53), .val (.int v9_142), .val (.int v10_158)] [])) _
                refine XS.iconst X60.here hx rfl (hb hby at_183) ?_
                have qms0_184 : ms0_184 = (0 : Int32) := by rw [hms0_184, if_pos hc164, if_neg hc169, if_pos hc176]
                rw [qms0_184] at k
                exact k
              · show Steps p.tables e below (T60.setTop (mkF m 176 #[.val (.int p0), .val (.int p1), .val (.int p2), .val (.int p3), .val (.int p4), .val (.int p5), .val (.int v6_3), .val (.ref b43), .val (.ref b53), .val (.int v9_142), .val (.int v10_158)] [(.int (65535 : Int32)), (.int v9_142)])) _
                refine XS.icmpNo X60.here hx rfl (hb hby at_176) rfl (flt hc176).2.2.1 ?_
                show Steps p.tables e below (T60.setTop (mkF m 179 #[.val (.int p0), .val (.int p1), .val (.int p2), .val (.int p3), .val (.int p4), .val (.int p5), .val (.int v6_3), .val (.ref b43), .val (.ref b53), .val (.int v9_142), .val (.int v10_158)] [])) _
                refine XS.iconst X60.here hx rfl (hb hby at_179) ?_
                show Steps p.tables e below (T60.setTop (mkF m 180 #[.val (.int p0), .val (.int p1), .val (.int p2), .val (.int p3), .val (.int p4), .val (.int p5), .val (.int v6_3), .val (.ref b43), .val (.ref b53), .val (.int v9_142), .val (.int v10_158)] [(.int (1 : Int32))])) _
                refine XS.goto X60.here hx rfl (pc0 := 180) (pc' := 184) rfl (hb hby at_180) (by decide) (by decide) ?_
                have qms0_184 : ms0_184 = (1 : Int32) := by rw [hms0_184, if_pos hc164, if_neg hc169, if_neg hc176]
                rw [qms0_184] at k
                exact k
          · show Steps p.tables e below (T60.setTop (mkF m 164 #[.val (.int p0), .val (.int p1), .val (.int p2), .val (.int p3), .val (.int p4), .val (.int p5), .val (.int v6_3), .val (.ref b43), .val (.ref b53), .val (.int v9_142), .val (.int v10_158)] [(.int v10_158), (.int v9_142)])) _
            refine XS.icmpYes X60.here hx rfl (pc0 := 164) (pc' := 183) rfl (hb hby at_164) rfl (feq hc164).2 (by decide) (by decide) ?_
            show Steps p.tables e below (T60.setTop (mkF m 183 #[.val (.int p0), .val (.int p1), .val (.int p2), .val (.int p3), .val (.int p4), .val (.int p5), .val (.int v6_3), .val (.ref b43), .val (.ref b53), .val (.int v9_142), .val (.int v10_158)] [])) _
            refine XS.iconst X60.here hx rfl (hb hby at_183) ?_
            have qms0_184 : ms0_184 = (0 : Int32) := by rw [hms0_184, if_neg hc164]
            rw [qms0_184] at k
            exact k
        have hnar : nar .boolean ms0_184 = ms0_184 := by rw [hms0_184]; (repeat' split) <;> rfl
        obtain ⟨fs, hr, hrun, hended, hW, hsame⟩ := X60.leave (v := some (.int ms0_184)) (fun h => by rw [Bd.returns] at h; cases h)
        refine ⟨_, _, pre63 _ ?_, hrun, hended, _, _, rfl, ?_, ⟨_, rfl⟩, hW, hsame.mono (by decide) (by decide)⟩
        · show Steps p.tables e below (T60.setTop (mkF m 184 #[.val (.int p0), .val (.int p1), .val (.int p2), .val (.int p3), .val (.int p4), .val (.int p5), .val (.int v6_3), .val (.ref b43), .val (.ref b53), .val (.int v9_142), .val (.int v10_158)] [(.int ms0_184)])) _
          exact retN X60 hx (t := .boolean) Bd.returns (by simp) (hb hby at_184) (by rw [hnar]; exact hr)
        · show Q_0 Z p0 p1 p2 p3 p4 p5 h0 n0 _ T60.heap _
          rw [e60]
          exact ⟨congrArg (fun z => some (Value.int z)) (by subst hv6_3 hg_72 hg_77 hg_82 hg_88 hv9_142 hv10_158 hms0_184; exact ((if_neg hc7).trans ((if_neg hc32).trans (if_pos hc62))).symm : ms0_184 = f_0 p0 p1 p2 p3 p4 p5), N60, trivial⟩
      · have pre64 : ∀ t, Steps p.tables e below (s₁.setTop (mkF m 95 #[.val (.int p0), .val (.int p1), .val (.int p2), .val (.int p3), .val (.int p4), .val (.int p5), .val (.int v6_3), .unset, .unset, .unset, .unset] [(.int (5 : Int32))])) t → Steps p.tables e below (s₁.setTop (entryFrame m #[(.int p0), (.int p1), (.int p2), (.int p3), (.int p4), (.int p5)] maxLocals)) t := by
          intro t k
          refine pre41 t ?_
          show Steps p.tables e below (s₁.setTop (mkF m 62 #[.val (.int p0), .val (.int p1), .val (.int p2), .val (.int p3), .val (.int p4), .val (.int p5), .val (.int v6_3), .unset, .unset, .unset, .unset] [(.int (2 : Int32)), (.int v6_3)])) _
          refine XS.icmpYes X0.here hx rfl (pc0 := 62) (pc' := 94) rfl (hb hby at_62) rfl (feq hc62).2 (by decide) (by decide) ?_
          show Steps p.tables e below (s₁.setTop (mkF m 94 #[.val (.int p0), .val (.int p1), .val (.int p2), .val (.int p3), .val (.int p4), .val (.int p5), .val (.int v6_3), .unset, .unset, .unset, .unset] [])) _
          refine XS.iconst X0.here hx rfl (hb hby at_94) ?_
          exact k
        obtain ⟨T65, h65, b65, gb65, X65, e65, E65, A65, B65, st65⟩ := own_newPE X0 hx hZ (hw _ (List.mem_of_getElem? (i := 0) rfl)) e0 (g := (mkF m 95 #[.val (.int p0), .val (.int p1), .val (.int p2), .val (.int p3), .val (.int p4), .val (.int p5), .val (.int v6_3), .unset, .unset, .unset, .unset] [(.int (5 : Int32))])) rfl (hb hby at_95) rfl (by decide) (n := 5) rfl (G := fun i => .int (own_zI i)) (fun _ => rfl) (cap := 5) (by decide) (by decide) (by decide) (by decide) (ad := "[B") (by decide)
        have sz_b65 : h0.size ≤ b65 := Nat.le_trans K0.1 (Nat.le_of_eq gb65.symm)
        have ge_b65 : n0 ≤ b65 := Nat.le_trans Z0 (Nat.le_of_eq gb65.symm)
        have K65 := K0.ext E65
        have Z65 := Nat.le_trans Z0 E65.1
        have pre66 : ∀ t, Steps p.tables e below (T65.setTop (mkF m 101 #[.val (.int p0), .val (.int p1), .val (.int p2), .val (.int p3), .val (.int p4), .val (.int p5), .val (.int v6_3), .unset, .unset, .unset, .unset] [(.int (p1.toInt8.toInt32)), (.int (0 : Int32)), (.ref b65), (.ref b65)])) t → Steps p.tables e below (s₁.setTop (entryFrame m #[(.int p0), (.int p1), (.int p2), (.int p3), (.int p4), (.int p5)] maxLocals)) t := by
          intro t k
          refine pre64 t ?_
          show Steps p.tables e below (s₁.setTop (mkF m 95 #[.val (.int p0), .val (.int p1), .val (.int p2), .val (.int p3), .val (.int p4), .val (.int p5), .val (.int v6_3), .unset, .unset, .unset, .unset] [(.int (5 : Int32))])) _
          refine st65 _ ?_
          show Steps p.tables e below (T65.setTop (mkF m 97 #[.val (.int p0), .val (.int p1), .val (.int p2), .val (.int p3), .val (.int p4), .val (.int p5), .val (.int v6_3), .unset, .unset, .unset, .unset] [(.ref b65)])) _
          refine XS.dup X65.here hx rfl (hb hby at_97) rfl rfl ?_
          show Steps p.tables e below (T65.setTop (mkF m 98 #[.val (.int p0), .val (.int p1), .val (.int p2), .val (.int p3), .val (.int p4), .val (.int p5), .val (.int v6_3), .unset, .unset, .unset, .unset] [(.ref b65), (.ref b65)])) _
          refine XS.iconst X65.here hx rfl (hb hby at_98) ?_
          show Steps p.tables e below (T65.setTop (mkF m 99 #[.val (.int p0), .val (.int p1), .val (.int p2), .val (.int p3), .val (.int p4), .val (.int p5), .val (.int v6_3), .unset, .unset, .unset, .unset] [(.int (0 : Int32)), (.ref b65), (.ref b65)])) _
          refine XS.iloadN X65.here hx rfl (hb hby at_99) rfl  ?_
          show Steps p.tables e below (T65.setTop (mkF m 100 #[.val (.int p0), .val (.int p1), .val (.int p2), .val (.int p3), .val (.int p4), .val (.int p5), .val (.int v6_3), .unset, .unset, .unset, .unset] [(.int p1), (.int (0 : Int32)), (.ref b65), (.ref b65)])) _
          refine XS.i2b X65.here hx rfl (hb hby at_100) rfl ?_
          exact k
        obtain ⟨T67, h67, X67, e67, W67, A67, st67⟩ := own_stB X65 hx hZ e65 A65 (j := (0 : Int32)) (x := (p1.toInt8.toInt32)) (k := 0) (by decide) (by decide) (by decide) (g := (mkF m 101 #[.val (.int p0), .val (.int p1), .val (.int p2), .val (.int p3), .val (.int p4), .val (.int p5), .val (.int v6_3), .unset, .unset, .unset, .unset] [(.int (p1.toInt8.toInt32)), (.int (0 : Int32)), (.ref b65), (.ref b65)])) rfl rfl (hb hby at_101)
        obtain ⟨g_101, hg_101⟩ : ∃ z : Nat → Int32, z = (own_upd own_zI 0 (p1.toInt8.toInt32).toInt8.toInt32) := ⟨_, rfl⟩
        rw [← hg_101] at A67
        have exa_b65_67 := B65.wr W67
        have K67 := K65.wr W67 (Or.inr sz_b65)
        have Z67 := Nat.le_trans Z65 (Nat.le_of_eq W67.size.symm)
        have N67 := Fr.snoc X67 N0 ge_b65
        have pre68 : ∀ t, Steps p.tables e below (T67.setTop (mkF m 106 #[.val (.int p0), .val (.int p1), .val (.int p2), .val (.int p3), .val (.int p4), .val (.int p5), .val (.int v6_3), .unset, .unset, .unset, .unset] [(.int (p2.toInt8.toInt32)), (.int (1 : Int32)), (.ref b65), (.ref b65)])) t → Steps p.tables e below (s₁.setTop (entryFrame m #[(.int p0), (.int p1), (.int p2), (.int p3), (.int p4), (.int p5)] maxLocals)) t := by
          intro t k
          refine pre66 t ?_
          show Steps p.tables e below (T65.setTop (mkF m 101 #[.val (.int p0), .val (.int p1), .val (.int p2), .val (.int p3), .val (.int p4), .val (.int p5), .val (.int v6_3), .unset, .unset, .unset, .unset] [(.int (p1.toInt8.toInt32)), (.int (0 : Int32)), (.ref b65), (.ref b65)])) _
          refine st67 _ ?_
          show Steps p.tables e below (T67.setTop (mkF m 102 #[.val (.int p0), .val (.int p1), .val (.int p2), .val (.int p3), .val (.int p4), .val (.int p5), .val (.int v6_3), .unset, .unset, .unset, .unset] [(.ref b65)])) _
          refine XS.dup X67.here hx rfl (hb hby at_102) rfl rfl ?_
          show Steps p.tables e below (T67.setTop (mkF m 103 #[.val (.int p0), .val (.int p1), .val (.int p2), .val (.int p3), .val (.int p4), .val (.int p5), .val (.int v6_3), .unset, .unset, .unset, .unset] [(.ref b65), (.ref b65)])) _
          refine XS.iconst X67.here hx rfl (hb hby at_103) ?_
          show Steps p.tables e below (T67.setTop (mkF m 104 #[.val (.int p0), .val (.int p1), .val (.int p2), .val (.int p3), .val (.int p4), .val (.int p5), .val (.int v6_3), .unset, .unset, .unset, .unset] [(.int (1 : Int32)), (.ref b65), (.ref b65)])) _
          refine XS.iloadN X67.here hx rfl (hb hby at_104) rfl  ?_
          show Steps p.tables e below (T67.setTop (mkF m 105 #[.val (.int p0), .val (.int p1), .val (.int p2), .val (.int p3), .val (.int p4), .val (.int p5), .val (.int v6_3), .unset, .unset, .unset, .unset] [(.int p2), (.int (1 : Int32)), (.ref b65), (.ref b65)])) _
          refine XS.i2b X67.here hx rfl (hb hby at_105) rfl ?_
          exact k
        obtain ⟨T69, h69, X69, e69, W69, A69, st69⟩ := own_stB X67 hx hZ e67 A67 (j := (1 : Int32)) (x := (p2.toInt8.toInt32)) (k := 1) (by decide) (by decide) (by decide) (g := (mkF m 106 #[.val (.int p0), .val (.int p1), .val (.int p2), .val (.int p3), .val (.int p4), .val (.int p5), .val (.int v6_3), .unset, .unset, .unset, .unset] [(.int (p2.toInt8.toInt32)), (.int (1 : Int32)), (.ref b65), (.ref b65)])) rfl rfl (hb hby at_106)
        obtain ⟨g_106, hg_106⟩ : ∃ z : Nat → Int32, z = (own_upd g_101 1 (p2.toInt8.toInt32).toInt8.toInt32) := ⟨_, rfl⟩
        rw [← hg_106] at A69
        have exa_b65_69 := exa_b65_67.wr W69
        have K69 := K67.wr W69 (Or.inr sz_b65)
        have Z69 := Nat.le_trans Z67 (Nat.le_of_eq W69.size.symm)
        have N69 := Fr.snoc X69 N67 ge_b65
        have pre70 : ∀ t, Steps p.tables e below (T69.setTop (mkF m 112 #[.val (.int p0), .val (.int p1), .val (.int p2), .val (.int p3), .val (.int p4), .val (.int p5), .val (.int v6_3), .unset, .unset, .unset, .unset] [(.int (p5.toInt8.toInt32)), (.int (2 : Int32)), (.ref b65), (.ref b65)])) t → Steps p.tables e below (s₁.setTop (entryFrame m #[(.int p0), (.int p1), (.int p2), (.int p3), (.int p4), (.int p5)] maxLocals)) t := by
          intro t k
          refine pre68 t ?_
          show Steps p.tables e below (T67.setTop (mkF m 106 #[.val (.int p0), .val (.int p1), .val (.int p2), .val (.int p3), .val (.int p4), .val (.int p5), .val (.int v6_3), .unset, .unset, .unset, .unset] [(.int (p2.toInt8.toInt32)), (.int (1 : Int32)), (.ref b65), (.ref b65)])) _
          refine st69 _ ?_
          show Steps p.tables e below (T69.setTop (mkF m 107 #[.val (.int p0), .val (.int p1), .val (.int p2), .val (.int p3), .val (.int p4), .val (.int p5), .val (.int v6_3), .unset, .unset, .unset, .unset] [(.ref b65)])) _
          refine XS.dup X69.here hx rfl (hb hby at_107) rfl rfl ?_
          show Steps p.tables e below (T69.setTop (mkF m 108 #[.val (.int p0), .val (.int p1), .val (.int p2), .val (.int p3), .val (.int p4), .val (.int p5), .val (.int v6_3), .unset, .unset, .unset, .unset] [(.ref b65), (.ref b65)])) _
          refine XS.iconst X69.here hx rfl (hb hby at_108) ?_
          show Steps p.tables e below (T69.setTop (mkF m 109 #[.val (.int p0), .val (.int p1), .val (.int p2), .val (.int p3), .val (.int p4), .val (.int p5), .val (.int v6_3), .unset, .unset, .unset, .unset] [(.int (2 : Int32)), (.ref b65), (.ref b65)])) _
          refine XS.iload X69.here hx rfl (hb hby at_109) rfl  ?_
          show Steps p.tables e below (T69.setTop (mkF m 111 #[.val (.int p0), .val (.int p1), .val (.int p2), .val (.int p3), .val (.int p4), .val (.int p5), .val (.int v6_3), .unset, .unset, .unset, .unset] [(.int p5), (.int (2 : Int32)), (.ref b65), (.ref b65)])) _
          refine XS.i2b X69.here hx rfl (hb hby at_111) rfl ?_
          exact k
        obtain ⟨T71, h71, X71, e71, W71, A71, st71⟩ := own_stB X69 hx hZ e69 A69 (j := (2 : Int32)) (x := (p5.toInt8.toInt32)) (k := 2) (by decide) (by decide) (by decide) (g := (mkF m 112 #[.val (.int p0), .val (.int p1), .val (.int p2), .val (.int p3), .val (.int p4), .val (.int p5), .val (.int v6_3), .unset, .unset, .unset, .unset] [(.int (p5.toInt8.toInt32)), (.int (2 : Int32)), (.ref b65), (.ref b65)])) rfl rfl (hb hby at_112)
        obtain ⟨g_112, hg_112⟩ : ∃ z : Nat → Int32, z = (own_upd g_106 2 (p5.toInt8.toInt32).toInt8.toInt32) := ⟨_, rfl⟩
        rw [← hg_112] at A71
        have exa_b65_71 := exa_b65_69.wr W71
        have K71 := K69.wr W71 (Or.inr sz_b65)
        have Z71 := Nat.le_trans Z69 (Nat.le_of_eq W71.size.symm)
        have N71 := Fr.snoc X71 N69 ge_b65
        have pre72 : ∀ t, Steps p.tables e below (T71.setTop (mkF m 117 #[.val (.int p0), .val (.int p1), .val (.int p2), .val (.int p3), .val (.int p4), .val (.int p5), .val (.int v6_3), .unset, .unset, .unset, .unset] [(.int (p3.toInt8.toInt32)), (.int (3 : Int32)), (.ref b65), (.ref b65)])) t → Steps p.tables e below (s₁.setTop (entryFrame m #[(.int p0), (.int p1), (.int p2), (.int p3), (.int p4), (.int p5)] maxLocals)) t := by
          intro t k
          refine pre70 t ?_
          show Steps p.tables e below (T69.setTop (mkF m 112 #[.val (.int p0), .val (.int p1), .val (.int p2), .val (.int p3), .val (.int p4), .val (.int p5), .val (.int v6_3), .unset, .unset, .unset, .unset] [(.int (p5.toInt8.toInt32)), (.int (2 : Int32)), (.ref b65), (.ref b65)])) _
          refine st71 _ ?_
          show Steps p.tables e below (T71.setTop (mkF m 113 #[.val (.int p0), .val (.int p1), .val (.int p2), .val (.int p3), .val (.int p4), .val (.int p5), .val (.int v6_3), .unset, .unset, .unset, .unset] [(.ref b65)])) _
          refine XS.dup X71.here hx rfl (hb hby at_113) rfl rfl ?_
          show Steps p.tables e below (T71.setTop (mkF m 114 #[.val (.int p0), .val (.int p1), .val (.int p2), .val (.int p3), .val (.int p4), .val (.int p5), .val (.int v6_3), .unset, .unset, .unset, .unset] [(.ref b65), (.ref b65)])) _
          refine XS.iconst X71.here hx rfl (hb hby at_114) ?_
          show Steps p.tables e below (T71.setTop (mkF m 115 #[.val (.int p0), .val (.int p1), .val (.int p2), .val (.int p3), .val (.int p4), .val (.int p5), .val (.int v6_3), .unset, .unset, .unset, .unset] [(.int (3 : Int32)), (.ref b65), (.ref b65)])) _
          refine XS.iloadN X71.here hx rfl (hb hby at_115) rfl  ?_
          show Steps p.tables e below (T71.setTop (mkF m 116 #[.val (.int p0), .val (.int p1), .val (.int p2), .val (.int p3), .val (.int p4), .val (.int p5), .val (.int v6_3), .unset, .unset, .unset, .unset] [(.int p3), (.int (3 : Int32)), (.ref b65), (.ref b65)])) _
          refine XS.i2b X71.here hx rfl (hb hby at_116) rfl ?_
          exact k
        obtain ⟨T73, h73, X73, e73, W73, A73, st73⟩ := own_stB X71 hx hZ e71 A71 (j := (3 : Int32)) (x := (p3.toInt8.toInt32)) (k := 3) (by decide) (by decide) (by decide) (g := (mkF m 117 #[.val (.int p0), .val (.int p1), .val (.int p2), .val (.int p3), .val (.int p4), .val (.int p5), .val (.int v6_3), .unset, .unset, .unset, .unset] [(.int (p3.toInt8.toInt32)), (.int (3 : Int32)), (.ref b65), (.ref b65)])) rfl rfl (hb hby at_117)
        obtain ⟨g_117, hg_117⟩ : ∃ z : Nat → Int32, z = (own_upd g_112 3 (p3.toInt8.toInt32).toInt8.toInt32) := ⟨_, rfl⟩
        rw [← hg_117] at A73
        have exa_b65_73 := exa_b65_71.wr W73
        have K73 := K71.wr W73 (Or.inr sz_b65)
        have Z73 := Nat.le_trans Z71 (Nat.le_of_eq W73.size.symm)
        have N73 := Fr.snoc X73 N71 ge_b65
        have pre74 : ∀ t, Steps p.tables e below (T73.setTop (mkF m 123 #[.val (.int p0), .val (.int p1), .val (.int p2), .val (.int p3), .val (.int p4), .val (.int p5), .val (.int v6_3), .unset, .unset, .unset, .unset] [(.int (p4.toInt8.toInt32)), (.int (4 : Int32)), (.ref b65), (.ref b65)])) t → Steps p.tables e below (s₁.setTop (entryFrame m #[(.int p0), (.int p1), (.int p2), (.int p3), (.int p4), (.int p5)] maxLocals)) t := by
          intro t k
          refine pre72 t ?_
          show Steps p.tables e below (T71.setTop (mkF m 117 #[.val (.int p0), .val (.int p1), .val (.int p2), .val (.int p3), .val (.int p4), .val (.int p5), .val (.int v6_3), .unset, .unset, .unset, .unset] [(.int (p3.toInt8.toInt32)), (.int (3 : Int32)), (.ref b65), (.ref b65)])) _
          refine st73 _ ?_
          show Steps p.tables e below (T73.setTop (mkF m 118 #[.val (.int p0), .val (.int p1), .val (.int p2), .val (.int p3), .val (.int p4), .val (.int p5), .val (.int v6_3), .unset, .unset, .unset, .unset] [(.ref b65)])) _
          refine XS.dup X73.here hx rfl (hb hby at_118) rfl rfl ?_
          show Steps p.tables e below (T73.setTop (mkF m 119 #[.val (.int p0), .val (.int p1), .val (.int p2), .val (.int p3), .val (.int p4), .val (.int p5), .val (.int v6_3), .unset, .unset, .unset, .unset] [(.ref b65), (.ref b65)])) _
          refine XS.iconst X73.here hx rfl (hb hby at_119) ?_
          show Steps p.tables e below (T73.setTop (mkF m 120 #[.val (.int p0), .val (.int p1), .val (.int p2), .val (.int p3), .val (.int p4), .val (.int p5), .val (.int v6_3), .unset, .unset, .unset, .unset] [(.int (4 : Int32)), (.ref b65), (.ref b65)])) _
          refine XS.iload X73.here hx rfl (hb hby at_120) rfl  ?_
          show Steps p.tables e below (T73.setTop (mkF m 122 #[.val (.int p0), .val (.int p1), .val (.int p2), .val (.int p3), .val (.int p4), .val (.int p5), .val (.int v6_3), .unset, .unset, .unset, .unset] [(.int p4), (.int (4 : Int32)), (.ref b65), (.ref b65)])) _
          refine XS.i2b X73.here hx rfl (hb hby at_122) rfl ?_
          exact k
        obtain ⟨T75, h75, X75, e75, W75, A75, st75⟩ := own_stB X73 hx hZ e73 A73 (j := (4 : Int32)) (x := (p4.toInt8.toInt32)) (k := 4) (by decide) (by decide) (by decide) (g := (mkF m 123 #[.val (.int p0), .val (.int p1), .val (.int p2), .val (.int p3), .val (.int p4), .val (.int p5), .val (.int v6_3), .unset, .unset, .unset, .unset] [(.int (p4.toInt8.toInt32)), (.int (4 : Int32)), (.ref b65), (.ref b65)])) rfl rfl (hb hby at_123)
        obtain ⟨g_123, hg_123⟩ : ∃ z : Nat → Int32, z = (own_upd g_117 4 (p4.toInt8.toInt32).toInt8.toInt32) := ⟨_, rfl⟩
        rw [← hg_123] at A75
        have exa_b65_75 := exa_b65_73.wr W75
        have K75 := K73.wr W75 (Or.inr sz_b65)
        have Z75 := Nat.le_trans Z73 (Nat.le_of_eq W75.size.symm)
        have N75 := Fr.snoc X75 N73 ge_b65
        have pre76 : ∀ t, Steps p.tables e below (T75.setTop (mkF m 126 #[.val (.int p0), .val (.int p1), .val (.int p2), .val (.int p3), .val (.int p4), .val (.int p5), .val (.int v6_3), .val (.ref b65), .unset, .unset, .unset] [])) t → Steps p.tables e below (s₁.setTop (entryFrame m #[(.int p0), (.int p1), (.int p2), (.int p3), (.int p4), (.int p5)] maxLocals)) t := by
          intro t k
          refine pre74 t ?_
          show Steps p.tables e below (T73.setTop (mkF m 123 #[.val (.int p0), .val (.int p1), .val (.int p2), .val (.int p3), .val (.int p4), .val (.int p5), .val (.int v6_3), .unset, .unset, .unset, .unset] [(.int (p4.toInt8.toInt32)), (.int (4 : Int32)), (.ref b65), (.ref b65)])) _
          refine st75 _ ?_
          show Steps p.tables e below (T75.setTop (mkF m 124 #[.val (.int p0), .val (.int p1), .val (.int p2), .val (.int p3), .val (.int p4), .val (.int p5), .val (.int v6_3), .unset, .unset, .unset, .unset] [(.ref b65)])) _
          refine XS.astore X75.here hx rfl (hb hby at_124) rfl rfl (l' := #[.val (.int p0), .val (.int p1), .val (.int p2), .val (.int p3), .val (.int p4), .val (.int p5), .val (.int v6_3), .val (.ref b65), .unset, .unset, .unset]) rfl ?_
          exact k
        obtain ⟨T77, h77, X77, e77, E77, A77, D77, -, st77⟩ := newO X75 hx hZ hown (hw _ (List.mem_of_getElem? (i := 1) rfl)) (hw _ (List.mem_of_getElem? (i := 2) rfl)) (hw _ (List.mem_of_getElem? (i := 3) rfl)) e75 (g := (mkF m 126 #[.val (.int p0), .val (.int p1), .val (.int p2), .val (.int p3), .val (.int p4), .val (.int p5), .val (.int v6_3), .val (.ref b65), .unset, .unset, .unset] [])) rfl (hb hby at_126) (by decide) (by decide)
        obtain ⟨b77, gb77⟩ : ∃ z, z = h75.size := ⟨_, rfl⟩
        rw [← gb77] at A77 D77 st77
        have ne_b65_b77 : b65 ≠ b77 := Nat.ne_of_lt (Nat.lt_of_lt_of_le A75.lt (Nat.le_of_eq gb77.symm))
        have sz_b77 : h0.size ≤ b77 := Nat.le_trans K75.1 (Nat.le_of_eq gb77.symm)
        have ge_b77 : n0 ≤ b77 := Nat.le_trans Z75 (Nat.le_of_eq gb77.symm)
        have arr_b65_77 := A75.ext E77
        have exa_b65_77 := exa_b65_75.ext E77
        have K77 := K75.ext E77
        have Z77 := Nat.le_trans Z75 E77.1
        have F77_bytes : Fld Z h77 b77 "com/example/cardwire/cardwire/core/ResponseApdu" "bytes" "[B" .null := D77 (Or.inr (hw _ (List.mem_of_getElem? (i := 20) rfl))) (ty := (.array .byte)) (by decide)
        have pre79 : ∀ t, Steps p.tables e below (T77.setTop (mkF m 132 #[.val (.int p0), .val (.int p1), .val (.int p2), .val (.int p3), .val (.int p4), .val (.int p5), .val (.int v6_3), .val (.ref b65), .unset, .unset, .unset] [(.ref b65), (.ref b77), (.ref b77)])) t → Steps p.tables e below (s₁.setTop (entryFrame m #[(.int p0), (.int p1), (.int p2), (.int p3), (.int p4), (.int p5)] maxLocals)) t := by
          intro t k
          refine pre76 t ?_
          show Steps p.tables e below (T75.setTop (mkF m 126 #[.val (.int p0), .val (.int p1), .val (.int p2), .val (.int p3), .val (.int p4), .val (.int p5), .val (.int v6_3), .val (.ref b65), .unset, .unset, .unset] [])) _
          refine st77 _ ?_
          show Steps p.tables e below (T77.setTop (mkF m 129 #[.val (.int p0), .val (.int p1), .val (.int p2), .val (.int p3), .val (.int p4), .val (.int p5), .val (.int v6_3), .val (.ref b65), .unset, .unset, .unset] [(.ref b77)])) _
          refine XS.dup X77.here hx rfl (hb hby at_129) rfl rfl ?_
          show Steps p.tables e below (T77.setTop (mkF m 130 #[.val (.int p0), .val (.int p1), .val (.int p2), .val (.int p3), .val (.int p4), .val (.int p5), .val (.int v6_3), .val (.ref b65), .unset, .unset, .unset] [(.ref b77), (.ref b77)])) _
          refine XS.aload X77.here hx rfl (hb hby at_130) rfl rfl ?_
          exact k
        obtain ⟨_, _, ⟨T78, L78, k78, n78⟩, -, X78, ⟨Lc78, hQ78, l78, y78, z78⟩, st78⟩ := X77.specialBack hx (y := (⟨"com/example/cardwire/cardwire/core/ResponseApdu", "<init>", "([B)V"⟩ : MethodName)) rfl hown (mvT hZ (hw _ (List.mem_of_getElem? (i := 4) rfl))) (mvT hZ (hw _ (List.mem_of_getElem? (i := 5) rfl))) (mvT hZ (hw _ (List.mem_of_getElem? (i := 6) rfl))) (by decide) (backOf (W := 1) (rm_1t5 l Z a0 hw [] b77 b65 g_123 h77 n0 Z77 A77 F77_bytes ge_b77 arr_b65_77 exa_b65_77 ne_b65_b77.symm) hZ (hw _ (List.mem_of_getElem? (i := 6) rfl)) (hw _ (List.mem_of_getElem? (i := 3) rfl)) (by decide) (by decide)) (g := (mkF m 132 #[.val (.int p0), .val (.int p1), .val (.int p2), .val (.int p3), .val (.int p4), .val (.int p5), .val (.int v6_3), .val (.ref b65), .unset, .unset, .unset] [(.ref b65), (.ref b77), (.ref b77)])) rfl (by rw [hml]; rfl) (Steps.refl _) (a := b77) (argsL := [(.ref b65)]) (rest := [(.ref b77)]) (lenOf pd_0 rfl) rfl (by show 2 * 0 + _ ≤ _; exact Nat.le_of_eq rfl) (hb hby at_132) (fun _ _ => ⟨rfl, e77, (by decide : 2 + 1 ≤ _), (by decide : 6 + 5 ≤ _)⟩)
        dsimp only [Pt.U, Pt.locs, Pt.cells, Pt.slots] at X78 l78 y78 z78 st78 hQ78
        subst l78 y78 z78
        obtain ⟨w_78, rfl, N78q, sz0_w_78, Kc78, Q78_0, Q78_1, Q78_2⟩ := hQ78
        have Kd78 : Keep h77 T78.heap [b77] := Kc78
        have ne_b65_w_78 : b65 ≠ w_78 := Nat.ne_of_lt (Nat.lt_of_lt_of_le arr_b65_77.lt sz0_w_78)
        have ne_b77_w_78 : b77 ≠ w_78 := Nat.ne_of_lt (Nat.lt_of_lt_of_le A77.lt sz0_w_78)
        have sz_w_78 : h0.size ≤ w_78 := Nat.le_trans K77.1 sz0_w_78
        have ge_w_78 : n0 ≤ w_78 := Nat.le_trans Z77 sz0_w_78
        have arr_b65_78 := arr_b65_77.keep Kd78 (ninS ne_b65_b77 nin0)
        have exa_b65_78 := exa_b65_77.keep Kd78
        have exa_b77_78 := A77.keep Kd78
        have K78 := K77.trans Kd78 (allS (Or.inr sz_b77) all0)
        have Z78 := Nat.le_trans Z77 Kd78.1
        have N78 := Fr.app N75 N78q
        have pre81 : ∀ t, Steps p.tables e below (T78.setTop (mkF m 139 #[.val (.int p0), .val (.int p1), .val (.int p2), .val (.int p3), .val (.int p4), .val (.int p5), .val (.int v6_3), .val (.ref b65), .val (.ref b77), .unset, .unset] [(.ref b77)])) t → Steps p.tables e below (s₁.setTop (entryFrame m #[(.int p0), (.int p1), (.int p2), (.int p3), (.int p4), (.int p5)] maxLocals)) t := by
          intro t k
          refine pre79 t ?_
          show Steps p.tables e below (T77.setTop (mkF m 132 #[.val (.int p0), .val (.int p1), .val (.int p2), .val (.int p3), .val (.int p4), .val (.int p5), .val (.int v6_3), .val (.ref b65), .unset, .unset, .unset] [(.ref b65), (.ref b77), (.ref b77)])) _
          refine st78.trans ?_
          show Steps p.tables e below (T78.setTop (mkF m 135 #[.val (.int p0), .val (.int p1), .val (.int p2), .val (.int p3), .val (.int p4), .val (.int p5), .val (.int v6_3), .val (.ref b65), .unset, .unset, .unset] [(.ref b77)])) _
          refine XS.astore X78.here hx rfl (hb hby at_135) rfl rfl (l' := #[.val (.int p0), .val (.int p1), .val (.int p2), .val (.int p3), .val (.int p4), .val (.int p5), .val (.int v6_3), .val (.ref b65), .val (.ref b77), .unset, .unset]) rfl ?_
          show Steps p.tables e below (T78.setTop (mkF m 137 #[.val (.int p0), .val (.int p1), .val (.int p2), .val (.int p3), .val (.int p4), .val (.int p5), .val (.int v6_3), .val (.ref b65), .val (.ref b77), .unset, .unset] [])) _
          refine XS.aload X78.here hx rfl (hb hby at_137) rfl rfl ?_
          exact k
        obtain ⟨cq80, kq80, q80a, q80b, q80c⟩ := isOf hZ rfl Q78_0
        obtain ⟨_, _, ⟨T80, L80, k80, n80⟩, -, X80, ⟨Lc80, hQ80, l80, y80, z80⟩, st80⟩ := X78.virtualBack hx (y := (⟨"com/example/cardwire/cardwire/core/ResponseApdu", "statusWord", "()I"⟩ : MethodName)) (z := (⟨"com/example/cardwire/cardwire/core/ResponseApdu", "statusWord", "()I"⟩ : MethodName)) hown (mvT hZ (hw _ (List.mem_of_getElem? (i := 21) rfl))) (mvT hZ (hw _ (List.mem_of_getElem? (i := 22) rfl))) (notFace_of_selects (args := #[]) (mvT hZ (hw _ (List.mem_of_getElem? (i := 24) rfl)))) (mvT hZ (hw _ (List.mem_of_getElem? (i := 24) rfl))) (mvT hZ (hw _ (List.mem_of_getElem? (i := 23) rfl))) (by decide) (backOf (W := 0) (rm_3t5 l Z a0 hw [] b77 w_78 g_123 T78.heap n0 Z78 Q78_1 Q78_2) hZ (hw _ (List.mem_of_getElem? (i := 25) rfl)) (hw _ (List.mem_of_getElem? (i := 3) rfl)) (by decide) (by decide)) q80a q80c (g := (mkF m 139 #[.val (.int p0), .val (.int p1), .val (.int p2), .val (.int p3), .val (.int p4), .val (.int p5), .val (.int v6_3), .val (.ref b65), .val (.ref b77), .unset, .unset] [(.ref b77)])) rfl (by rw [hml]; rfl) (Steps.refl _) (argsL := []) (rest := []) (lenOf pd_1 rfl) rfl (by show 2 * 0 + _ ≤ _; exact Nat.le_of_eq rfl) (hb hby at_139) (fun _ _ => ⟨rfl, rfl, (by decide : 3 + 0 ≤ _), (by decide : 11 + 0 ≤ _)⟩)
        dsimp only [Pt.U, Pt.locs, Pt.cells, Pt.slots] at X80 l80 y80 z80 st80 hQ80
        subst l80 y80 z80
        obtain ⟨rfl, N80q, e80⟩ := hQ80
        have N80 := Fr.app N78 N80q
        obtain ⟨v9_142, hv9_142⟩ : ∃ z : Int32, z = (f_3t5 g_123) := ⟨_, rfl⟩
        have pre83 : ∀ t, Steps p.tables e below (T80.setTop (mkF m 145 #[.val (.int p0), .val (.int p1), .val (.int p2), .val (.int p3), .val (.int p4), .val (.int p5), .val (.int v6_3), .val (.ref b65), .val (.ref b77), .val (.int v9_142), .unset] [(.int p3)])) t → Steps p.tables e below (s₁.setTop (entryFrame m #[(.int p0), (.int p1), (.int p2), (.int p3), (.int p4), (.int p5)] maxLocals)) t := by
          intro t k
          refine pre81 t ?_
          show Steps p.tables e below (T78.setTop (mkF m 139 #[.val (.int p0), .val (.int p1), .val (.int p2), .val (.int p3), .val (.int p4), .val (.int p5), .val (.int v6_3), .val (.ref b65), .val (.ref b77), .unset, .unset] [(.ref b77)])) _
          refine st80.trans ?_
          show Steps p.tables e below (T80.setTop (mkF m 142 #[.val (.int p0), .val (.int p1), .val (.int p2), .val (.int p3), .val (.int p4), .val (.int p5), .val (.int v6_3), .val (.ref b65), .val (.ref b77), .unset, .unset] [(.int (f_3t5 g_123))])) _
          refine XS.istore X80.here hx rfl (hb hby at_142) rfl (l' := #[.val (.int p0), .val (.int p1), .val (.int p2), .val (.int p3), .val (.int p4), .val (.int p5), .val (.int v6_3), .val (.ref b65), .val (.ref b77), .val (.int v9_142), .unset]) (by rw [hv9_142]; rfl) ?_
          show Steps p.tables e below (T80.setTop (mkF m 144 #[.val (.int p0), .val (.int p1), .val (.int p2), .val (.int p3), .val (.int p4), .val (.int p5), .val (.int v6_3), .val (.ref b65), .val (.ref b77), .val (.int v9_142), .unset] [])) _
          refine XS.iloadN X80.here hx rfl (hb hby at_144) rfl  ?_
          exact k
        obtain ⟨_, _, ⟨T82, L82, k82, n82⟩, -, X82, ⟨Lc82, hQ82, l82, y82, z82⟩, st82⟩ := Jvm.LawKit.callS X80 hx (y := (⟨"com/example/cardwire/cardwire/core/ResponseApduStatusWordPinLaw", "unsigned", "(I)I"⟩ : MethodName)) hown (mvT hZ (hw _ (List.mem_of_getElem? (i := 26) rfl))) (mvT hZ (hw _ (List.mem_of_getElem? (i := 27) rfl))) (mvT hZ (hw _ (List.mem_of_getElem? (i := 28) rfl))) (mvT hZ (hw _ (List.mem_of_getElem? (i := 29) rfl))) (by decide) (backOf (W := 0) (rm_4 l Z a0 hw [] p3 T78.heap n0 Z78 ) hZ (hw _ (List.mem_of_getElem? (i := 29) rfl)) (hw _ (List.mem_of_getElem? (i := 28) rfl)) (by decide) (by decide)) (g := (mkF m 145 #[.val (.int p0), .val (.int p1), .val (.int p2), .val (.int p3), .val (.int p4), .val (.int p5), .val (.int v6_3), .val (.ref b65), .val (.ref b77), .val (.int v9_142), .unset] [(.int p3)])) rfl (by rw [hml]; rfl) (argsL := [(.int p3)]) (rest := []) (lenOf pd_2 rfl) rfl (by show 2 * 0 + _ ≤ _; exact Nat.le_of_eq rfl) (hb hby at_145) (fun _ _ => ⟨rfl, e80, (by decide : 3 + 0 ≤ _), (by decide : 11 + 0 ≤ _)⟩)
        dsimp only [Pt.U, Pt.locs, Pt.cells, Pt.slots] at X82 l82 y82 z82 st82 hQ82
        subst l82 y82 z82
        obtain ⟨rfl, N82q, e82⟩ := hQ82
        have N82 := Fr.app N80 N82q
        have pre85 : ∀ t, Steps p.tables e below (T82.setTop (mkF m 154 #[.val (.int p0), .val (.int p1), .val (.int p2), .val (.int p3), .val (.int p4), .val (.int p5), .val (.int v6_3), .val (.ref b65), .val (.ref b77), .val (.int v9_142), .unset] [(.int p4), (.int ((f_4 p3) * (256 : Int32)))])) t → Steps p.tables e below (s₁.setTop (entryFrame m #[(.int p0), (.int p1), (.int p2), (.int p3), (.int p4), (.int p5)] maxLocals)) t := by
          intro t k
          refine pre83 t ?_
          show Steps p.tables e below (T80.setTop (mkF m 145 #[.val (.int p0), .val (.int p1), .val (.int p2), .val (.int p3), .val (.int p4), .val (.int p5), .val (.int v6_3), .val (.ref b65), .val (.ref b77), .val (.int v9_142), .unset] [(.int p3)])) _
          refine st82 _ ?_
          show Steps p.tables e below (T82.setTop (mkF m 148 #[.val (.int p0), .val (.int p1), .val (.int p2), .val (.int p3), .val (.int p4), .val (.int p5), .val (.int v6_3), .val (.ref b65), .val (.ref b77), .val (.int v9_142), .unset] [(.int (f_4 p3))])) _
          refine XS.sipush X82.here hx rfl (hb hby at_148) ?_
          show Steps p.tables e below (T82.setTop (mkF m 151 #[.val (.int p0), .val (.int p1), .val (.int p2), .val (.int p3), .val (.int p4), .val (.int p5), .val (.int v6_3), .val (.ref b65), .val (.ref b77), .val (.int v9_142), .unset] [(.int (256 : Int32)), (.int (f_4 p3))])) _
          refine XS.imul X82.here hx rfl (hb hby at_151) rfl ?_
          show Steps p.tables e below (T82.setTop (mkF m 152 #[.val (.int p0), .val (.int p1), .val (.int p2), .val (.int p3), .val (.int p4), .val (.int p5), .val (.int v6_3), .val (.ref b65), .val (.ref b77), .val (.int v9_142), .unset] [(.int ((f_4 p3) * (256 : Int32)))])) _
          refine XS.iload X82.here hx rfl (hb hby at_152) rfl  ?_
          exact k
        obtain ⟨_, _, ⟨T84, L84, k84, n84⟩, -, X84, ⟨Lc84, hQ84, l84, y84, z84⟩, st84⟩ := Jvm.LawKit.callS X82 hx (y := (⟨"com/example/cardwire/cardwire/core/ResponseApduStatusWordPinLaw", "unsigned", "(I)I"⟩ : MethodName)) hown (mvT hZ (hw _ (List.mem_of_getElem? (i := 26) rfl))) (mvT hZ (hw _ (List.mem_of_getElem? (i := 27) rfl))) (mvT hZ (hw _ (List.mem_of_getElem? (i := 28) rfl))) (mvT hZ (hw _ (List.mem_of_getElem? (i := 29) rfl))) (by decide) (backOf (W := 1) (rm_4 l Z a0 hw [] p4 T78.heap n0 Z78 ) hZ (hw _ (List.mem_of_getElem? (i := 29) rfl)) (hw _ (List.mem_of_getElem? (i := 28) rfl)) (by decide) (by decide)) (g := (mkF m 154 #[.val (.int p0), .val (.int p1), .val (.int p2), .val (.int p3), .val (.int p4), .val (.int p5), .val (.int v6_3), .val (.ref b65), .val (.ref b77), .val (.int v9_142), .unset] [(.int p4), (.int ((f_4 p3) * (256 : Int32)))])) rfl (by rw [hml]; rfl) (argsL := [(.int p4)]) (rest := [(.int ((f_4 p3) * (256 : Int32)))]) (lenOf pd_2 rfl) rfl (by show 2 * 0 + _ ≤ _; exact Nat.le_of_eq rfl) (hb hby at_154) (fun _ _ => ⟨rfl, e82, (by decide : 3 + 0 ≤ _), (by decide : 11 + 0 ≤ _)⟩)
        dsimp only [Pt.U, Pt.locs, Pt.cells, Pt.slots] at X84 l84 y84 z84 st84 hQ84
        subst l84 y84 z84
        obtain ⟨rfl, N84q, e84⟩ := hQ84
        have N84 := Fr.app N82 N84q
        obtain ⟨v10_158, hv10_158⟩ : ∃ z : Int32, z = (((f_4 p3) * (256 : Int32)) + (f_4 p4)) := ⟨_, rfl⟩
        have pre86 : ∀ t, Steps p.tables e below (T84.setTop (mkF m 164 #[.val (.int p0), .val (.int p1), .val (.int p2), .val (.int p3), .val (.int p4), .val (.int p5), .val (.int v6_3), .val (.ref b65), .val (.ref b77), .val (.int v9_142), .val (.int v10_158)] [(.int v10_158), (.int v9_142)])) t → Steps p.tables e below (s₁.setTop (entryFrame m #[(.int p0), (.int p1), (.int p2), (.int p3), (.int p4), (.int p5)] maxLocals)) t := by
          intro t k
          refine pre85 t ?_
          show Steps p.tables e below (T82.setTop (mkF m 154 #[.val (.int p0), .val (.int p1), .val (.int p2), .val (.int p3), .val (.int p4), .val (.int p5), .val (.int v6_3), .val (.ref b65), .val (.ref b77), .val (.int v9_142), .unset] [(.int p4), (.int ((f_4 p3) * (256 : Int32)))])) _
          refine st84 _ ?_
          show Steps p.tables e below (T84.setTop (mkF m 157 #[.val (.int p0), .val (.int p1), .val (.int p2), .val (.int p3), .val (.int p4), .val (.int p5), .val (.int v6_3), .val (.ref b65), .val (.ref b77), .val (.int v9_142), .unset] [(.int (f_4 p4)), (.int ((f_4 p3) * (256 : Int32)))])) _
          refine XS.iadd X84.here hx rfl (hb hby at_157) rfl ?_
          show Steps p.tables e below (T84.setTop (mkF m 158 #[.val (.int p0), .val (.int p1), .val (.int p2), .val (.int p3), .val (.int p4), .val (.int p5), .val (.int v6_3), .val (.ref b65), .val (.ref b77), .val (.int v9_142), .unset] [(.int (((f_4 p3) * (256 : Int32)) + (f_4 p4)))])) _
          refine XS.istore X84.here hx rfl (hb hby at_158) rfl (l' := #[.val (.int p0), .val (.int p1), .val (.int p2), .val (.int p3), .val (.int p4), .val (.int p5), .val (.int v6_3), .val (.ref b65), .val (.ref b77), .val (.int v9_142), .val (.int v10_158)]) (by rw [hv10_158]; rfl) ?_
          show Steps p.tables e below (T84.setTop (mkF m 160 #[.val (.int p0), .val (.int p1), .val (.int p2), .val (.int p3), .val (.int p4), .val (.int p5), .val (.int v6_3), .val (.ref b65), .val (.ref b77), .val (.int v9_142), .val (.int v10_158)] [])) _
          refine XS.iload X84.here hx rfl (hb hby at_160) rfl  ?_
          show Steps p.tables e below (T84.setTop (mkF m 162 #[.val (.int p0), .val (.int p1), .val (.int p2), .val (.int p3), .val (.int p4), .val (.int p5), .val (.int v6_3), .val (.ref b65), .val (.ref b77), .val (.int v9_142), .val (.int v10_158)] [(.int v9_142)])) _
          refine XS.iload X84.here hx rfl (hb hby at_162) rfl  ?_
          exact k
        obtain ⟨ms0_184, hms0_184⟩ : ∃ z : Int32, z = (if v9_142 = v10_158 then (if v9_142 < (0 : Int32) then (0 : Int32) else (if (65535 : Int32) < v9_142 then (0 : Int32) else (1 : Int32))) else (0 : Int32)) := ⟨_, rfl⟩
        have pre87 : ∀ t, Steps p.tables e below (T84.setTop (mkF m 184 #[.val (.int p0), .val (.int p1), .val (.int p2), .val (.int p3), .val (.int p4), .val (.int p5), .val (.int v6_3), .val (.ref b65), .val (.ref b77), .val (.int v9_142), .val (.int v10_158)] [(.int ms0_184)])) t → Steps p.tables e below (s₁.setTop (entryFrame m #[(.int p0), (.int p1), (.int p2), (.int p3), (.int p4), (.int p5)] maxLocals)) t := by
          intro t k
          refine pre86 t ?_
          by_cases hc164 : v9_142 = v10_158
          · show Steps p.tables e below (T84.setTop (mkF m 164 #[.val (.int p0), .val (.int p1), .val (.int p2), .val (.int p3), .val (.int p4), .val (.int p5), .val (.int v6_3), .val (.ref b65), .val (.ref b77), .val (.int v9_142), .val (.int v10_158)] [(.int v10_158), (.int v9_142)])) _
            refine XS.icmpNo X84.here hx rfl (hb hby at_164) rfl (teq hc164).2 ?_
            show Steps p.tables e below (T84.setTop (mkF m 167 #[.val (.int p0), .val (.int p1), .val (.int p2), .val (.int p3), .val (.int p4), .val (.int p5), .val (.int v6_3), .val (.ref b65), .val (.ref b77), .val (.int v9_142), .val (.int v10_158)] [])) _
            refine XS.iload X84.here hx rfl (hb hby at_167) rfl  ?_
            by_cases hc169 : v9_142 < (0 : Int32)
            · show Steps p.tables e below (T84.setTop (mkF m 169 #[.val (.int p0), .val (.int p1), .val (.int p2), .val (.int p3), .val (.int p4), .val (.int p5), .val (.int v6_3), .val (.ref b65), .val (.ref b77), .val (.int v9_142), .val (.int v10_158)] [(.int v9_142)])) _
              refine XS.ifYes X84.here hx rfl (pc0 := 169) (pc' := 183) rfl (hb hby at_169) rfl ((if0 _ _).trans (tlt hc169).1) (by decide) (by decide) ?_
              show Steps p.tables e below (T84.setTop (mkF m 183 #[.val (.int p0), .val (.int p1), .val (.int p2), .val (.int p3), .val (.int p4), .val (.int p5), .val (.int v6_3), .val (.ref b65), .val (.ref b77), .val (.int v9_142), .val (.int v10_158)] [])) _
              refine XS.iconst X84.here hx rfl (hb hby at_183) ?_
              have qms0_184 : ms0_184 = (0 : Int32) := by rw [hms0_184, if_pos hc164, if_pos hc169]
              rw [qms0_184] at k
              exact k
            · show Steps p.tables e below (T84.setTop (mkF m 169 #[.val (.int p0), .val (.int p1), .val (.int p2), .val (.int p3), .val (.int p4), .val (.int p5), .val (.int v6_3), .val (.ref b65), .val (.ref b77), .val (.int v9_142), .val (.int v10_158)] [(.int v9_142)])) _
              refine XS.ifNo X84.here hx rfl (hb hby at_169) rfl ((if0 _ _).trans (flt hc169).1) ?_
              show Steps p.tables e below (T84.setTop (mkF m 172 #[.val (.int p0), .val (.int p1), .val (.int p2), .val (.int p3), .val (.int p4), .val (.int p5), .val (.int v6_3), .val (.ref b65), .val (.ref b77), .val (.int v9_142), .val (.int v10_158)] [])) _
              refine XS.iload X84.here hx rfl (hb hby at_172) rfl  ?_
              show Steps p.tables e below (T84.setTop (mkF m 174 #[.val (.int p0), .val (.int p1), .val (.int p2), .val (.int p3), .val (.int p4), .val (.int p5), .val (.int v6_3), .val (.ref b65), .val (.ref b77), .val (.int v9_142), .val (.int v10_158)] [(.int v9_142)])) _
              refine X84.ldcInt hx hown (mvT hZ (hw _ (List.mem_of_getElem? (i := 30) rfl))) (g := (mkF m 174 #[.val (.int p0), .val (.int p1), .val (.int p2), .val (.int p3), .val (.int p4), .val (.int p5), .val (.int v6_3), .val (.ref b65), .val (.ref b77), .val (.int v9_142), .val (.int v10_158)] [(.int v9_142)])) rfl (hb hby at_174) _ ?_
              by_cases hc176 : (65535 : Int32) < v9_142
              · show Steps p.tables e below (T84.setTop (mkF m 176 #[.val (.int p0), .val (.int p1), .val (.int p2), .val (.int p3), .val (.int p4), .val (.int p5), .val (.int v6_3), .val (.ref b65), .val (.ref b77), .val (.int v9_142), .val (.int v10_158)] [(.int (65535 : Int32)), (.int v9_142)])) _
                refine XS.icmpYes X84.here hx rfl (pc0 := 176) (pc' := 183) rfl (hb hby at_176) rfl (tlt hc176).2.2.1 (by decide) (by decide) ?_
                show Steps p.tables e below (T84.setTop (mkF m 183 #[.val (.int p0), .val (.int p1), .val (.int p2), .val (.int p3), .val (.int p4), .val (.int p5), .val (.int v6_3), .val (.ref b65), .val (.ref b77), .val (.int v9_142), .val (.int v10_158)] [])) _
                refine XS.iconst X84.here hx rfl (hb hby at_183) ?_
                have qms0_184 : ms0_184 = (0 : Int32) := by rw [hms0_184, if_pos hc164, if_neg hc169, if_pos hc176]
                rw [qms0_184] at k
                exact k
              · show Steps p.tables e below (T84.setTop (mkF m 176 #[.val (.int p0), .val (.int p1), .val (.int p2), .val (.int p3), .val (.int p4), .val (.int p5), .val (.int v6_3), .val (.ref b65), .val (.ref b77), .val (.int v9_142), .val (.int v10_158)] [(.int (65535 : Int32)), (.int v9_142)])) _
                refine XS.icmpNo X84.here hx rfl (hb hby at_176) rfl (flt hc176).2.2.1 ?_
                show Steps p.tables e below (T84.setTop (mkF m 179 #[.val (.int p0), .val (.int p1), .val (.int p2), .val (.int p3), .val (.int p4), .val (.int p5), .val (.int v6_3), .val (.ref b65), .val (.ref b77), .val (.int v9_142), .val (.int v10_158)] [])) _
                refine XS.iconst X84.here hx rfl (hb hby at_179) ?_
                show Steps p.tables e below (T84.setTop (mkF m 180 #[.val (.int p0), .val (.int p1), .val (.int p2), .val (.int p3), .val (.int p4), .val (.int p5), .val (.int v6_3), .val (.ref b65), .val (.ref b77), .val (.int v9_142), .val (.int v10_158)] [(.int (1 : Int32))])) _
                refine XS.goto X84.here hx rfl (pc0 := 180) (pc' := 184) rfl (hb hby at_180) (by decide) (by decide) ?_
                have qms0_184 : ms0_184 = (1 : Int32) := by rw [hms0_184, if_pos hc164, if_neg hc169, if_neg hc176]
                rw [qms0_184] at k
                exact k
          · show Steps p.tables e below (T84.setTop (mkF m 164 #[.val (.int p0), .val (.int p1), .val (.int p2), .val (.int p3), .val (.int p4), .val (.int p5), .val (.int v6_3), .val (.ref b65), .val (.ref b77), .val (.int v9_142), .val (.int v10_158)] [(.int v10_158), (.int v9_142)])) _
            refine XS.icmpYes X84.here hx rfl (pc0 := 164) (pc' := 183) rfl (hb hby at_164) rfl (feq hc164).2 (by decide) (by decide) ?_
            show Steps p.tables e below (T84.setTop (mkF m 183 #[.val (.int p0), .val (.int p1), .val (.int p2), .val (.int p3), .val (.int p4), .val (.int p5), .val (.int v6_3), .val (.ref b65), .val (.ref b77), .val (.int v9_142), .val (.int v10_158)] [])) _
            refine XS.iconst X84.here hx rfl (hb hby at_183) ?_
            have qms0_184 : ms0_184 = (0 : Int32) := by rw [hms0_184, if_neg hc164]
            rw [qms0_184] at k
            exact k
        have hnar : nar .boolean ms0_184 = ms0_184 := by rw [hms0_184]; (repeat' split) <;> rfl
        obtain ⟨fs, hr, hrun, hended, hW, hsame⟩ := X84.leave (v := some (.int ms0_184)) (fun h => by rw [Bd.returns] at h; cases h)
        refine ⟨_, _, pre87 _ ?_, hrun, hended, _, _, rfl, ?_, ⟨_, rfl⟩, hW, hsame.mono (by decide) (by decide)⟩
        · show Steps p.tables e below (T84.setTop (mkF m 184 #[.val (.int p0), .val (.int p1), .val (.int p2), .val (.int p3), .val (.int p4), .val (.int p5), .val (.int v6_3), .val (.ref b65), .val (.ref b77), .val (.int v9_142), .val (.int v10_158)] [(.int ms0_184)])) _
          exact retN X84 hx (t := .boolean) Bd.returns (by simp) (hb hby at_184) (by rw [hnar]; exact hr)
        · show Q_0 Z p0 p1 p2 p3 p4 p5 h0 n0 _ T84.heap _
          rw [e84]
          exact ⟨congrArg (fun z => some (Value.int z)) (by subst hv6_3 hg_101 hg_106 hg_112 hg_117 hg_123 hv9_142 hv10_158 hms0_184; exact ((if_neg hc7).trans ((if_neg hc32).trans (if_neg hc62))).symm : ms0_184 = f_0 p0 p1 p2 p3 p4 p5), N84, trivial⟩
theorem own_un (x : Int32) : (f_4 x).toInt = x.toInt % 256 := by
  have b := c_i2b x
  have r := rng32 x
  have a := c_iadd x.toInt8.toInt32 256
  have ra := rng32 (x.toInt8.toInt32 + 256)
  have l0 : (0 : Int32).toInt = 0 := by decide
  have l2 : (256 : Int32).toInt = 256 := by decide
  unfold f_4
  by_cases h : x.toInt8.toInt32 < 0
  · simp only [h, if_true]
    rw [Int32.lt_iff_toInt_lt] at h
    omega
  · simp only [h, if_false]
    rw [Int32.lt_iff_toInt_lt] at h
    omega
theorem own_sw (x y : Int32) : (((x.toInt8.toInt32.toInt8.toInt32 &&& (255 : Int32)) <<< ((8 : Int32) &&& 31)) ||| (y.toInt8.toInt32.toInt8.toInt32 &&& (255 : Int32))).toInt = x.toInt % 256 * 256 + y.toInt % 256 := by
  have b1 := c_i2b x
  have b2 := c_i2b y
  have b3 := c_i2b x.toInt8.toInt32
  have b4 := c_i2b y.toInt8.toInt32
  generalize x.toInt8.toInt32 = x1 at *
  generalize y.toInt8.toInt32 = y1 at *
  have m1 := c_mask x1.toInt8.toInt32 255 8 (by decide) (by decide)
  have m2 := c_mask y1.toInt8.toInt32 255 8 (by decide) (by decide)
  generalize x1.toInt8.toInt32 &&& 255 = u at *
  generalize y1.toInt8.toInt32 &&& 255 = v at *
  have s1 := c_ishl u 8 8 (by decide)
  have r1 := rng32 (u <<< ((8 : Int32) &&& 31))
  have o1 := c_or (u <<< ((8 : Int32) &&& 31)) v 8 (by decide) 256 (by decide)
  have r2 := rng32 ((u <<< ((8 : Int32) &&& 31)) ||| v)
  omega
theorem own_fin (x y w : Int32) (hw : w = (((x.toInt8.toInt32.toInt8.toInt32 &&& (255 : Int32)) <<< ((8 : Int32) &&& 31)) ||| (y.toInt8.toInt32.toInt8.toInt32 &&& (255 : Int32)))) :
    (if w = (((f_4 x) * (256 : Int32)) + (f_4 y)) then (if w < (0 : Int32) then (0 : Int32) else (if (65535 : Int32) < w then (0 : Int32) else (1 : Int32))) else (0 : Int32)) = 1 := by
  have s := own_sw x y
  rw [← hw] at s
  have u1 := own_un x
  have u2 := own_un y
  have a1 := c_imul (f_4 x) 256
  have r1 := rng32 (f_4 x * 256)
  have a2 := c_iadd (f_4 x * 256) (f_4 y)
  have r2 := rng32 (f_4 x * 256 + f_4 y)
  have l0 : (0 : Int32).toInt = 0 := by decide
  have l2 : (256 : Int32).toInt = 256 := by decide
  have l3 : (65535 : Int32).toInt = 65535 := by decide
  rw [l2] at a1
  have e1 : w = f_4 x * 256 + f_4 y := by apply Int32.toInt_inj.mp; omega
  have e2 : ¬ w < 0 := by rw [Int32.lt_iff_toInt_lt]; omega
  have e3 : ¬ (65535 : Int32) < w := by rw [Int32.lt_iff_toInt_lt]; omega
  rw [if_pos e1, if_neg e2, if_neg e3]
theorem own_law (p0 p1 p2 p3 p4 p5 : Int32) : f_0 p0 p1 p2 p3 p4 p5 = 1 := by
  simp only [f_0]
  split
  · exact own_fin p3 p4 _ rfl
  · split
    · exact own_fin p3 p4 _ rfl
    · split
      · exact own_fin p3 p4 _ rfl
      · exact own_fin p3 p4 _ rfl
set_option maxRecDepth 65536 in
set_option maxHeartbeats 40000000 in
theorem comes_1 {Post : Tables → Env → Array Value → State → Outcome → State → Prop} (hpost : ∀ tb e args s v u, (limb_1_1.after args s (.returned v) u = true ∧ limb_1_2.after args s (.returned v) u = true ∧ True) → FrameEnd s (.returned v) u (Jvm.fieldLocs frame_1_writes args s ++ Jvm.arrayLocs frame_1_arrays args s ++ Jvm.staticLocs frame_1_statics s) 16 128 → Post tb e args s (.returned v) u) :
    ArmFor flags0 classFile x code maxLocals ret World_1 tables_1 room_1 Calls_1 rest_1 Pre_1 Post := by
  intro l hfl _ _ p e ha hc hk s m args below hf hA hF happ hP
  obtain ⟨hcalls, hrest, hpre⟩ := hP
  obtain ⟨-, -, -, hnamed, -, -, -, hat⟩ := (Spec.applies_iff hf).mp happ
  obtain ⟨hg, hn⟩ := and_e (Cond.before_iff.mp (show (Jvm.Cond.and given_1 narrow_1).before args s = true from hpre))
  obtain ⟨g0, gt0⟩ := and_e hg
  obtain ⟨ga0, gt1⟩ := and_e gt0
  obtain ⟨ga1, gt2⟩ := and_e gt1
  obtain ⟨ga2, gt3⟩ := and_e gt2
  obtain ⟨ga3, gt4⟩ := and_e gt3
  obtain ⟨ga4, gt5⟩ := and_e gt4
  obtain ⟨w0, w1, w2, w3, w4, w5, rfl⟩ : ∃ w0 w1 w2 w3 w4 w5 : Value, args = #[w0, w1, w2, w3, w4, w5] := by
    have hs : args.size = 6 := by simpa [Cond.value, given_1] using g0
    obtain ⟨L⟩ := args
    match L, hs with
    | [w0, w1, w2, w3, w4, w5], _ => exact ⟨w0, w1, w2, w3, w4, w5, rfl⟩
  have hw := fun d (hd : d ∈ tables_1) => atoms_spec (ws := Jvm.Cond.code x code maxLocals ret :: tables_1) hat d (List.mem_cons_of_mem _ hd)
  have hfit : Fit s := fun {y c} hc i hi => by
    obtain ⟨ha, rfl⟩ := Array.getElem?_eq_some_iff.mp hc
    have q := List.all_eq_true.mp ((Array.all_eq_true_iff_forall_mem.mp hF) _ (Array.getElem_mem ha)) i (List.mem_range.mpr hi)
    simpa [Array.getElem?_eq_getElem hi] using q
  obtain ⟨i0, ei0⟩ := is_v ga0
  obtain rfl : w0 = (.int i0) := Option.some.inj ei0
  obtain ⟨i1, ei1⟩ := is_v ga1
  obtain rfl : w1 = (.int i1) := Option.some.inj ei1
  obtain ⟨i2, ei2⟩ := is_v ga2
  obtain rfl : w2 = (.int i2) := Option.some.inj ei2
  obtain ⟨i3, ei3⟩ := is_v ga3
  obtain rfl : w3 = (.int i3) := Option.some.inj ei3
  obtain ⟨i4, ei4⟩ := is_v ga4
  obtain rfl : w4 = (.int i4) := Option.some.inj ei4
  obtain ⟨i5, ei5⟩ := is_v gt5
  obtain rfl : w5 = (.int i5) := Option.some.inj ei5
  obtain ⟨n, o, h1, h2, h3, _, L, rfl, ⟨rfl, N⟩, hq⟩ := rm_0 l s _ hw tables_1 i0 i1 i2 i3 i4 i5  s.heap s.heap.size (Nat.le_refl _)  p e ha hc hk s m _ below hf ((Spec.applies_iff_loose hf).mp happ).1 ⟨rfl, State.Warmed39.refl s, rfl⟩ trivial
  refine ⟨n, _, h1, h2, h3, hpost _ _ _ _ _ _ ⟨Cond.after_iff.mpr rfl, Cond.after_iff.mpr (eq_i res_at (Term.int_eval (1)) (congrArg Value.int (own_law _ _ _ _ _ _))), trivial⟩ ⟨hq.1, hq.2.1, (hq.2.2.sift fun y hy => Or.inr (N.1 y hy)).mono (by decide) (by decide)⟩⟩
theorem main_1_1 : Claimed_1_1 := comes_1 fun _ _ _ _ _ _ h hF => ⟨h.1, hF⟩
theorem main_1_2 : Claimed_1_2 := comes_1 fun _ _ _ _ _ _ h hF => ⟨h.2.1, hF⟩
end Jvm.Pilot.@@N@@
namespace Jvm.Pilot.@@N@@
open Jvm Jvm.ClassFile Sem Op Lib Jvm.Free Jvm.Stand Jvm.Pilot.@@N@@.Jvm.D
/-! MADE BY PROGRAM (witnessworld.py) out of the Statement's table words and the real class files: 9 classes; the members and pool entries that the words name. The judged class is class 1, her method 2. -/
namespace start1
open Jvm.ClassFile
def u (s : String) : CpInfo := .utf8 (stringToUtf16 s)
/-- a pool by its gaps: so many unusable entries, then the entry; so many at the end -/
def gap : Nat → List CpInfo → List CpInfo
  | 0, r => r
  | n + 1, r => .unusable :: gap n r
def poolList (es : List (Nat × CpInfo)) (last : Nat) : List CpInfo := es.foldr (fun e r => gap e.1 (e.2 :: r)) (gap last [])
def pool (es : List (Nat × CpInfo)) (last : Nat) : Array CpInfo := ⟨poolList es last⟩
def fileOf (pool : Array CpInfo) (this : Nat) (attrs : Array Attribute := #[]) (ms : Array MethodInfo := #[]) (fl : Nat := 33) (sup : Nat := 0) (ifs : Array Nat := #[]) (fds : Array FieldInfo := #[]) : ClassFile where
  minorVersion := 0
  majorVersion := 65
  constantPool := pool
  accessFlags := fl
  thisClass := this
  superClass := sup
  interfaces := ifs
  fields := fds
  methods := ms
  attributes := attrs
def plain (name : String) (sup : Option ClassId) : Class where
  name := name
  kind := .ordinary
  loader := none
  accessFlags := 33
  super := sup
  interfaces := #[]
  cf := none
  fields := #[]
  methods := #[]
  instanceTypes := #[]
  staticTypes := #[]
  resolved := #[]
  callSites := []
  init := .initialized
  statics := none
  mirror := none

def pool0 : Array CpInfo := pool [(5, u "<init>"), (0, u "()V"), (1, .class_ 10), (1, u "java/lang/Object"), (85, u "clone"), (0, u "()Ljava/lang/Object;")] 26

def k0c0 : Code := { maxStack := 0, maxLocals := 1, code := object_method_1_code, exceptionTable := #[], attributes := #[] }
def k0m0 : Method := { name := "<init>", desc := "()V", sig := { parameters := [], returnType := none }, accessFlags := 1, code := some k0c0 }
def k0m1 : Method := { name := "clone", desc := "()Ljava/lang/Object;", sig := { parameters := [], returnType := some (.object "java/lang/Object") }, accessFlags := 260, code := none }
/-- java/lang/Object -/
def k0 : Class := { plain "java/lang/Object" none with
  accessFlags := 33
  interfaces := #[]
  cf := some (fileOf pool0 8 #[] #[{ accessFlags := 1, nameIndex := 5, descriptorIndex := 6, attributes := #[] }, { accessFlags := 260, nameIndex := 96, descriptorIndex := 97, attributes := #[] }] 33 0 #[] #[])
  fields := #[]
  methods := #[k0m0, k0m1]
  instanceTypes := #[]
  staticTypes := #[]
  resolved := Array.replicate 124 none
  statics := none }

def pool1 : Array CpInfo := pool [(2, .class_ 4), (1, u "java/lang/Object"), (0, u "<init>"), (0, u "()V"), (0, .class_ 8), (0, u "com/example/cardwire/cardwire/core/ResponseApdu"), (0, .methodref 7 10), (0, .nameAndType 5 11), (0, u "([B)V"), (0, .methodref 7 13), (0, .nameAndType 14 15), (0, u "statusWord"), (0, u "()I"), (0, .methodref 17 18), (0, .class_ 19), (0, .nameAndType 20 21), (0, u "com/example/cardwire/cardwire/core/ResponseApduStatusWordPinLaw"), (0, u "unsigned"), (0, u "(I)I"), (0, .integer 65535), (3, u "law"), (0, u "(IIIIII)Z")] 4

def k1m0 : Method := { name := "<init>", desc := "()V", sig := { parameters := [], returnType := none }, accessFlags := 1, code := none }
def k1c1 : Code := { maxStack := 2, maxLocals := 2, code := method_2_code, exceptionTable := #[], attributes := #[] }
def k1m1 : Method := { name := "unsigned", desc := "(I)I", sig := { parameters := [.int], returnType := some .int }, accessFlags := 10, code := some k1c1 }
def k1c2 : Code := { maxStack := 4, maxLocals := 11, code := code, exceptionTable := #[], attributes := #[] }
def k1m2 : Method := { name := "law", desc := "(IIIIII)Z", sig := { parameters := [.int, .int, .int, .int, .int, .int], returnType := some .boolean }, accessFlags := 9, code := some k1c2 }
/-- com/example/cardwire/cardwire/core/ResponseApduStatusWordPinLaw -/
def k1 : Class := { plain "com/example/cardwire/cardwire/core/ResponseApduStatusWordPinLaw" (some 0) with
  accessFlags := 49
  interfaces := #[]
  cf := some (fileOf pool1 17 #[] #[{ accessFlags := 1, nameIndex := 5, descriptorIndex := 6, attributes := #[] }, { accessFlags := 10, nameIndex := 20, descriptorIndex := 21, attributes := #[] }, { accessFlags := 9, nameIndex := 26, descriptorIndex := 27, attributes := #[] }] 49 2 #[] #[])
  fields := #[]
  methods := #[k1m0, k1m1, k1m2]
  instanceTypes := #[]
  staticTypes := #[]
  resolved := Array.replicate 32 none
  statics := none }

def pool2 : Array CpInfo := pool [(1, .methodref 2 3), (0, .class_ 4), (0, .nameAndType 5 6), (0, u "java/lang/Object"), (0, u "<init>"), (0, u "()V"), (0, .class_ 8), (0, u "com/example/cardwire/cardwire/core/ResponseApdu"), (7, .methodref 17 18), (0, .class_ 19), (0, .nameAndType 20 21), (0, u "[B"), (0, u "clone"), (0, u "()Ljava/lang/Object;"), (0, .fieldref 7 23), (0, .nameAndType 24 19), (0, u "bytes"), (15, u "HEX"), (0, u "Ljava/util/HexFormat;"), (20, u "statusWord"), (0, u "()I"), (19, u "STATUS_LENGTH"), (0, u "I"), (2, u "([B)V")] 25

def k2c0 : Code := { maxStack := 3, maxLocals := 2, code := prog_23_method_1_code, exceptionTable := #[], attributes := #[] }
def k2m0 : Method := { name := "<init>", desc := "([B)V", sig := { parameters := [(.array .byte)], returnType := none }, accessFlags := 1, code := some k2c0 }
def k2c1 : Code := { maxStack := 4, maxLocals := 1, code := prog_23_method_4_code, exceptionTable := #[], attributes := #[] }
def k2m1 : Method := { name := "statusWord", desc := "()I", sig := { parameters := [], returnType := some .int }, accessFlags := 1, code := some k2c1 }
/-- com/example/cardwire/cardwire/core/ResponseApdu -/
def k2 : Class := { plain "com/example/cardwire/cardwire/core/ResponseApdu" (some 0) with
  accessFlags := 49
  interfaces := #[]
  cf := some (fileOf pool2 7 #[] #[{ accessFlags := 1, nameIndex := 5, descriptorIndex := 87, attributes := #[] }, { accessFlags := 1, nameIndex := 62, descriptorIndex := 63, attributes := #[] }] 49 2 #[] #[{ accessFlags := 26, nameIndex := 83, descriptorIndex := 84, attributes := #[] }, { accessFlags := 26, nameIndex := 40, descriptorIndex := 41, attributes := #[] }, { accessFlags := 18, nameIndex := 24, descriptorIndex := 19, attributes := #[] }])
  fields := #[{ name := "STATUS_LENGTH", type := .int, accessFlags := 26, slot := 0, constantValue := 0 }, { name := "HEX", type := (.object "java/util/HexFormat"), accessFlags := 26, slot := 1, constantValue := 0 }, { name := "bytes", type := (.array .byte), accessFlags := 18, slot := 0, constantValue := 0 }]
  methods := #[k2m0, k2m1]
  instanceTypes := #[(.array .byte)]
  staticTypes := #[.int, (.object "java/util/HexFormat")]
  resolved := Array.replicate 113 none
  statics := none }

def pool3 : Array CpInfo := pool [(1, .class_ 2), (0, u "java/lang/Cloneable"), (0, .class_ 4), (0, u "java/lang/Object")] 2

/-- java/lang/Cloneable -/
def k3 : Class := { plain "java/lang/Cloneable" (some 0) with
  accessFlags := 1537
  interfaces := #[]
  cf := some (fileOf pool3 1 #[] #[] 1537 3 #[] #[])
  fields := #[]
  methods := #[]
  instanceTypes := #[]
  staticTypes := #[]
  resolved := Array.replicate 7 none
  statics := none }

def pool4 : Array CpInfo := pool [(1, u "java/io/Serializable"), (0, .class_ 1), (0, u "java/lang/Object"), (0, .class_ 3)] 3

/-- java/io/Serializable -/
def k4 : Class := { plain "java/io/Serializable" (some 0) with
  accessFlags := 1537
  interfaces := #[]
  cf := some (fileOf pool4 2 #[] #[] 1537 4 #[] #[])
  fields := #[]
  methods := #[]
  instanceTypes := #[]
  staticTypes := #[]
  resolved := Array.replicate 8 none
  statics := none }

/-- the primitive byte -/
def k5 : Class := { plain "byte" none with kind := .primitive 'B', accessFlags := 0x411 }
/-- [B -/
def k6 : Class := { plain "[B" (some 0) with kind := .array 5 .byte, interfaces := #[3, 4], accessFlags := 1041 }

/-- the primitive int -/
def k7 : Class := { plain "int" none with kind := .primitive 'I', accessFlags := 0x411 }
/-- [I -/
def k8 : Class := { plain "[I" (some 0) with kind := .array 7 .int, interfaces := #[3, 4], accessFlags := 1041 }

def heap : Heap := #[]
def classes : Array Class := #[k0, k1, k2, k3, k4, k5, k6, k7, k8]
def interned : List (Array UInt16 × Addr) := []
def slotsUsed : Nat := 0
def theMethod : MethodId := ⟨1, 2⟩
def args0 : Array Value := #[.int 5, .int 7, .int 9, .int 3, .int 2, .int 1]
def aboutOver (below : List Frame) : State where
  vm := { classes := classes, interned := interned.toArray }
  heap := heap
  slotsUsed := slotsUsed
  threads := #[{ frames := .invoking theMethod args0 :: below }]
def below0 : List Frame := [.native { method := ⟨0, 0⟩, args := #[] }]
def about1 : State := aboutOver below0
def p0 : Program := .bare "" "" ""
def e0 : Env := launch0.env 0 0 0
theorem w_frames : about1.frames = Frame.invoking theMethod args0 :: below0 := rfl
set_option maxRecDepth 65536 in
theorem w_args : argsFit about1.vm theMethod args0 = true := by decide +kernel
set_option maxRecDepth 65536 in
theorem w_heap : heapFits about1 = true := by decide +kernel
set_option maxRecDepth 65536 in
theorem w_runnable : about1.curStatus? = some .runnable := by decide +kernel
set_option maxRecDepth 65536 in
theorem w_alone : about1.alone = true := by decide +kernel
set_option maxRecDepth 65536 in
theorem w_named : about1.methodNamed? x = some theMethod := by decide +kernel
set_option maxRecDepth 65536 in
theorem w_hears : about1.hears theMethod below0 = true := by decide +kernel
set_option maxRecDepth 65536 in
theorem w_ripe : about1.ripe theMethod args0 below0 = true := by decide +kernel
theorem w_running : about1.status = .running := rfl
set_option maxRecDepth 65536 in
theorem w_room : about1.hasRoom e0.platform room_1 = true :=
  launch0.hasRoom_least _ room_1 (by decide +kernel) (by decide +kernel) (by decide +kernel) (by decide +kernel) (by decide +kernel) (by decide +kernel)
theorem allAtoms_all (ts : List Jvm.Cond) (a : Array Jvm.Value) (st : Jvm.State) : (allAtoms ts).before a st = ts.all (fun c => c.before a st) := by
  induction ts with
  | nil => rfl
  | cons c t ih =>
    show (Jvm.Cond.and c (allAtoms t)).before a st = _
    rw [Jvm.Cond.before_and, ih, List.all_cons]
def words1 : List Jvm.Cond := Jvm.Cond.code x code maxLocals ret :: tables_1
/-- a 'code' word, met by the world's own term for the bytes: nothing is compared byte by byte -/
theorem code_word {y : MethodName} {bytes : ByteArray} {mx : Nat} {rt : Option FieldType} {a : Array Value} {s : State} {m : MethodId} {meth : Method} {c : Code} (h1 : s.methodNamed? y = some m) (h2 : s.vm.method? m = some meth) (h3 : meth.code = some c) (h4 : c.code = bytes)
    (h5 : (c.maxLocals == mx && c.exceptionTable.isEmpty && decide (c.maxStack ≤ mostOperands) && decide (meth.sig.returnType = rt) && !meth.locks && decide (parseMethodDescriptor y.desc = some meth.sig)) = true) : (Jvm.Cond.code y bytes mx rt).before a s = true := by
  simp only [Bool.and_eq_true, beq_iff_eq, Bool.not_eq_true', decide_eq_true_eq] at h5
  obtain ⟨⟨⟨⟨⟨g1, g2⟩, g3⟩, g4⟩, g5⟩, g6⟩ := h5
  simp [Cond.before, Cond.holds, Cond.value, h1, h2, h3, h4, g1, g2, g3, g4, g5, g6]
def isCode : Jvm.Cond → Bool
  | .code _ _ _ _ => true
  | _ => false
theorem all_split {L : List Jvm.Cond} {P : Jvm.Cond → Bool} (h1 : L.all (fun c => isCode c || P c) = true) (h2 : ∀ c ∈ L.filter isCode, P c = true) : L.all P = true := by
  refine List.all_eq_true.mpr fun c hc => ?_
  have h := List.all_eq_true.mp h1 c hc
  rcases Bool.eq_false_or_eq_true (isCode c) with hi | hi
  · exact h2 c (List.mem_filter.mpr ⟨hc, hi⟩)
  · simpa [hi] using h
set_option maxRecDepth 65536 in
theorem w_c0 : (Jvm.Cond.code x code maxLocals ret).before args0 about1 = true := code_word (m := ⟨1, 2⟩) (meth := k1m2) (c := k1c2) (by decide +kernel) rfl rfl rfl (by decide +kernel)
set_option maxRecDepth 65536 in
theorem w_c1 : (Jvm.Cond.code ({ cls := "com/example/cardwire/cardwire/core/ResponseApdu", name := "<init>", desc := "([B)V" } : Jvm.MethodName) prog_23_method_1_code (2 : Nat) (Option.none : Option Jvm.ClassFile.FieldType)).before args0 about1 = true := code_word (m := ⟨2, 0⟩) (meth := k2m0) (c := k2c0) (by decide +kernel) rfl rfl rfl (by decide +kernel)
set_option maxRecDepth 65536 in
theorem w_c2 : (Jvm.Cond.code ({ cls := "java/lang/Object", name := "<init>", desc := "()V" } : Jvm.MethodName) object_method_1_code (1 : Nat) (Option.none : Option Jvm.ClassFile.FieldType)).before args0 about1 = true := code_word (m := ⟨0, 0⟩) (meth := k0m0) (c := k0c0) (by decide +kernel) rfl rfl rfl (by decide +kernel)
set_option maxRecDepth 65536 in
theorem w_c3 : (Jvm.Cond.code ({ cls := "com/example/cardwire/cardwire/core/ResponseApdu", name := "statusWord", desc := "()I" } : Jvm.MethodName) prog_23_method_4_code (1 : Nat) (Option.some Jvm.ClassFile.FieldType.int)).before args0 about1 = true := code_word (m := ⟨2, 1⟩) (meth := k2m1) (c := k2c1) (by decide +kernel) rfl rfl rfl (by decide +kernel)
set_option maxRecDepth 65536 in
theorem w_c4 : (Jvm.Cond.code ({ cls := "com/example/cardwire/cardwire/core/ResponseApduStatusWordPinLaw", name := "unsigned", desc := "(I)I" } : Jvm.MethodName) method_2_code (2 : Nat) (Option.some Jvm.ClassFile.FieldType.int)).before args0 about1 = true := code_word (m := ⟨1, 1⟩) (meth := k1m1) (c := k1c1) (by decide +kernel) rfl rfl rfl (by decide +kernel)
def codes1 : List Jvm.Cond := [Jvm.Cond.code x code maxLocals ret, Jvm.Cond.code ({ cls := "com/example/cardwire/cardwire/core/ResponseApdu", name := "<init>", desc := "([B)V" } : Jvm.MethodName) prog_23_method_1_code (2 : Nat) (Option.none : Option Jvm.ClassFile.FieldType), Jvm.Cond.code ({ cls := "java/lang/Object", name := "<init>", desc := "()V" } : Jvm.MethodName) object_method_1_code (1 : Nat) (Option.none : Option Jvm.ClassFile.FieldType), Jvm.Cond.code ({ cls := "com/example/cardwire/cardwire/core/ResponseApdu", name := "statusWord", desc := "()I" } : Jvm.MethodName) prog_23_method_4_code (1 : Nat) (Option.some Jvm.ClassFile.FieldType.int), Jvm.Cond.code ({ cls := "com/example/cardwire/cardwire/core/ResponseApduStatusWordPinLaw", name := "unsigned", desc := "(I)I" } : Jvm.MethodName) method_2_code (2 : Nat) (Option.some Jvm.ClassFile.FieldType.int)]
set_option maxRecDepth 65536 in
theorem codes_eq : words1.filter isCode = codes1 := rfl
theorem w_codes : ∀ c ∈ words1.filter isCode, c.before args0 about1 = true := by
  rw [codes_eq]
  intro c hc
  simp only [codes1, List.mem_cons, List.not_mem_nil, or_false] at hc
  rcases hc with rfl | rfl | rfl | rfl | rfl
  · exact w_c0
  · exact w_c1
  · exact w_c2
  · exact w_c3
  · exact w_c4
set_option maxRecDepth 65536 in
theorem w_t1 : (words1.take 24).all (fun c => isCode c || c.before args0 about1) = true := by decide +kernel
set_option maxRecDepth 65536 in
theorem w_t2 : (words1.drop 24).all (fun c => isCode c || c.before args0 about1) = true := by decide +kernel
theorem w_tables : (allAtoms (Jvm.Cond.code x code maxLocals ret :: tables_1)).before args0 about1 = true := by
  rw [allAtoms_all]
  show words1.all (fun c => c.before args0 about1) = true
  refine all_split ?_ w_codes
  rw [← List.take_append_drop 24 words1, List.all_append, w_t1, w_t2]
  rfl
set_option maxRecDepth 65536 in
theorem w_case : (Jvm.Cond.and given_1 narrow_1).before args0 about1 = true := by decide +kernel
theorem w_applies : (headSpec (Jvm.Cond.code x code maxLocals ret :: tables_1) room_1).applies x e0.platform about1 = true :=
  (Spec.applies_iff w_frames).mpr ⟨w_running, w_runnable, w_alone, w_named, w_hears, w_ripe, w_room, w_tables⟩
theorem atStart : AtStart classFile x code maxLocals ret World_1 tables_1 room_1 Calls_1 rest_1 Pre_1 launch0 p0 e0 about1 theMethod args0 below0 :=
  ⟨lists_1, trivial, launch0.admits_env _ _ _, launch0.least_env, fairChoices_fair.cas, fairChoices_fair.clock, w_frames, w_args, w_heap, w_applies, trivial, trivial, w_case⟩
end start1
theorem witness_1 : WitnessClaimed_1 := ⟨start1.p0, start1.e0, start1.about1, start1.theMethod, start1.args0, start1.below0, start1.atStart⟩
end Jvm.Pilot.@@N@@
