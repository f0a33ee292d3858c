import JvmDerived
import JvmDerived.Pilot.@@N@@Statement
import JvmDerived.Pilot.@@N@@Code
set_option linter.unusedVariables false
set_option linter.unusedSimpArgs false
namespace Jvm.RoadKit
open Sem ClassFile Op Lib Jvm.Stand Jvm.Free Jvm.LawKit
section New
variable {p : Program} {l : Launch} {e : Env} {R : Room} {s : State} {m : MethodId} {args : Array Value} {below : List Frame} {meth : Method} {c : Code} {T : State} {locs : List Loc} {cells slots : Nat}
theorem retI (X : Stand p l e R s m args below meth c T locs cells slots) (hx : p.tables.exec = Jvm.exec) {pc : Nat} {Ls : Array Slot} {z : Int32} {rest : List Value} (hret : meth.sig.returnType = some .int) (hd : decode c.code pc = .ok (.ireturn, 1)) {fs : List Frame}
    (hl : ∀ (f : JFrame) (acts : List Action), f.method = m → f.locked = none → f.entered = [] → (doReturn e (T.setTop f) acts (some (.int z))).1 = T.setFrames fs) : Steps p.tables e below (T.setTop (mkF m pc Ls (.int z :: rest))) (T.setFrames fs) := by
  have hm' : T.vm.method? m = some meth := X.method'
  have hn : narrow .int (.int z) = .int z := rfl
  show Steps p.tables e below (T.setTop { method := m, pc := pc, locals := Ls, stack := _ :: rest, locked := none }) _
  jvm_step X.here [X.here.top, hx, hd, hm', hret, hn]
  first | (intro acts; rw [hl _ acts rfl rfl rfl]) | rw [hl _ _ rfl rfl rfl]
  exact Steps.refl _
theorem own_lremM {g : JFrame} {target : State} (X : Stand p l e R s m args below meth c T locs cells slots) (hx : p.tables.exec = Jvm.exec) (hg : g.method = m) {x y : Int64} {rest : List Value} (hd : decode c.code g.pc = .ok (.lrem, 1)) (hs : g.stack = .long y :: .long x :: rest) (hy : y ≠ 0)
    (hr : Steps p.tables e below (T.setTop { g with pc := g.pc + 1, stack := .long (x % y) :: rest }) target) : Steps p.tables e below (T.setTop g) target := by
  have q : x - x / y * y = x % y := lrem_mod x y
  exact XS.lrem X.here hx hg hd hs hy (by rw [q]; exact hr)
end New
end Jvm.RoadKit
namespace Jvm.RoadKit
open Sem ClassFile Op Lib Jvm.Stand Jvm.Free Jvm.LawKit
section OwnA
variable {p : Program} {l : Launch} {e : Env} {R : Room} {s : State} {m : MethodId} {args : Array Value} {below : List Frame} {meth : Method} {c : Code} {T : State} {locs : List Loc} {cells slots : Nat} {Z : State} {a0 : Array Value} {h h' : Heap} {a b : Addr} {ty : FieldType} {n : Nat} {G : Nat → Value}
def own_upd {α : Type} (g : Nat → α) (k : Nat) (x : α) (i : Nat) : α := if i = k then x else g i
def own_zI (_ : Nat) : Int32 := 0
def own_zJ (_ : Nat) : Int64 := 0
def own_A (Z : State) (h : Heap) (a : Addr) (ty : FieldType) (n : Nat) (G : Nat → Value) : Prop := ∃ c : Cell, Arr Z h a c ty ∧ c.slots.size = n ∧ ∀ i, i < n → c.slots[i]? = some (G i) ∧ fits ty (G i) = true
theorem own_A.lt (F : own_A Z h a ty n G) : a < h.size := by obtain ⟨c, A, -⟩ := F; exact A.lt
theorem own_A.ext (F : own_A Z h a ty n G) (E : Ext h h') : own_A Z h' a ty n G := by obtain ⟨c, A, r⟩ := F; exact ⟨c, A.ext E, r⟩
theorem own_A.other {sl : Nat} {v : Value} (F : own_A Z h b ty n G) (W : Wr h h' a sl v) (q : b ≠ a) : own_A Z h' b ty n G := by obtain ⟨c, A, r⟩ := F; exact ⟨c, A.other W q, r⟩
theorem own_A.keep {ws : List Addr} (F : own_A Z h a ty n G) (K : Keep h h' ws) (q : a ∉ ws) : own_A Z h' a ty n G := by obtain ⟨c, A, r⟩ := F; exact ⟨c, ⟨K.2.1 a c A.1 q, A.2⟩, r⟩
theorem own_A.new {k : ClassId} {z : Int32} (A : Arr Z h a (newA k ty z) ty) (q : z.toNatClampNeg = n) (hG : ∀ i, G i = defaultValue ty) : own_A Z h a ty n G :=
  ⟨_, A, by rw [sz_new, q], fun i hi => ⟨by rw [hG]; rw [← q] at hi; simp [newA, hi], by rw [hG]; cases ty <;> rfl⟩⟩
theorem own_A.set {k : Nat} {v : Value} (F : own_A Z h a ty n G) (W : Wr h h' a k v) (hk : k < n) (hf : fits ty v = true) : own_A Z h' a ty n (own_upd G k v) := by
  obtain ⟨c, A, q, r⟩ := F
  refine ⟨c.setSlot k v, A.same W, by rw [sz_set, q], fun i hi => ?_⟩
  by_cases e : i = k
  · subst e
    exact ⟨by simp [Cell.setSlot, own_upd, q, hk], by simpa [own_upd] using hf⟩
  · have r1 := r i hi
    have r2 : (c.setSlot k v).slots[i]? = c.slots[i]? := Array.getElem?_setIfInBounds_ne (Ne.symm e)
    have r3 : own_upd G k v i = G i := if_neg e
    rw [r2, r3]; exact r1
theorem own_upd_int (g : Nat → Int32) (k : Nat) (x : Int32) : own_upd (fun i => Value.int (g i)) k (.int x) = fun i => Value.int (own_upd g k x i) := by funext i; unfold own_upd; split <;> rfl
theorem own_upd_long (g : Nat → Int64) (k : Nat) (x : Int64) : own_upd (fun i => Value.long (g i)) k (.long x) = fun i => Value.long (own_upd g k x i) := by funext i; unfold own_upd; split <;> rfl
theorem own_inb {c : Cell} {j : Int32} {k : Nat} (q : c.slots.size = n) (hj0 : ¬ j < 0) (hk : j.toNatClampNeg = k) (hkn : k < n) : ¬ (j < 0 ∨ c.slots.size ≤ j.toNatClampNeg) := fun y => y.elim hj0 fun z => by rw [q, hk] at z; exact absurd hkn (Nat.not_lt.mpr z)
theorem own_stI {g0 : Nat → Int32} (X : Stand p l e R s m args below meth c T locs cells slots) (hx : p.tables.exec = Jvm.exec) (hZ : Z.Warmed39 s.vm) (eT : T.heap = h) (F : own_A Z h a .int n (fun i => .int (g0 i))) {j x : Int32} {k : Nat} (hj0 : ¬ j < 0) (hk : j.toNatClampNeg = k) (hkn : k < n) {g : JFrame} (hg : g.method = m) {rest : List Value} (hs : g.stack = .int x :: .int j :: .ref a :: rest) (hd : decode c.code g.pc = .ok (.iastore, 1)) :
    ∃ T' h', Stand p l e R s m args below meth c T' (locs ++ [⟨a, j.toNatClampNeg⟩]) cells slots ∧ T'.heap = h' ∧ Wr h h' a j.toNatClampNeg (.int x) ∧ own_A Z h' a .int n (fun i => .int (own_upd g0 k x i)) ∧ ∀ target, Steps p.tables e below (T'.setTop { g with pc := g.pc + 1, stack := rest }) target → Steps p.tables e below (T.setTop g) target := by
  obtain ⟨cl, A, q, r⟩ := id F
  obtain ⟨T', h', X', e', W, st⟩ := stI X hx hZ eT A (j := j) (x := x) (own_inb q hj0 hk hkn) hg hs hd
  exact ⟨T', h', X', e', W, own_upd_int g0 k x ▸ hk ▸ F.set W (by rw [hk]; exact hkn) rfl, st⟩
theorem own_stJ {g0 : Nat → Int64} (X : Stand p l e R s m args below meth c T locs cells slots) (hx : p.tables.exec = Jvm.exec) (hZ : Z.Warmed39 s.vm) (eT : T.heap = h) (F : own_A Z h a .long n (fun i => .long (g0 i))) {j : Int32} {x : Int64} {k : Nat} (hj0 : ¬ j < 0) (hk : j.toNatClampNeg = k) (hkn : k < n) {g : JFrame} (hg : g.method = m) {rest : List Value} (hs : g.stack = .long x :: .int j :: .ref a :: rest) (hd : decode c.code g.pc = .ok (.lastore, 1)) :
    ∃ T' h', Stand p l e R s m args below meth c T' (locs ++ [⟨a, j.toNatClampNeg⟩]) cells slots ∧ T'.heap = h' ∧ Wr h h' a j.toNatClampNeg (.long x) ∧ own_A Z h' a .long n (fun i => .long (own_upd g0 k x i)) ∧ ∀ target, Steps p.tables e below (T'.setTop { g with pc := g.pc + 1, stack := rest }) target → Steps p.tables e below (T.setTop g) target := by
  obtain ⟨cl, A, q, r⟩ := id F
  obtain ⟨T', h', X', e', W, st⟩ := stJ X hx hZ eT A (j := j) (x := x) (own_inb q hj0 hk hkn) hg hs hd
  exact ⟨T', h', X', e', W, own_upd_long g0 k x ▸ hk ▸ F.set W (by rw [hk]; exact hkn) rfl, st⟩
theorem own_stB {g0 : Nat → Int32} (X : Stand p l e R s m args below meth c T locs cells slots) (hx : p.tables.exec = Jvm.exec) (hZ : Z.Warmed39 s.vm) (eT : T.heap = h) (F : own_A Z h a .byte n (fun i => .int (g0 i))) {j x : Int32} {k : Nat} (hj0 : ¬ j < 0) (hk : j.toNatClampNeg = k) (hkn : k < n) {g : JFrame} (hg : g.method = m) {rest : List Value} (hs : g.stack = .int x :: .int j :: .ref a :: rest) (hd : decode c.code g.pc = .ok (.bastore, 1)) :
    ∃ T' h', Stand p l e R s m args below meth c T' (locs ++ [⟨a, j.toNatClampNeg⟩]) cells slots ∧ T'.heap = h' ∧ Wr h h' a j.toNatClampNeg (.int x.toInt8.toInt32) ∧ own_A Z h' a .byte n (fun i => .int (own_upd g0 k x.toInt8.toInt32 i)) ∧ ∀ target, Steps p.tables e below (T'.setTop { g with pc := g.pc + 1, stack := rest }) target → Steps p.tables e below (T.setTop g) target := by
  obtain ⟨cl, A, q, r⟩ := id F
  obtain ⟨T', h', X', e', W, st⟩ := stB X hx hZ eT A (j := j) (x := x) (own_inb q hj0 hk hkn) hg hs hd
  have hfb : fits .byte (.int (nar .byte x)) = true := fits_nar_byte x
  exact ⟨T', h', X', e', W, own_upd_int g0 k _ ▸ hk ▸ F.set W (by rw [hk]; exact hkn) hfb, st⟩
theorem own_ldI {g0 : Nat → Int32} (X : Stand p l e R s m args below meth c T locs cells slots) (hx : p.tables.exec = Jvm.exec) (hZ : Z.Warmed39 s.vm) (eT : T.heap = h) (F : own_A Z h a .int n (fun i => .int (g0 i))) {j : Int32} {k : Nat} (hj0 : ¬ j < 0) (hk : j.toNatClampNeg = k) (hkn : k < n) {g : JFrame} (hg : g.method = m) {rest : List Value} (hs : g.stack = .int j :: .ref a :: rest) (hd : decode c.code g.pc = .ok (.iaload, 1)) {target : State}
    (hr : Steps p.tables e below (T.setTop { g with pc := g.pc + 1, stack := .int (g0 k) :: rest }) target) : Steps p.tables e below (T.setTop g) target := by
  obtain ⟨cl, A, q, r⟩ := F
  exact X.iaload hx (j := j) (v := .int (g0 k)) (by rw [eT]; exact A.1) (State.isArrayOf_alike hZ.alike A.2.1) A.2.2 (own_inb q hj0 hk hkn) (by rw [hk]; exact (r k hkn).1) hg hs hd _ hr
theorem own_ldJ {g0 : Nat → Int64} (X : Stand p l e R s m args below meth c T locs cells slots) (hx : p.tables.exec = Jvm.exec) (hZ : Z.Warmed39 s.vm) (eT : T.heap = h) (F : own_A Z h a .long n (fun i => .long (g0 i))) {j : Int32} {k : Nat} (hj0 : ¬ j < 0) (hk : j.toNatClampNeg = k) (hkn : k < n) {g : JFrame} (hg : g.method = m) {rest : List Value} (hs : g.stack = .int j :: .ref a :: rest) (hd : decode c.code g.pc = .ok (.laload, 1)) {target : State}
    (hr : Steps p.tables e below (T.setTop { g with pc := g.pc + 1, stack := .long (g0 k) :: rest }) target) : Steps p.tables e below (T.setTop g) target := by
  obtain ⟨cl, A, q, r⟩ := F
  exact X.laload hx (j := j) (v := .long (g0 k)) (by rw [eT]; exact A.1) (State.isArrayOf_alike hZ.alike A.2.1) A.2.2 (own_inb q hj0 hk hkn) (by rw [hk]; exact (r k hkn).1) hg hs hd _ hr
theorem own_ldB {g0 : Nat → Int32} (X : Stand p l e R s m args below meth c T locs cells slots) (hx : p.tables.exec = Jvm.exec) (hZ : Z.Warmed39 s.vm) (eT : T.heap = h) (F : own_A Z h a .byte n (fun i => .int (g0 i))) {j : Int32} {k : Nat} (hj0 : ¬ j < 0) (hk : j.toNatClampNeg = k) (hkn : k < n) {g : JFrame} (hg : g.method = m) {rest : List Value} (hs : g.stack = .int j :: .ref a :: rest) (hd : decode c.code g.pc = .ok (.baload, 1)) {target : State}
    (hr : Steps p.tables e below (T.setTop { g with pc := g.pc + 1, stack := .int (g0 k) :: rest }) target) : Steps p.tables e below (T.setTop g) target := by
  obtain ⟨cl, A, q, r⟩ := F
  exact X.baloadBytes hx (j := j) (v := .int (g0 k)) (by rw [eT]; exact A.1) (State.isArrayOf_alike hZ.alike A.2.1) A.2.2 (own_inb q hj0 hk hkn) (by rw [hk]; exact (r k hkn).1) hg hs hd _ hr
theorem own_ldR {G : Nat → Value} (X : Stand p l e R s m args below meth c T locs cells slots) (hx : p.tables.exec = Jvm.exec) (hZ : Z.Warmed39 s.vm) (eT : T.heap = h) (F : own_A Z h a ty n G) (hty : ty.isReference = true) {j : Int32} {k : Nat} {v : Value} (hv : G k = v) (hj0 : ¬ j < 0) (hk : j.toNatClampNeg = k) (hkn : k < n) {g : JFrame} (hg : g.method = m) {rest : List Value} (hs : g.stack = .int j :: .ref a :: rest) (hd : decode c.code g.pc = .ok (.aaload, 1)) {target : State}
    (hr : Steps p.tables e below (T.setTop { g with pc := g.pc + 1, stack := v :: rest }) target) : Steps p.tables e below (T.setTop g) target := by
  obtain ⟨cl, A, q, r⟩ := F
  exact X.aaload hx (j := j) (v := v) (by rw [eT]; exact A.1) (State.isArrayOf_alike hZ.alike A.2.1) hty A.2.2 (own_inb q hj0 hk hkn) (by rw [hk, ← hv]; exact (r k hkn).1) hg hs hd _ hr
theorem own_len (X : Stand p l e R s m args below meth c T locs cells slots) (hx : p.tables.exec = Jvm.exec) (hZ : Z.Warmed39 s.vm) (eT : T.heap = h) (F : own_A Z h a ty n G) {z : Int32} (hz : n.toInt32 = z) {g : JFrame} (hg : g.method = m) {rest : List Value} (hs : g.stack = .ref a :: rest) (hd : decode c.code g.pc = .ok (.arraylength, 1)) {target : State}
    (hr : Steps p.tables e below (T.setTop { g with pc := g.pc + 1, stack := .int z :: rest }) target) : Steps p.tables e below (T.setTop g) target := by
  obtain ⟨cl, A, q, r⟩ := F
  exact X.arraylength hx (by rw [eT]; exact A.1) (State.isArrayOf_alike hZ.alike A.2.1) hg hs hd _ (by rw [q, hz]; exact hr)
theorem own_newP {aty : ArrayType} (X : Stand p l e R s m args below meth c T locs cells slots) (hx : p.tables.exec = Jvm.exec) (hZ : Z.Warmed39 s.vm) (w : (Cond.arrayClass (newarray.typeOf aty)).before a0 Z = true) (eT : T.heap = h) {g : JFrame} (hg : g.method = m) (hd : decode c.code g.pc = .ok (.newarray aty, 2)) {z : Int32} {rest : List Value} (hs : g.stack = .int z :: rest)
    (hn : ¬ z < 0) (hzn : z.toNatClampNeg = n) {G : Nat → Value} (hG : ∀ i, G i = defaultValue (newarray.typeOf aty)) {cap : Nat} (hcap : n ≤ cap) (hb : cap * 8 ≤ 536870912) (hc : cells + 1 ≤ R.cells) (hl : slots + cap ≤ R.slots) :
    ∃ (T' : State) (h' : Heap) (b : Addr), b = h.size ∧ Stand p l e R s m args below meth c T' locs (cells + 1) (slots + cap) ∧ T'.heap = h' ∧ Ext h h' ∧ own_A Z h' b (newarray.typeOf aty) n G ∧
      ∀ target, Steps p.tables e below (T'.setTop { g with pc := g.pc + 2, stack := .ref b :: rest }) target → Steps p.tables e below (T.setTop g) target := by
  obtain ⟨T', h', cA, X', e', E', A', st⟩ := newP X hx hZ w eT hg hd hs hn (cap := cap) (by rw [hzn]; exact hcap) hb hc hl
  exact ⟨T', h', _, rfl, X', e', E', own_A.new A' hzn hG, st⟩
theorem own_newPE {aty : ArrayType} (X : Stand p l e R s m args below meth c T locs cells slots) (hx : p.tables.exec = Jvm.exec) (hZ : Z.Warmed39 s.vm) (w : (Cond.arrayClass (newarray.typeOf aty)).before a0 Z = true) (eT : T.heap = h) {g : JFrame} (hg : g.method = m) (hd : decode c.code g.pc = .ok (.newarray aty, 2)) {z : Int32} {rest : List Value} (hs : g.stack = .int z :: rest)
    (hn : ¬ z < 0) (hzn : z.toNatClampNeg = n) {G : Nat → Value} (hG : ∀ i, G i = defaultValue (newarray.typeOf aty)) {cap : Nat} (hcap : n ≤ cap) (hb : cap * 8 ≤ 536870912) (hc : cells + 1 ≤ R.cells) (hl : slots + cap ≤ R.slots) {ad : String} (had : "[" ++ (newarray.typeOf aty).toString = ad) :
    ∃ (T' : State) (h' : Heap) (b : Addr), b = h.size ∧ Stand p l e R s m args below meth c T' locs (cells + 1) (slots + cap) ∧ T'.heap = h' ∧ Ext h h' ∧ own_A Z h' b (newarray.typeOf aty) n G ∧ Exa Z h' b ad ∧
      ∀ target, Steps p.tables e below (T'.setTop { g with pc := g.pc + 2, stack := .ref b :: rest }) target → Steps p.tables e below (T.setTop g) target := by
  obtain ⟨T', h', cA, X', e', E', A', B', st⟩ := newPE X hx hZ w eT hg hd hs hn (cap := cap) (by rw [hzn]; exact hcap) hb hc hl had
  exact ⟨T', h', _, rfl, X', e', E', own_A.new A' hzn hG, B', st⟩
theorem own_clone (X : Stand p l e R s m args below meth c T locs cells slots) (hx : p.tables.exec = Jvm.exec) (hZ : Z.Warmed39 s.vm) {own ad : String} {index : Nat} (hown : s.vm.findClass own = some m.cls)
    (w1 : (Cond.methodLink own index ⟨ad, "clone", "()Ljava/lang/Object;"⟩).before a0 Z = true) (w2 : (Cond.sameMethod ad "java/lang/Object" "clone" "()Ljava/lang/Object;").before a0 Z = true) (w3 : (Cond.native ⟨"java/lang/Object", "clone", "()Ljava/lang/Object;"⟩).before a0 Z = true)
    (w4 : (Cond.instanceMethod ⟨"java/lang/Object", "clone", "()Ljava/lang/Object;"⟩).before a0 Z = true) (w5 : (Cond.selects ad ⟨ad, "clone", "()Ljava/lang/Object;"⟩ ⟨"java/lang/Object", "clone", "()Ljava/lang/Object;"⟩).before a0 Z = true) (w6 : (Cond.castable ad "java/lang/Cloneable").before a0 Z = true)
    (eT : T.heap = h) (F : own_A Z h a ty n G) (E : Exa Z h a ad) {g : JFrame} (hg : g.method = m) (hsize : g.locals.size = c.maxLocals) {rest : List Value} (hs : g.stack = .ref a :: rest) (hd : decode c.code g.pc = .ok (.invokevirtual index, 3))
    (hf : 1 ≤ R.frames) {W cap : Nat} (hW : 2 * g.monitorRoom + (rest.map fun v => v.category).sum ≤ W) (hl : W + 14 ≤ R.locals) (hcap : n ≤ cap) (hc : cells + 1 ≤ R.cells) (hsl : slots + cap ≤ R.slots) :
    ∃ (T' : State) (h' : Heap) (b : Addr), b = h.size ∧ Stand p l e R s m args below meth c T' locs (cells + 1) (slots + cap) ∧ T'.heap = h' ∧ Ext h h' ∧ own_A Z h' b ty n G ∧ Exa Z h' b ad ∧
      ∀ target, Steps p.tables e below (T'.setTop { g with pc := g.pc + 3, stack := .ref b :: rest }) target → Steps p.tables e below (T.setTop g) target := by
  obtain ⟨cl, A, q, r⟩ := F
  have FC : FitC Z cl := fitC_of A fun i hi v hv => by
    have r1 := r i (by rw [← q]; exact hi)
    rw [r1.1] at hv; cases hv; exact r1.2
  obtain ⟨T', h', X', e', ex, A', E', st⟩ := cloneA X hx hZ hown w1 w2 w3 w4 w5 w6 eT A E FC hg hsize hs hd hf hW hl (by rw [q]; exact hcap) hc hsl
  exact ⟨T', h', _, rfl, X', e', ex, ⟨cloneOf cl, A', q, r⟩, E', st⟩
theorem own_A.congr {G' : Nat → Value} (F : own_A Z h a ty n G) (q : ∀ i, i < n → G i = G' i) : own_A Z h a ty n G' := by
  obtain ⟨c, A, s, r⟩ := F
  exact ⟨c, A, s, fun i hi => by rw [← q i hi]; exact r i hi⟩
theorem own_A_plain (F : own_A Z h a ty n G) : ∀ c : Cell, h[a]? = some c → c.vm.isStatics = false := fun c hc => by
  obtain ⟨cl, A, -⟩ := F
  cases hc.symm.trans A.1
  exact A.plain
theorem own_E_plain {C : String} (F : Exa Z h a C) : ∀ c : Cell, h[a]? = some c → c.vm.isStatics = false := fun c hc => by
  obtain ⟨cl, k, h1, -, -, h4, -⟩ := F
  cases hc.symm.trans h1
  exact h4
theorem own_sta_keep {C f d : String} {v : Value} {ws : List Addr} (F : Sta Z h C f d v) (K : Keep h h' ws) (q : ∀ x ∈ ws, ∀ c : Cell, h[x]? = some c → c.vm.isStatics = false) : Sta Z h' C f d v := by
  obtain ⟨cf, i, k, f, st, cell, h1, h2, h3, h4, h5, h6, h7⟩ := F
  exact ⟨cf, i, k, f, st, cell, h1, h2, h3, h4, K.2.1 st cell h5 (fun z => by rw [q st z cell h5] at h6; cases h6), h6, h7⟩
end OwnA
end Jvm.RoadKit
namespace Jvm.RoadKit
open Sem ClassFile Op Lib Jvm.Stand Jvm.Free Jvm.LawKit
section OwnR
variable {p : Program} {l : Launch} {e : Env} {R : Room} {s : State} {m : MethodId} {args : Array Value} {below : List Frame} {meth : Method} {c : Code} {T : State} {locs : List Loc} {cells slots : Nat} {Z : State} {a0 : Array Value} {h h' : Heap} {a b : Addr} {n : Nat} {G : Nat → Value} {C : String} {kc : ClassId}
def own_zR (_ : Nat) : Value := .null
def own_R (Z : State) (h : Heap) (a : Addr) (kc : ClassId) (C : String) (n : Nat) (G : Nat → Value) : Prop := ∃ c : Cell, Arr Z h a c (.object C) ∧ c.cls = kc ∧ c.slots.size = n ∧ ∀ i, i < n → c.slots[i]? = some (G i) ∧ fits (.object C) (G i) = true
theorem own_R.lt (F : own_R Z h a kc C n G) : a < h.size := by obtain ⟨c, A, -⟩ := F; exact A.lt
theorem own_R.ext (F : own_R Z h a kc C n G) (E : Ext h h') : own_R Z h' a kc C n G := by obtain ⟨c, A, r⟩ := F; exact ⟨c, A.ext E, r⟩
theorem own_R.other {sl : Nat} {v : Value} (F : own_R Z h b kc C n G) (W : Wr h h' a sl v) (q : b ≠ a) : own_R Z h' b kc C n G := by obtain ⟨c, A, r⟩ := F; exact ⟨c, A.other W q, r⟩
theorem own_R.keep {ws : List Addr} (F : own_R Z h a kc C n G) (K : Keep h h' ws) (q : a ∉ ws) : own_R Z h' a kc C n G := by obtain ⟨c, A, r⟩ := F; exact ⟨c, ⟨K.2.1 a c A.1 q, A.2⟩, r⟩
theorem own_R.toA (F : own_R Z h a kc C n G) : own_A Z h a (.object C) n G := by obtain ⟨c, A, _, r⟩ := F; exact ⟨c, A, r⟩
theorem own_newR (X : Stand p l e R s m args below meth c T locs cells slots) (hx : p.tables.exec = Jvm.exec) (hZ : Z.Warmed39 s.vm) {own : String} {index : Nat} (hown : s.vm.findClass own = some m.cls) (w1 : (Cond.classLink own index C).before a0 Z = true) (w2 : (Cond.arrayOver (.object C)).before a0 Z = true)
    (eT : T.heap = h) {g : JFrame} (hg : g.method = m) (hd : decode c.code g.pc = .ok (.anewarray index, 3)) {z : Int32} {rest : List Value} (hs : g.stack = .int z :: rest) (hn : ¬ z < 0) (hzn : z.toNatClampNeg = n) (hb : n * 8 ≤ 536870912) (hc : cells + 1 ≤ R.cells) (hl : slots + n ≤ R.slots) :
    ∃ (T' : State) (h' : Heap) (b : Addr) (kc : ClassId), b = h.size ∧ Stand p l e R s m args below meth c T' locs (cells + 1) (slots + n) ∧ T'.heap = h' ∧ Ext h h' ∧ own_R Z h' b kc C n own_zR ∧ Ovr Z kc C ∧
      ∀ target, Steps p.tables e below (T'.setTop { g with pc := g.pc + 3, stack := .ref b :: rest }) target → Steps p.tables e below (T.setTop g) target := by
  obtain ⟨T', h', cA, X', e', E', A', O', st⟩ := newR X hx hZ hown w1 w2 eT hg hd hs hn (cap := n) (by rw [hzn]; exact Nat.le_refl _) hb hc hl
  exact ⟨T', h', _, cA, rfl, X', e', E', ⟨_, A', rfl, by rw [sz_new, hzn], fun i hi => ⟨by rw [← hzn] at hi; simp [newA, hi, own_zR, defaultValue], rfl⟩⟩, O', st⟩
theorem own_stR (X : Stand p l e R s m args below meth c T locs cells slots) (hx : p.tables.exec = Jvm.exec) (hZ : Z.Warmed39 s.vm) (eT : T.heap = h) (F : own_R Z h a kc C n G) (O : Ovr Z kc C) {y : Addr} (I : Ins Z h y C true) {j : Int32} {k : Nat} (hj0 : ¬ j < 0) (hk : j.toNatClampNeg = k) (hkn : k < n) {g : JFrame} (hg : g.method = m) {rest : List Value} (hs : g.stack = .ref y :: .int j :: .ref a :: rest) (hd : decode c.code g.pc = .ok (.aastore, 1)) :
    ∃ T' h', Stand p l e R s m args below meth c T' (locs ++ [⟨a, j.toNatClampNeg⟩]) cells slots ∧ T'.heap = h' ∧ Wr h h' a j.toNatClampNeg (.ref y) ∧ own_R Z h' a kc C n (own_upd G k (.ref y)) ∧ ∀ target, Steps p.tables e below (T'.setTop { g with pc := g.pc + 1, stack := rest }) target → Steps p.tables e below (T.setTop g) target := by
  obtain ⟨cl, A, q0, q, r⟩ := id F
  obtain ⟨T', h', X', e', W, st⟩ := stR X hx hZ eT A (j := j) (own_inb q hj0 hk hkn) rfl (Sto.ofV A q0 O I) hg hs hd
  refine ⟨T', h', X', e', W, ⟨cl.setSlot j.toNatClampNeg (.ref y), A.same W, q0, by rw [sz_set, q], fun i hi => ?_⟩, st⟩
  by_cases e : i = k
  · subst e
    exact ⟨by rw [hk]; simp [Cell.setSlot, own_upd, q, hkn], by simp [own_upd, fits]⟩
  · have r1 := r i hi
    have r2 : (cl.setSlot j.toNatClampNeg (.ref y)).slots[i]? = cl.slots[i]? := Array.getElem?_setIfInBounds_ne (by rw [hk]; exact Ne.symm e)
    have r3 : own_upd G k (.ref y) i = G i := if_neg e
    rw [r2, r3]; exact r1
end OwnR
end Jvm.RoadKit
namespace Jvm.RoadKit
open Sem ClassFile Op Lib Jvm.Stand Jvm.Free Jvm.LawKit
section OwnStart
variable {Z s : State} {args : Array Value} {t : Term} {a : Addr}
theorem own_eqi {t : Term} {n : Int32} {args : Array Value} {s : State} (h : (Cond.eq t (.int n)).value args s none s [] = some true) : t.eval args s none [] s = some (.int n) := Jvm.Free.NT.SwA.eq_int (Cond.before_iff.mpr h)
theorem own_eqr {t u : Term} {x : Addr} {args : Array Value} {s : State} (hu : u.eval args s none [] s = some (.ref x)) (h : (Cond.eq t u).value args s none s [] = some true) : t.eval args s none [] s = some (.ref x) := by
  simp only [Cond.value, hu] at h
  cases ht : t.eval args s none [] s with
  | none => simp [ht] at h
  | some v => cases v <;> simp_all
def own_HL (args : Array Value) (s : State) (t : Term) : Nat → List Int32 → Prop
  | _, [] => True
  | k, v :: vs => (Term.elem t (.int (Int32.ofNat k))).eval args s none [] s = some (.int v) ∧ own_HL args s t (k + 1) vs
theorem own_HL_at : ∀ (vs : List Int32) (k : Nat), own_HL args s t k vs → ∀ i, i < vs.length → (Term.elem t (.int (Int32.ofNat (k + i)))).eval args s none [] s = some (.int (vs.getD i 0))
  | [], _, _, i, hi => absurd hi (Nat.not_lt_zero i)
  | v :: vs, k, h, i, hi => by
    cases i with
    | zero => exact h.1
    | succ i =>
      have q := own_HL_at vs (k + 1) h.2 i (by simpa using hi)
      rw [show k + (i + 1) = k + 1 + i by omega]
      simpa using q
def own_HV (args : Array Value) (s : State) (t : Term) : Nat → List Value → Prop
  | _, [] => True
  | k, v :: vs => (Term.elem t (.int (Int32.ofNat k))).eval args s none [] s = some v ∧ own_HV args s t (k + 1) vs
theorem own_HV_at : ∀ (vs : List Value) (k : Nat), own_HV args s t k vs → ∀ i, i < vs.length → (Term.elem t (.int (Int32.ofNat (k + i)))).eval args s none [] s = some (vs.getD i .null)
  | [], _, _, i, hi => absurd hi (Nat.not_lt_zero i)
  | v :: vs, k, h, i, hi => by
    cases i with
    | zero => exact h.1
    | succ i =>
      have q := own_HV_at vs (k + 1) h.2 i (by simpa using hi)
      rw [show k + (i + 1) = k + 1 + i by omega]
      simpa using q
theorem own_arr {ty : FieldType} {n : Nat} {z : Int32} (ev : t.eval args s none [] s = some (.ref a)) (hx : (Cond.arrayOf t ty).value args s none s [] = some true) (hl : (Term.length t).eval args s none [] s = some (.int z)) (hz : z.toNatClampNeg = n ∧ ¬ z < 0) : ∃ cl, Arr s s.heap a cl ty ∧ s.arrayAt? a = some cl ∧ cl.slots.size = n ∧ cl.slots.size < 2 ^ 31 := by
  obtain ⟨cl, A⟩ := Arr.start ev hx
  have ha : s.arrayAt? a = some cl := A.fin (Vm.Alike.refl _)
  have hb : cl.slots.size < 2 ^ 31 := by
    by_cases hb : cl.slots.size < 2 ^ 31
    · exact hb
    · have hb' : ¬ cl.slots.size < 2147483648 := hb
      simp [Term.eval, ev, ha, hb'] at hl
  refine ⟨cl, A, ha, ?_, hb⟩
  rw [len_f ev ha hb] at hl
  have e : cl.slots.size.toInt32 = z := by simpa using hl
  have l := len_toInt hb
  rw [e] at l
  have n1 := nat_of hz.2
  omega
theorem own_AG_start {ty : FieldType} {n : Nat} {z : Int32} {G : Nat → Value} (hf : Fit s) (ev : t.eval args s none [] s = some (.ref a)) (hx : (Cond.arrayOf t ty).value args s none s [] = some true) (hl : (Term.length t).eval args s none [] s = some (.int z)) (hz : z.toNatClampNeg = n ∧ ¬ z < 0) (he : ∀ i, i < n → (Term.elem t (.int (Int32.ofNat i))).eval args s none [] s = some (G i)) : own_A s s.heap a ty n G := by
  obtain ⟨cl, A, ha, sz, hb⟩ := own_arr ev hx hl hz
  refine ⟨cl, A, sz, fun i hi => ?_⟩
  have q := elem_in (he i hi) ev rfl A.1
  have hi2 : i < 2 ^ 31 := by omega
  have ej : (Int32.ofNat i).toNatClampNeg = i := by
    have l := len_toInt hi2
    have n0 : ¬ (Int32.ofNat i) < 0 := fun w => q.1 (Or.inl w)
    have n1 := nat_of n0
    have l' : (Int32.ofNat i).toInt = (i : Int) := l
    omega
  obtain ⟨w, w1, w2⟩ := elem_fit hf A q.1
  rw [ej] at q w1
  refine ⟨q.2, ?_⟩
  cases w1.symm.trans q.2
  exact w2
theorem own_A_start {n : Nat} {z : Int32} {vs : List Int32} (hf : Fit s) (ev : t.eval args s none [] s = some (.ref a)) (hx : (Cond.arrayOf t .int).value args s none s [] = some true) (hl : (Term.length t).eval args s none [] s = some (.int z)) (hz : z.toNatClampNeg = n ∧ ¬ z < 0 ∧ vs.length = n) (he : own_HL args s t 0 vs) : own_A s s.heap a .int n (fun i => .int (vs.getD i 0)) :=
  own_AG_start hf ev hx hl ⟨hz.1, hz.2.1⟩ fun i hi => by
    have q := own_HL_at vs 0 he i (by rw [hz.2.2]; exact hi)
    rw [Nat.zero_add] at q
    exact q
theorem own_AR_start {ty : FieldType} {n : Nat} {z : Int32} {vs : List Value} (hf : Fit s) (ev : t.eval args s none [] s = some (.ref a)) (hx : (Cond.arrayOf t ty).value args s none s [] = some true) (hl : (Term.length t).eval args s none [] s = some (.int z)) (hz : z.toNatClampNeg = n ∧ ¬ z < 0 ∧ vs.length = n) (he : own_HV args s t 0 vs) : own_A s s.heap a ty n (fun i => vs.getD i .null) :=
  own_AG_start hf ev hx hl ⟨hz.1, hz.2.1⟩ fun i hi => by
    have q := own_HV_at vs 0 he i (by rw [hz.2.2]; exact hi)
    rw [Nat.zero_add] at q
    exact q
end OwnStart
end Jvm.RoadKit
namespace Jvm.Pilot.@@N@@
open Jvm Jvm.ClassFile Sem Op Lib Jvm.Free Jvm.Stand Jvm.LawKit Jvm.RoadKit Bundle Jvm.Pilot.@@N@@.Jvm.D
def own_rf (en : Nat → Addr) (i : Nat) : Value := .ref (en i)
def own_cd (i : Nat) : Int32 := ([48, 49, 50, 50, 51, 51, 51, 51, 51, 51, 51, 55, 55, 55, 55, 55, 55, 55] : List Int32).getD i 0
def own_pm (i : Nat) : Int32 := ([48, 48, 48, 50, 48, 49, 50, 51, 52, 53, 54, 48, 49, 50, 51, 52, 53, 54] : List Int32).getD i 0
theorem own_rf_eq (en : Nat → Addr) (i : Nat) (hi : i < 18) : (own_upd (own_upd (own_upd (own_upd (own_upd (own_upd (own_upd (own_upd (own_upd (own_upd (own_upd (own_upd (own_upd (own_upd (own_upd (own_upd (own_upd (own_upd own_zR 0 (Value.ref (en 0))) 1 (Value.ref (en 1))) 2 (Value.ref (en 2))) 3 (Value.ref (en 3))) 4 (Value.ref (en 4))) 5 (Value.ref (en 5))) 6 (Value.ref (en 6))) 7 (Value.ref (en 7))) 8 (Value.ref (en 8))) 9 (Value.ref (en 9))) 10 (Value.ref (en 10))) 11 (Value.ref (en 11))) 12 (Value.ref (en 12))) 13 (Value.ref (en 13))) 14 (Value.ref (en 14))) 15 (Value.ref (en 15))) 16 (Value.ref (en 16))) 17 (Value.ref (en 17))) i = own_rf en i := by
  rcases (by omega : i = 0 ∨ i = 1 ∨ i = 2 ∨ i = 3 ∨ i = 4 ∨ i = 5 ∨ i = 6 ∨ i = 7 ∨ i = 8 ∨ i = 9 ∨ i = 10 ∨ i = 11 ∨ i = 12 ∨ i = 13 ∨ i = 14 ∨ i = 15 ∨ i = 16 ∨ i = 17) with rfl | rfl | rfl | rfl | rfl | rfl | rfl | rfl | rfl | rfl | rfl | rfl | rfl | rfl | rfl | rfl | rfl | rfl
  all_goals rfl
theorem own_cd_eq (i : Nat) (hi : i < 18) : (own_upd (own_upd (own_upd (own_upd (own_upd (own_upd (own_upd (own_upd (own_upd (own_upd (own_upd (own_upd (own_upd (own_upd (own_upd (own_upd (own_upd (own_upd own_zI 0 (48 : Int32)) 1 (49 : Int32)) 2 (50 : Int32)) 3 (50 : Int32)) 4 (51 : Int32)) 5 (51 : Int32)) 6 (51 : Int32)) 7 (51 : Int32)) 8 (51 : Int32)) 9 (51 : Int32)) 10 (51 : Int32)) 11 (55 : Int32)) 12 (55 : Int32)) 13 (55 : Int32)) 14 (55 : Int32)) 15 (55 : Int32)) 16 (55 : Int32)) 17 (55 : Int32)) i = own_cd i := by
  revert i
  decide +kernel
theorem own_pm_eq (i : Nat) (hi : i < 18) : (own_upd (own_upd (own_upd (own_upd (own_upd (own_upd (own_upd (own_upd (own_upd (own_upd (own_upd (own_upd (own_upd (own_upd (own_upd (own_upd (own_upd (own_upd own_zI 0 (48 : Int32)) 1 (48 : Int32)) 2 (48 : Int32)) 3 (50 : Int32)) 4 (48 : Int32)) 5 (49 : Int32)) 6 (50 : Int32)) 7 (51 : Int32)) 8 (52 : Int32)) 9 (53 : Int32)) 10 (54 : Int32)) 11 (48 : Int32)) 12 (49 : Int32)) 13 (50 : Int32)) 14 (51 : Int32)) 15 (52 : Int32)) 16 (53 : Int32)) 17 (54 : Int32)) i = own_pm i := by
  revert i
  decide +kernel
theorem own_i8 {x v : Int32} (hv : v = ((x &&& (2147483647 : Int32)) % (18 : Int32))) : ¬ v < 0 ∧ v.toNatClampNeg < 18 := by
  have a1 := c_mask x 2147483647 31 (by decide) (by decide)
  have a2 := (c_irem (x &&& 2147483647) 18 18 (by decide)).1 (by omega)
  rw [← hv] at a2
  have l0 : (0 : Int32).toInt = 0 := by decide
  have n1 : ¬ v < 0 := by rw [Int32.lt_iff_toInt_lt]; omega
  have n2 := nat_of n1
  exact ⟨n1, by omega⟩
theorem d1_0 : decode prog_30_method_6_code 0 = .ok (.aload_n 1, 1) := by decide +kernel
theorem d1_1 : decode prog_30_method_6_code 1 = .ok (.iconst 0, 1) := by decide +kernel
theorem d1_2 : decode prog_30_method_6_code 2 = .ok (.baload, 1) := by decide +kernel
theorem d1_3 : decode prog_30_method_6_code 3 = .ok (.sipush 255, 3) := by decide +kernel
theorem d1_6 : decode prog_30_method_6_code 6 = .ok (.iand, 1) := by decide +kernel
theorem d1_7 : decode prog_30_method_6_code 7 = .ok (.aload_n 0, 1) := by decide +kernel
theorem d1_8 : decode prog_30_method_6_code 8 = .ok (.getfield 77, 3) := by decide +kernel
theorem d1_11 : decode prog_30_method_6_code 11 = .ok (.if_icmp .ne 21, 3) := by decide +kernel
theorem d1_14 : decode prog_30_method_6_code 14 = .ok (.aload_n 1, 1) := by decide +kernel
theorem d1_15 : decode prog_30_method_6_code 15 = .ok (.iconst 1, 1) := by decide +kernel
theorem d1_16 : decode prog_30_method_6_code 16 = .ok (.baload, 1) := by decide +kernel
theorem d1_17 : decode prog_30_method_6_code 17 = .ok (.sipush 255, 3) := by decide +kernel
theorem d1_20 : decode prog_30_method_6_code 20 = .ok (.iand, 1) := by decide +kernel
theorem d1_21 : decode prog_30_method_6_code 21 = .ok (.aload_n 0, 1) := by decide +kernel
theorem d1_22 : decode prog_30_method_6_code 22 = .ok (.getfield 81, 3) := by decide +kernel
theorem d1_25 : decode prog_30_method_6_code 25 = .ok (.if_icmp .ne 7, 3) := by decide +kernel
theorem d1_28 : decode prog_30_method_6_code 28 = .ok (.iconst 1, 1) := by decide +kernel
theorem d1_29 : decode prog_30_method_6_code 29 = .ok (.goto 4, 3) := by decide +kernel
theorem d1_32 : decode prog_30_method_6_code 32 = .ok (.iconst 0, 1) := by decide +kernel
theorem d1_33 : decode prog_30_method_6_code 33 = .ok (.ireturn, 1) := by decide +kernel
theorem pn_1 : plainName "com/example/cardwire/cardwire/f6/F6Command" = true := by first | (simp [plainName, overriddenIn]; done) | decide +kernel
theorem ef_1 (m : MethodId) (p0 : Addr) (p1 : Addr) : entryFrame m #[(.ref p0), (.ref p1)] 2 = mkF m 0 #[.val (.ref p0), .val (.ref p1)] [] := by first | (simp [entryFrame, mkF, argsToLocals, Value.category]; done) | rfl
def f_1 (cd_ : Int32) (pm_ : Int32) (g_ : Nat → Int32) : Int32 := (if ((g_ 0) &&& (255 : Int32)) = cd_ then let ms0_33 : Int32 := (if ((g_ 1) &&& (255 : Int32)) = pm_ then (1 : Int32) else (0 : Int32)); ms0_33 else (0 : Int32))
def Q_1 (Z : State) (p0 : Addr) (p1 : Addr) (cd_ : Int32) (pm_ : Int32) (g_ : Nat → Int32) (h0 : Heap) (n0 : Nat) (v : Option Value) (h : Heap) (L : List Loc) : Prop := v = some (.int (f_1 cd_ pm_ g_)) ∧ Fr n0 L ∧ h = h0
set_option maxRecDepth 65536 in
set_option maxHeartbeats 40000000 in
theorem rm_1 (l : Launch) (Z : State) (a0 : Array Value) (hw : ∀ d ∈ tables_1, d.before a0 Z = true) (ws : List Jvm.Cond) (p0 : Addr) (p1 : Addr) (cd_ : Int32) (pm_ : Int32) (g_ : Nat → Int32) (h0 : Heap) (n0 : Nat) (Z0 : n0 ≤ h0.size) (F_p0_code : Fld Z h0 p0 "com/example/cardwire/cardwire/f6/F6Command" "code" "I" (.int cd_)) (F_p0_parameter : Fld Z h0 p0 "com/example/cardwire/cardwire/f6/F6Command" "parameter" "I" (.int pm_)) (A_p1 : own_A Z h0 p1 .byte 4 (fun i => .int (g_ i))) :
    MetFree l (⟨"com/example/cardwire/cardwire/f6/F6Command", "startsBody", "([B)Z"⟩ : MethodName) (head1 (Jvm.Cond.code (⟨"com/example/cardwire/cardwire/f6/F6Command", "startsBody", "([B)Z"⟩ : MethodName) prog_30_method_6_code 2 (some .boolean) :: ws) ({ frames := 0, cells := 0, slots := 0, locals := 0 } : Room)) (fun a U => a = #[(.ref p0), (.ref p1)] ∧ Z.Warmed39 U.vm ∧ U.heap = h0) (fun _ _ _ _ _ => True) (fun _ U o U' => ∃ v L, o = .returned v ∧ Q_1 Z p0 p1 cd_ pm_ g_ h0 n0 v U'.heap L ∧ FrameEnd U o U' L ({ frames := 0, cells := 0, slots := 0, locals := 0 } : Room).cells ({ frames := 0, cells := 0, slots := 0, locals := 0 } : Room).slots) := by
  refine MetFree.of_bodySF (plainFor_of_name pn_1) hisR ?_
  intro p e s m args below meth c s₁ Bd hml0 hP hK
  obtain ⟨rfl, hZ, hh⟩ := hP
  have hx := Bd.exec
  have hby := Bd.bytes
  have hml : c.maxLocals = 2 := hml0
  have hown : s.vm.findClass "com/example/cardwire/cardwire/f6/F6Command" = some m.cls := findClass_of_methodNamed Bd.named
  have hnm := (name_of_methodNamed Bd.named Bd.method).1
  have X0 : Stand p l e ({ frames := 0, cells := 0, slots := 0, locals := 0 } : Room) s m #[(.ref p0), (.ref p1)] below meth c s₁ [] 0 0 := Stand.of_body Bd
  have e0 : s₁.heap = h0 := by rw [← hh, Bd.state]; rfl
  have N0 := Fr.nil n0
  have K0 : Keep h0 h0 [] := Keep.refl h0 _
  have pre0 : ∀ t, Steps p.tables e below (s₁.setTop (mkF m 0 #[.val (.ref p0), .val (.ref p1)] [])) t → Steps p.tables e below (s₁.setTop (entryFrame m #[(.ref p0), (.ref p1)] 2)) t := fun t k => castTop (ef_1 m p0 p1) k
  have pre1 : ∀ t, Steps p.tables e below (s₁.setTop (mkF m 8 #[.val (.ref p0), .val (.ref p1)] [(.ref p0), (.int ((g_ 0) &&& (255 : Int32)))])) t → Steps p.tables e below (s₁.setTop (entryFrame m #[(.ref p0), (.ref p1)] 2)) t := by
    intro t k
    refine pre0 t ?_
    show Steps p.tables e below (s₁.setTop (mkF m 0 #[.val (.ref p0), .val (.ref p1)] [])) _
    refine XS.aloadN X0.here hx rfl (hb hby d1_0) rfl rfl ?_
    show Steps p.tables e below (s₁.setTop (mkF m 1 #[.val (.ref p0), .val (.ref p1)] [(.ref p1)])) _
    refine XS.iconst X0.here hx rfl (hb hby d1_1) ?_
    show Steps p.tables e below (s₁.setTop (mkF m 2 #[.val (.ref p0), .val (.ref p1)] [(.int (0 : Int32)), (.ref p1)])) _
    refine own_ldB X0 hx hZ e0 A_p1 (j := (0 : Int32)) (k := 0) (by decide) (by decide) (by decide) (g := (mkF m 2 #[.val (.ref p0), .val (.ref p1)] [(.int (0 : Int32)), (.ref p1)])) rfl rfl (hb hby d1_2) ?_
    show Steps p.tables e below (s₁.setTop (mkF m 3 #[.val (.ref p0), .val (.ref p1)] [(.int (g_ 0))])) _
    refine XS.sipush X0.here hx rfl (hb hby d1_3) ?_
    show Steps p.tables e below (s₁.setTop (mkF m 6 #[.val (.ref p0), .val (.ref p1)] [(.int (255 : Int32)), (.int (g_ 0))])) _
    refine XS.iand X0.here hx rfl (hb hby d1_6) rfl ?_
    show Steps p.tables e below (s₁.setTop (mkF m 7 #[.val (.ref p0), .val (.ref p1)] [(.int ((g_ 0) &&& (255 : Int32)))])) _
    refine XS.aloadN X0.here hx rfl (hb hby d1_7) rfl rfl ?_
    exact k
  obtain ⟨T2, X2, e2, st2⟩ := getF X0 hx hZ hown (host := "") (Or.inl (hw _ (List.mem_of_getElem? (i := 48) rfl))) Via.refl e0 F_p0_code (g := (mkF m 8 #[.val (.ref p0), .val (.ref p1)] [(.ref p0), (.int ((g_ 0) &&& (255 : Int32)))])) rfl rfl (hb hby d1_8)
  have pre3 : ∀ t, Steps p.tables e below (T2.setTop (mkF m 11 #[.val (.ref p0), .val (.ref p1)] [(.int cd_), (.int ((g_ 0) &&& (255 : Int32)))])) t → Steps p.tables e below (s₁.setTop (entryFrame m #[(.ref p0), (.ref p1)] 2)) t := by
    intro t k
    refine pre1 t ?_
    show Steps p.tables e below (s₁.setTop (mkF m 8 #[.val (.ref p0), .val (.ref p1)] [(.ref p0), (.int ((g_ 0) &&& (255 : Int32)))])) _
    refine st2 _ ?_
    exact k
  by_cases hc11 : ((g_ 0) &&& (255 : Int32)) = cd_
  · have pre4 : ∀ t, Steps p.tables e below (T2.setTop (mkF m 22 #[.val (.ref p0), .val (.ref p1)] [(.ref p0), (.int ((g_ 1) &&& (255 : Int32)))])) t → Steps p.tables e below (s₁.setTop (entryFrame m #[(.ref p0), (.ref p1)] 2)) t := by
      intro t k
      refine pre3 t ?_
      show Steps p.tables e below (T2.setTop (mkF m 11 #[.val (.ref p0), .val (.ref p1)] [(.int cd_), (.int ((g_ 0) &&& (255 : Int32)))])) _
      refine XS.icmpNo X2.here hx rfl (hb hby d1_11) rfl (teq hc11).2 ?_
      show Steps p.tables e below (T2.setTop (mkF m 14 #[.val (.ref p0), .val (.ref p1)] [])) _
      refine XS.aloadN X2.here hx rfl (hb hby d1_14) rfl rfl ?_
      show Steps p.tables e below (T2.setTop (mkF m 15 #[.val (.ref p0), .val (.ref p1)] [(.ref p1)])) _
      refine XS.iconst X2.here hx rfl (hb hby d1_15) ?_
      show Steps p.tables e below (T2.setTop (mkF m 16 #[.val (.ref p0), .val (.ref p1)] [(.int (1 : Int32)), (.ref p1)])) _
      refine own_ldB X2 hx hZ e2 A_p1 (j := (1 : Int32)) (k := 1) (by decide) (by decide) (by decide) (g := (mkF m 16 #[.val (.ref p0), .val (.ref p1)] [(.int (1 : Int32)), (.ref p1)])) rfl rfl (hb hby d1_16) ?_
      show Steps p.tables e below (T2.setTop (mkF m 17 #[.val (.ref p0), .val (.ref p1)] [(.int (g_ 1))])) _
      refine XS.sipush X2.here hx rfl (hb hby d1_17) ?_
      show Steps p.tables e below (T2.setTop (mkF m 20 #[.val (.ref p0), .val (.ref p1)] [(.int (255 : Int32)), (.int (g_ 1))])) _
      refine XS.iand X2.here hx rfl (hb hby d1_20) rfl ?_
      show Steps p.tables e below (T2.setTop (mkF m 21 #[.val (.ref p0), .val (.ref p1)] [(.int ((g_ 1) &&& (255 : Int32)))])) _
      refine XS.aloadN X2.here hx rfl (hb hby d1_21) rfl rfl ?_
      exact k
    obtain ⟨T5, X5, e5, st5⟩ := getF X2 hx hZ hown (host := "") (Or.inl (hw _ (List.mem_of_getElem? (i := 50) rfl))) Via.refl e2 F_p0_parameter (g := (mkF m 22 #[.val (.ref p0), .val (.ref p1)] [(.ref p0), (.int ((g_ 1) &&& (255 : Int32)))])) rfl rfl (hb hby d1_22)
    have pre6 : ∀ t, Steps p.tables e below (T5.setTop (mkF m 25 #[.val (.ref p0), .val (.ref p1)] [(.int pm_), (.int ((g_ 1) &&& (255 : Int32)))])) t → Steps p.tables e below (s₁.setTop (entryFrame m #[(.ref p0), (.ref p1)] 2)) t := by
      intro t k
      refine pre4 t ?_
      show Steps p.tables e below (T2.setTop (mkF m 22 #[.val (.ref p0), .val (.ref p1)] [(.ref p0), (.int ((g_ 1) &&& (255 : Int32)))])) _
      refine st5 _ ?_
      exact k
    obtain ⟨ms0_33, hms0_33⟩ : ∃ z : Int32, z = (if ((g_ 1) &&& (255 : Int32)) = pm_ then (1 : Int32) else (0 : Int32)) := ⟨_, rfl⟩
    have pre7 : ∀ t, Steps p.tables e below (T5.setTop (mkF m 33 #[.val (.ref p0), .val (.ref p1)] [(.int ms0_33)])) t → Steps p.tables e below (s₁.setTop (entryFrame m #[(.ref p0), (.ref p1)] 2)) t := by
      intro t k
      refine pre6 t ?_
      by_cases hc25 : ((g_ 1) &&& (255 : Int32)) = pm_
      · show Steps p.tables e below (T5.setTop (mkF m 25 #[.val (.ref p0), .val (.ref p1)] [(.int pm_), (.int ((g_ 1) &&& (255 : Int32)))])) _
        refine XS.icmpNo X5.here hx rfl (hb hby d1_25) rfl (teq hc25).2 ?_
        show Steps p.tables e below (T5.setTop (mkF m 28 #[.val (.ref p0), .val (.ref p1)] [])) _
        refine XS.iconst X5.here hx rfl (hb hby d1_28) ?_
        show Steps p.tables e below (T5.setTop (mkF m 29 #[.val (.ref p0), .val (.ref p1)] [(.int (1 : Int32))])) _
        refine XS.goto X5.here hx rfl (pc0 := 29) (pc' := 33) rfl (hb hby d1_29) (by decide) (by decide) ?_
        have qms0_33 : ms0_33 = (1 : Int32) := by rw [hms0_33, if_pos hc25]
        rw [qms0_33] at k
        exact k
      · show Steps p.tables e below (T5.setTop (mkF m 25 #[.val (.ref p0), .val (.ref p1)] [(.int pm_), (.int ((g_ 1) &&& (255 : Int32)))])) _
        refine XS.icmpYes X5.here hx rfl (pc0 := 25) (pc' := 32) rfl (hb hby d1_25) rfl (feq hc25).2 (by decide) (by decide) ?_
        show Steps p.tables e below (T5.setTop (mkF m 32 #[.val (.ref p0), .val (.ref p1)] [])) _
        refine XS.iconst X5.here hx rfl (hb hby d1_32) ?_
        have qms0_33 : ms0_33 = (0 : Int32) := by rw [hms0_33, if_neg hc25]
        rw [qms0_33] at k
        exact k
    have hnar : nar .boolean ms0_33 = ms0_33 := by rw [hms0_33]; (repeat' split) <;> rfl
    obtain ⟨fs, hr, hrun, hended, hW, hsame⟩ := X5.leave (v := some (.int ms0_33)) (fun h => by rw [Bd.returns] at h; cases h) (BodyLoose.notSynchronized Bd)
    refine ⟨_, _, pre7 _ ?_, hrun, hended, _, _, rfl, ?_, ⟨_, rfl⟩, hW, hsame.mono (by decide) (by decide)⟩
    · show Steps p.tables e below (T5.setTop (mkF m 33 #[.val (.ref p0), .val (.ref p1)] [(.int ms0_33)])) _
      exact retN X5 hx (t := .boolean) Bd.returns (by simp) (hb hby d1_33) (by rw [hnar]; exact hr)
    · show Q_1 Z p0 p1 cd_ pm_ g_ h0 n0 _ T5.heap _
      rw [e5]
      exact ⟨congrArg (fun z => some (Value.int z)) (by subst hms0_33; exact (if_pos hc11).symm : ms0_33 = f_1 cd_ pm_ g_), N0, rfl⟩
  · obtain ⟨fs, hr, hrun, hended, hW, hsame⟩ := X2.leave (v := some (.int (0 : Int32))) (fun h => by rw [Bd.returns] at h; cases h) (BodyLoose.notSynchronized Bd)
    refine ⟨_, _, pre3 _ ?_, hrun, hended, _, _, rfl, ?_, ⟨_, rfl⟩, hW, hsame.mono (by decide) (by decide)⟩
    · show Steps p.tables e below (T2.setTop (mkF m 11 #[.val (.ref p0), .val (.ref p1)] [(.int cd_), (.int ((g_ 0) &&& (255 : Int32)))])) _
      refine XS.icmpYes X2.here hx rfl (pc0 := 11) (pc' := 32) rfl (hb hby d1_11) rfl (feq hc11).2 (by decide) (by decide) ?_
      show Steps p.tables e below (T2.setTop (mkF m 32 #[.val (.ref p0), .val (.ref p1)] [])) _
      refine XS.iconst X2.here hx rfl (hb hby d1_32) ?_
      show Steps p.tables e below (T2.setTop (mkF m 33 #[.val (.ref p0), .val (.ref p1)] [(.int (0 : Int32))])) _
      exact retN X2 hx (t := .boolean) Bd.returns (by simp) (hb hby d1_33) hr
    · show Q_1 Z p0 p1 cd_ pm_ g_ h0 n0 _ T2.heap _
      rw [e2]
      exact ⟨congrArg (fun z => some (Value.int z)) (by exact (if_neg hc11).symm : (0 : Int32) = f_1 cd_ pm_ g_), N0, rfl⟩
theorem pd_0 : parseMethodDescriptor "([B)Z" = some ⟨[(.array .byte)], some .boolean⟩ := by decide +kernel
theorem pn_0 : plainName "com/example/cardwire/cardwire/f6/F6CommandStartsBodyPinLaw" = true := by first | (simp [plainName, overriddenIn]; done) | decide +kernel
theorem ef_0 (m : MethodId) (p0 : Int32) (p1 : Int32) (p2 : Int32) (p3 : Int32) (p4 : Int32) : entryFrame m #[(.int p0), (.int p1), (.int p2), (.int p3), (.int p4)] maxLocals = mkF m 0 #[.val (.int p0), .val (.int p1), .val (.int p2), .val (.int p3), .val (.int p4), .unset, .unset, .unset, .unset, .unset, .unset, .unset, .unset, .unset, .unset] [] := by first | (simp [entryFrame, mkF, argsToLocals, Value.category, maxLocals]; done) | rfl
def f_0 (p0 : Int32) (p1 : Int32) (p2 : Int32) (p3 : Int32) (p4 : Int32) (en : Nat → Addr) : Int32 := let g_10 : Nat → Value := (own_upd own_zR 0 (Value.ref (en 0))); let g_16 : Nat → Value := (own_upd g_10 1 (Value.ref (en 1))); let g_22 : Nat → Value := (own_upd g_16 2 (Value.ref (en 2))); let g_28 : Nat → Value := (own_upd g_22 3 (Value.ref (en 3))); let g_34 : Nat → Value := (own_upd g_28 4 (Value.ref (en 4))); let g_40 : Nat → Value := (own_upd g_34 5 (Value.ref (en 5))); let g_47 : Nat → Value := (own_upd g_40 6 (Value.ref (en 6))); let g_54 : Nat → Value := (own_upd g_47 7 (Value.ref (en 7))); let g_61 : Nat → Value := (own_upd g_54 8 (Value.ref (en 8))); let g_68 : Nat → Value := (own_upd g_61 9 (Value.ref (en 9))); let g_75 : Nat → Value := (own_upd g_68 10 (Value.ref (en 10))); let g_82 : Nat → Value := (own_upd g_75 11 (Value.ref (en 11))); let g_89 : Nat → Value := (own_upd g_82 12 (Value.ref (en 12))); let g_96 : Nat → Value := (own_upd g_89 13 (Value.ref (en 13))); let g_103 : Nat → Value := (own_upd g_96 14 (Value.ref (en 14))); let g_110 : Nat → Value := (own_upd g_103 15 (Value.ref (en 15))); let g_117 : Nat → Value := (own_upd g_110 16 (Value.ref (en 16))); let g_124 : Nat → Value := (own_upd g_117 17 (Value.ref (en 17))); let g_135 : Nat → Int32 := (own_upd own_zI 0 (48 : Int32)); let g_140 : Nat → Int32 := (own_upd g_135 1 (49 : Int32)); let g_145 : Nat → Int32 := (own_upd g_140 2 (50 : Int32)); let g_150 : Nat → Int32 := (own_upd g_145 3 (50 : Int32)); let g_155 : Nat → Int32 := (own_upd g_150 4 (51 : Int32)); let g_160 : Nat → Int32 := (own_upd g_155 5 (51 : Int32)); let g_166 : Nat → Int32 := (own_upd g_160 6 (51 : Int32)); let g_172 : Nat → Int32 := (own_upd g_166 7 (51 : Int32)); let g_178 : Nat → Int32 := (own_upd g_172 8 (51 : Int32)); let g_184 : Nat → Int32 := (own_upd g_178 9 (51 : Int32)); let g_190 : Nat → Int32 := (own_upd g_184 10 (51 : Int32)); let g_196 : Nat → Int32 := (own_upd g_190 11 (55 : Int32)); let g_202 : Nat → Int32 := (own_upd g_196 12 (55 : Int32)); let g_208 : Nat → Int32 := (own_upd g_202 13 (55 : Int32)); let g_214 : Nat → Int32 := (own_upd g_208 14 (55 : Int32)); let g_220 : Nat → Int32 := (own_upd g_214 15 (55 : Int32)); let g_226 : Nat → Int32 := (own_upd g_220 16 (55 : Int32)); let g_232 : Nat → Int32 := (own_upd g_226 17 (55 : Int32)); let g_243 : Nat → Int32 := (own_upd own_zI 0 (48 : Int32)); let g_248 : Nat → Int32 := (own_upd g_243 1 (48 : Int32)); let g_253 : Nat → Int32 := (own_upd g_248 2 (48 : Int32)); let g_258 : Nat → Int32 := (own_upd g_253 3 (50 : Int32)); let g_263 : Nat → Int32 := (own_upd g_258 4 (48 : Int32)); let g_268 : Nat → Int32 := (own_upd g_263 5 (49 : Int32)); let g_274 : Nat → Int32 := (own_upd g_268 6 (50 : Int32)); let g_280 : Nat → Int32 := (own_upd g_274 7 (51 : Int32)); let g_286 : Nat → Int32 := (own_upd g_280 8 (52 : Int32)); let g_292 : Nat → Int32 := (own_upd g_286 9 (53 : Int32)); let g_298 : Nat → Int32 := (own_upd g_292 10 (54 : Int32)); let g_304 : Nat → Int32 := (own_upd g_298 11 (48 : Int32)); let g_310 : Nat → Int32 := (own_upd g_304 12 (49 : Int32)); let g_316 : Nat → Int32 := (own_upd g_310 13 (50 : Int32)); let g_322 : Nat → Int32 := (own_upd g_316 14 (51 : Int32)); let g_328 : Nat → Int32 := (own_upd g_322 15 (52 : Int32)); let g_334 : Nat → Int32 := (own_upd g_328 16 (53 : Int32)); let g_340 : Nat → Int32 := (own_upd g_334 17 (54 : Int32)); let v8_350 : Int32 := ((p0 &&& (2147483647 : Int32)) % (18 : Int32)); let ms0_363 : Int32 := (if (p3 &&& (1 : Int32)) = (0 : Int32) then (0 : Int32) else (1 : Int32)); let ms0_376 : Int32 := (if (p3 &&& (2 : Int32)) = (0 : Int32) then (0 : Int32) else (1 : Int32)); let ms0_402 : Int32 := (if ms0_363 = (0 : Int32) then (p1.toInt8.toInt32) else ((own_cd v8_350.toNatClampNeg).toInt8.toInt32)); let g_402 : Nat → Int32 := (own_upd own_zI 0 ms0_402.toInt8.toInt32); let ms0_422 : Int32 := (if ms0_376 = (0 : Int32) then (p2.toInt8.toInt32) else ((own_pm v8_350.toNatClampNeg).toInt8.toInt32)); let g_422 : Nat → Int32 := (own_upd g_402 1 ms0_422.toInt8.toInt32); let g_429 : Nat → Int32 := (own_upd g_422 2 (p4.toInt8.toInt32).toInt8.toInt32); let g_439 : Nat → Int32 := (own_upd g_429 3 (((p4.toUInt32 >>> ((8 : Int32) &&& 31).toUInt32).toInt32).toInt8.toInt32).toInt8.toInt32); let ms0_463 : Int32 := (if ms0_363 = (0 : Int32) then (if (p1 &&& (255 : Int32)) = (own_cd v8_350.toNatClampNeg) then (1 : Int32) else (0 : Int32)) else (1 : Int32)); let ms0_488 : Int32 := (if ms0_376 = (0 : Int32) then (if (p2 &&& (255 : Int32)) = (own_pm v8_350.toNatClampNeg) then (1 : Int32) else (0 : Int32)) else (1 : Int32)); let ms0_505 : Int32 := (if ms0_463 = (0 : Int32) then (0 : Int32) else (if ms0_488 = (0 : Int32) then (0 : Int32) else (1 : Int32))); let ms0_527 : Int32 := (if (f_1 (own_cd v8_350.toNatClampNeg) (own_pm v8_350.toNatClampNeg) g_439) = ms0_505 then (1 : Int32) else (0 : Int32)); ms0_527
def Q_0 (Z : State) (p0 : Int32) (p1 : Int32) (p2 : Int32) (p3 : Int32) (p4 : Int32) (en : Nat → Addr) (h0 : Heap) (n0 : Nat) (v : Option Value) (h : Heap) (L : List Loc) : Prop := v = some (.int (f_0 p0 p1 p2 p3 p4 en)) ∧ Fr n0 L ∧ True
set_option maxRecDepth 65536 in
set_option maxHeartbeats 40000000 in
theorem rm_0 (l : Launch) (Z : State) (a0 : Array Value) (hw : ∀ d ∈ tables_1, d.before a0 Z = true) (ws : List Jvm.Cond) (p0 : Int32) (p1 : Int32) (p2 : Int32) (p3 : Int32) (p4 : Int32) (en : Nat → Addr) (h0 : Heap) (n0 : Nat) (Z0 : n0 ≤ h0.size) (S_RESET : Sta Z h0 "com/example/cardwire/cardwire/f6/F6Command" "RESET" "Lcom/example/cardwire/cardwire/f6/F6Command;" (.ref (en 0))) (S_CARD_POSITION : Sta Z h0 "com/example/cardwire/cardwire/f6/F6Command" "CARD_POSITION" "Lcom/example/cardwire/cardwire/f6/F6Command;" (.ref (en 1))) (S_ALLOW_ENTRY : Sta Z h0 "com/example/cardwire/cardwire/f6/F6Command" "ALLOW_ENTRY" "Lcom/example/cardwire/cardwire/f6/F6Command;" (.ref (en 2))) (S_DISPENSE : Sta Z h0 "com/example/cardwire/cardwire/f6/F6Command" "DISPENSE" "Lcom/example/cardwire/cardwire/f6/F6Command;" (.ref (en 3))) (S_MOVE_INSIDE : Sta Z h0 "com/example/cardwire/cardwire/f6/F6Command" "MOVE_INSIDE" "Lcom/example/cardwire/cardwire/f6/F6Command;" (.ref (en 4))) (S_MOVE_TO_IC : Sta Z h0 "com/example/cardwire/cardwire/f6/F6Command" "MOVE_TO_IC" "Lcom/example/cardwire/cardwire/f6/F6Command;" (.ref (en 5))) (S_MOVE_TO_FRONT : Sta Z h0 "com/example/cardwire/cardwire/f6/F6Command" "MOVE_TO_FRONT" "Lcom/example/cardwire/cardwire/f6/F6Command;" (.ref (en 6))) (S_MOVE_TO_REAR : Sta Z h0 "com/example/cardwire/cardwire/f6/F6Command" "MOVE_TO_REAR" "Lcom/example/cardwire/cardwire/f6/F6Command;" (.ref (en 7))) (S_EJECT_FRONT : Sta Z h0 "com/example/cardwire/cardwire/f6/F6Command" "EJECT_FRONT" "Lcom/example/cardwire/cardwire/f6/F6Command;" (.ref (en 8))) (S_EJECT_REAR : Sta Z h0 "com/example/cardwire/cardwire/f6/F6Command" "EJECT_REAR" "Lcom/example/cardwire/cardwire/f6/F6Command;" (.ref (en 9))) (S_MOVE_TO_REREAD : Sta Z h0 "com/example/cardwire/cardwire/f6/F6Command" "MOVE_TO_REREAD" "Lcom/example/cardwire/cardwire/f6/F6Command;" (.ref (en 10))) (S_READ_TRACK_1 : Sta Z h0 "com/example/cardwire/cardwire/f6/F6Command" "READ_TRACK_1" "Lcom/example/cardwire/cardwire/f6/F6Command;" (.ref (en 11))) (S_READ_TRACK_2 : Sta Z h0 "com/example/cardwire/cardwire/f6/F6Command" "READ_TRACK_2" "Lcom/example/cardwire/cardwire/f6/F6Command;" (.ref (en 12))) (S_READ_TRACK_3 : Sta Z h0 "com/example/cardwire/cardwire/f6/F6Command" "READ_TRACK_3" "Lcom/example/cardwire/cardwire/f6/F6Command;" (.ref (en 13))) (S_READ_TRACKS_1_2 : Sta Z h0 "com/example/cardwire/cardwire/f6/F6Command" "READ_TRACKS_1_2" "Lcom/example/cardwire/cardwire/f6/F6Command;" (.ref (en 14))) (S_READ_TRACKS_1_3 : Sta Z h0 "com/example/cardwire/cardwire/f6/F6Command" "READ_TRACKS_1_3" "Lcom/example/cardwire/cardwire/f6/F6Command;" (.ref (en 15))) (S_READ_TRACKS_2_3 : Sta Z h0 "com/example/cardwire/cardwire/f6/F6Command" "READ_TRACKS_2_3" "Lcom/example/cardwire/cardwire/f6/F6Command;" (.ref (en 16))) (S_READ_TRACKS_1_2_3 : Sta Z h0 "com/example/cardwire/cardwire/f6/F6Command" "READ_TRACKS_1_2_3" "Lcom/example/cardwire/cardwire/f6/F6Command;" (.ref (en 17))) (hE : ∀ i, i < 18 → Exa Z h0 (en i) "com/example/cardwire/cardwire/f6/F6Command") (hC : ∀ i, i < 18 → Fld Z h0 (en i) "com/example/cardwire/cardwire/f6/F6Command" "code" "I" (.int (own_cd i))) (hP : ∀ i, i < 18 → Fld Z h0 (en i) "com/example/cardwire/cardwire/f6/F6Command" "parameter" "I" (.int (own_pm i))) :
    MetFree l x (head1 (Jvm.Cond.code x code maxLocals ret :: ws) room_1) (fun a U => a = #[(.int p0), (.int p1), (.int p2), (.int p3), (.int p4)] ∧ Z.Warmed39 U.vm ∧ U.heap = h0) (fun _ _ _ _ _ => True) (fun _ U o U' => ∃ v L, o = .returned v ∧ Q_0 Z p0 p1 p2 p3 p4 en h0 n0 v U'.heap L ∧ FrameEnd U o U' L 4 58) := by
  refine MetFree.of_bodySF (plainFor_of_name pn_0) hisR ?_
  intro p e s m args below meth c s₁ Bd hml0 hP hK
  obtain ⟨rfl, hZ, hh⟩ := hP
  have hx := Bd.exec
  have hby := Bd.bytes
  have hml : c.maxLocals = 15 := hml0
  have hown : s.vm.findClass "com/example/cardwire/cardwire/f6/F6CommandStartsBodyPinLaw" = some m.cls := findClass_of_methodNamed Bd.named
  have hnm := (name_of_methodNamed Bd.named Bd.method).1
  have X0 : Stand p l e room_1 s m #[(.int p0), (.int p1), (.int p2), (.int p3), (.int p4)] below meth c s₁ [] 0 0 := Stand.of_body Bd
  have e0 : s₁.heap = h0 := by rw [← hh, Bd.state]; rfl
  have N0 := Fr.nil n0
  have K0 : Keep h0 h0 [] := Keep.refl h0 _
  have pre0 : ∀ t, Steps p.tables e below (s₁.setTop (mkF m 0 #[.val (.int p0), .val (.int p1), .val (.int p2), .val (.int p3), .val (.int p4), .unset, .unset, .unset, .unset, .unset, .unset, .unset, .unset, .unset, .unset] [])) t → Steps p.tables e below (s₁.setTop (entryFrame m #[(.int p0), (.int p1), (.int p2), (.int p3), (.int p4)] maxLocals)) t := fun t k => castTop (ef_0 m p0 p1 p2 p3 p4) k
  have pre1 : ∀ t, Steps p.tables e below (s₁.setTop (mkF m 2 #[.val (.int p0), .val (.int p1), .val (.int p2), .val (.int p3), .val (.int p4), .unset, .unset, .unset, .unset, .unset, .unset, .unset, .unset, .unset, .unset] [(.int (18 : Int32))])) t → Steps p.tables e below (s₁.setTop (entryFrame m #[(.int p0), (.int p1), (.int p2), (.int p3), (.int p4)] maxLocals)) t := by
    intro t k
    refine pre0 t ?_
    show Steps p.tables e below (s₁.setTop (mkF m 0 #[.val (.int p0), .val (.int p1), .val (.int p2), .val (.int p3), .val (.int p4), .unset, .unset, .unset, .unset, .unset, .unset, .unset, .unset, .unset, .unset] [])) _
    refine XS.bipush X0.here hx rfl (hb hby at_0) ?_
    exact k
  obtain ⟨T2, h2, b2, k2, gb2, X2, e2, E2, A2, O2, st2⟩ := own_newR X0 hx hZ hown (hw _ (List.mem_of_getElem? (i := 0) rfl)) (hw _ (List.mem_of_getElem? (i := 1) rfl)) e0 (g := (mkF m 2 #[.val (.int p0), .val (.int p1), .val (.int p2), .val (.int p3), .val (.int p4), .unset, .unset, .unset, .unset, .unset, .unset, .unset, .unset, .unset, .unset] [(.int (18 : Int32))])) rfl (hb hby at_2) rfl (by decide) (n := 18) rfl (by decide) (by decide) (by decide)
  have sz_b2 : h0.size ≤ b2 := Nat.le_trans K0.1 (Nat.le_of_eq gb2.symm)
  have ge_b2 : n0 ≤ b2 := Nat.le_trans Z0 (Nat.le_of_eq gb2.symm)
  have K2 := K0.ext E2
  have Z2 := Nat.le_trans Z0 E2.1
  have pre3 : ∀ t, Steps p.tables e below (T2.setTop (mkF m 7 #[.val (.int p0), .val (.int p1), .val (.int p2), .val (.int p3), .val (.int p4), .unset, .unset, .unset, .unset, .unset, .unset, .unset, .unset, .unset, .unset] [(.int (0 : Int32)), (.ref b2), (.ref b2)])) t → Steps p.tables e below (s₁.setTop (entryFrame m #[(.int p0), (.int p1), (.int p2), (.int p3), (.int p4)] maxLocals)) t := by
    intro t k
    refine pre1 t ?_
    show Steps p.tables e below (s₁.setTop (mkF m 2 #[.val (.int p0), .val (.int p1), .val (.int p2), .val (.int p3), .val (.int p4), .unset, .unset, .unset, .unset, .unset, .unset, .unset, .unset, .unset, .unset] [(.int (18 : Int32))])) _
    refine st2 _ ?_
    show Steps p.tables e below (T2.setTop (mkF m 5 #[.val (.int p0), .val (.int p1), .val (.int p2), .val (.int p3), .val (.int p4), .unset, .unset, .unset, .unset, .unset, .unset, .unset, .unset, .unset, .unset] [(.ref b2)])) _
    refine XS.dup X2.here hx rfl (hb hby at_5) rfl rfl ?_
    show Steps p.tables e below (T2.setTop (mkF m 6 #[.val (.int p0), .val (.int p1), .val (.int p2), .val (.int p3), .val (.int p4), .unset, .unset, .unset, .unset, .unset, .unset, .unset, .unset, .unset, .unset] [(.ref b2), (.ref b2)])) _
    refine XS.iconst X2.here hx rfl (hb hby at_6) ?_
    exact k
  obtain ⟨T4, X4, e4, st4⟩ := getS2 X2 hx hZ hown (host := "") (Or.inl (hw _ (List.mem_of_getElem? (i := 2) rfl))) Via.refl e2 (own_sta_keep S_RESET K2 all0) (g := (mkF m 7 #[.val (.int p0), .val (.int p1), .val (.int p2), .val (.int p3), .val (.int p4), .unset, .unset, .unset, .unset, .unset, .unset, .unset, .unset, .unset, .unset] [(.int (0 : Int32)), (.ref b2), (.ref b2)])) rfl (hb hby at_7)
  have pre5 : ∀ t, Steps p.tables e below (T4.setTop (mkF m 10 #[.val (.int p0), .val (.int p1), .val (.int p2), .val (.int p3), .val (.int p4), .unset, .unset, .unset, .unset, .unset, .unset, .unset, .unset, .unset, .unset] [(.ref (en 0)), (.int (0 : Int32)), (.ref b2), (.ref b2)])) t → Steps p.tables e below (s₁.setTop (entryFrame m #[(.int p0), (.int p1), (.int p2), (.int p3), (.int p4)] maxLocals)) t := by
    intro t k
    refine pre3 t ?_
    show Steps p.tables e below (T2.setTop (mkF m 7 #[.val (.int p0), .val (.int p1), .val (.int p2), .val (.int p3), .val (.int p4), .unset, .unset, .unset, .unset, .unset, .unset, .unset, .unset, .unset, .unset] [(.int (0 : Int32)), (.ref b2), (.ref b2)])) _
    refine st4 _ ?_
    exact k
  obtain ⟨T6, h6, X6, e6, W6, A6, st6⟩ := own_stR X4 hx hZ e4 A2 O2 (Ins.self ((hE 0 (by decide)).keep K2)) (j := (0 : Int32)) (k := 0) (by decide) (by decide) (by decide) (g := (mkF m 10 #[.val (.int p0), .val (.int p1), .val (.int p2), .val (.int p3), .val (.int p4), .unset, .unset, .unset, .unset, .unset, .unset, .unset, .unset, .unset, .unset] [(.ref (en 0)), (.int (0 : Int32)), (.ref b2), (.ref b2)])) rfl rfl (hb hby at_10)
  obtain ⟨g_10, hg_10⟩ : ∃ z : Nat → Value, z = (own_upd own_zR 0 (Value.ref (en 0))) := ⟨_, rfl⟩
  rw [← hg_10] at A6
  have K6 := K2.wr W6 (Or.inr sz_b2)
  have Z6 := Nat.le_trans Z2 (Nat.le_of_eq W6.size.symm)
  have N6 := Fr.snoc X6 N0 ge_b2
  have pre7 : ∀ t, Steps p.tables e below (T6.setTop (mkF m 13 #[.val (.int p0), .val (.int p1), .val (.int p2), .val (.int p3), .val (.int p4), .unset, .unset, .unset, .unset, .unset, .unset, .unset, .unset, .unset, .unset] [(.int (1 : Int32)), (.ref b2), (.ref b2)])) t → Steps p.tables e below (s₁.setTop (entryFrame m #[(.int p0), (.int p1), (.int p2), (.int p3), (.int p4)] maxLocals)) t := by
    intro t k
    refine pre5 t ?_
    show Steps p.tables e below (T4.setTop (mkF m 10 #[.val (.int p0), .val (.int p1), .val (.int p2), .val (.int p3), .val (.int p4), .unset, .unset, .unset, .unset, .unset, .unset, .unset, .unset, .unset, .unset] [(.ref (en 0)), (.int (0 : Int32)), (.ref b2), (.ref b2)])) _
    refine st6 _ ?_
    show Steps p.tables e below (T6.setTop (mkF m 11 #[.val (.int p0), .val (.int p1), .val (.int p2), .val (.int p3), .val (.int p4), .unset, .unset, .unset, .unset, .unset, .unset, .unset, .unset, .unset, .unset] [(.ref b2)])) _
    refine XS.dup X6.here hx rfl (hb hby at_11) rfl rfl ?_
    show Steps p.tables e below (T6.setTop (mkF m 12 #[.val (.int p0), .val (.int p1), .val (.int p2), .val (.int p3), .val (.int p4), .unset, .unset, .unset, .unset, .unset, .unset, .unset, .unset, .unset, .unset] [(.ref b2), (.ref b2)])) _
    refine XS.iconst X6.here hx rfl (hb hby at_12) ?_
    exact k
  obtain ⟨T8, X8, e8, st8⟩ := getS2 X6 hx hZ hown (host := "") (Or.inl (hw _ (List.mem_of_getElem? (i := 6) rfl))) Via.refl e6 (own_sta_keep S_CARD_POSITION K6 all0) (g := (mkF m 13 #[.val (.int p0), .val (.int p1), .val (.int p2), .val (.int p3), .val (.int p4), .unset, .unset, .unset, .unset, .unset, .unset, .unset, .unset, .unset, .unset] [(.int (1 : Int32)), (.ref b2), (.ref b2)])) rfl (hb hby at_13)
  have pre9 : ∀ t, Steps p.tables e below (T8.setTop (mkF m 16 #[.val (.int p0), .val (.int p1), .val (.int p2), .val (.int p3), .val (.int p4), .unset, .unset, .unset, .unset, .unset, .unset, .unset, .unset, .unset, .unset] [(.ref (en 1)), (.int (1 : Int32)), (.ref b2), (.ref b2)])) t → Steps p.tables e below (s₁.setTop (entryFrame m #[(.int p0), (.int p1), (.int p2), (.int p3), (.int p4)] maxLocals)) t := by
    intro t k
    refine pre7 t ?_
    show Steps p.tables e below (T6.setTop (mkF m 13 #[.val (.int p0), .val (.int p1), .val (.int p2), .val (.int p3), .val (.int p4), .unset, .unset, .unset, .unset, .unset, .unset, .unset, .unset, .unset, .unset] [(.int (1 : Int32)), (.ref b2), (.ref b2)])) _
    refine st8 _ ?_
    exact k
  obtain ⟨T10, h10, X10, e10, W10, A10, st10⟩ := own_stR X8 hx hZ e8 A6 O2 (Ins.self ((hE 1 (by decide)).keep K6)) (j := (1 : Int32)) (k := 1) (by decide) (by decide) (by decide) (g := (mkF m 16 #[.val (.int p0), .val (.int p1), .val (.int p2), .val (.int p3), .val (.int p4), .unset, .unset, .unset, .unset, .unset, .unset, .unset, .unset, .unset, .unset] [(.ref (en 1)), (.int (1 : Int32)), (.ref b2), (.ref b2)])) rfl rfl (hb hby at_16)
  obtain ⟨g_16, hg_16⟩ : ∃ z : Nat → Value, z = (own_upd g_10 1 (Value.ref (en 1))) := ⟨_, rfl⟩
  rw [← hg_16] at A10
  have K10 := K6.wr W10 (Or.inr sz_b2)
  have Z10 := Nat.le_trans Z6 (Nat.le_of_eq W10.size.symm)
  have N10 := Fr.snoc X10 N6 ge_b2
  have pre11 : ∀ t, Steps p.tables e below (T10.setTop (mkF m 19 #[.val (.int p0), .val (.int p1), .val (.int p2), .val (.int p3), .val (.int p4), .unset, .unset, .unset, .unset, .unset, .unset, .unset, .unset, .unset, .unset] [(.int (2 : Int32)), (.ref b2), (.ref b2)])) t → Steps p.tables e below (s₁.setTop (entryFrame m #[(.int p0), (.int p1), (.int p2), (.int p3), (.int p4)] maxLocals)) t := by
    intro t k
    refine pre9 t ?_
    show Steps p.tables e below (T8.setTop (mkF m 16 #[.val (.int p0), .val (.int p1), .val (.int p2), .val (.int p3), .val (.int p4), .unset, .unset, .unset, .unset, .unset, .unset, .unset, .unset, .unset, .unset] [(.ref (en 1)), (.int (1 : Int32)), (.ref b2), (.ref b2)])) _
    refine st10 _ ?_
    show Steps p.tables e below (T10.setTop (mkF m 17 #[.val (.int p0), .val (.int p1), .val (.int p2), .val (.int p3), .val (.int p4), .unset, .unset, .unset, .unset, .unset, .unset, .unset, .unset, .unset, .unset] [(.ref b2)])) _
    refine XS.dup X10.here hx rfl (hb hby at_17) rfl rfl ?_
    show Steps p.tables e below (T10.setTop (mkF m 18 #[.val (.int p0), .val (.int p1), .val (.int p2), .val (.int p3), .val (.int p4), .unset, .unset, .unset, .unset, .unset, .unset, .unset, .unset, .unset, .unset] [(.ref b2), (.ref b2)])) _
    refine XS.iconst X10.here hx rfl (hb hby at_18) ?_
    exact k
  obtain ⟨T12, X12, e12, st12⟩ := getS2 X10 hx hZ hown (host := "") (Or.inl (hw _ (List.mem_of_getElem? (i := 8) rfl))) Via.refl e10 (own_sta_keep S_ALLOW_ENTRY K10 all0) (g := (mkF m 19 #[.val (.int p0), .val (.int p1), .val (.int p2), .val (.int p3), .val (.int p4), .unset, .unset, .unset, .unset, .unset, .unset, .unset, .unset, .unset, .unset] [(.int (2 : Int32)), (.ref b2), (.ref b2)])) rfl (hb hby at_19)
  have pre13 : ∀ t, Steps p.tables e below (T12.setTop (mkF m 22 #[.val (.int p0), .val (.int p1), .val (.int p2), .val (.int p3), .val (.int p4), .unset, .unset, .unset, .unset, .unset, .unset, .unset, .unset, .unset, .unset] [(.ref (en 2)), (.int (2 : Int32)), (.ref b2), (.ref b2)])) t → Steps p.tables e below (s₁.setTop (entryFrame m #[(.int p0), (.int p1), (.int p2), (.int p3), (.int p4)] maxLocals)) t := by
    intro t k
    refine pre11 t ?_
    show Steps p.tables e below (T10.setTop (mkF m 19 #[.val (.int p0), .val (.int p1), .val (.int p2), .val (.int p3), .val (.int p4), .unset, .unset, .unset, .unset, .unset, .unset, .unset, .unset, .unset, .unset] [(.int (2 : Int32)), (.ref b2), (.ref b2)])) _
    refine st12 _ ?_
    exact k
  obtain ⟨T14, h14, X14, e14, W14, A14, st14⟩ := own_stR X12 hx hZ e12 A10 O2 (Ins.self ((hE 2 (by decide)).keep K10)) (j := (2 : Int32)) (k := 2) (by decide) (by decide) (by decide) (g := (mkF m 22 #[.val (.int p0), .val (.int p1), .val (.int p2), .val (.int p3), .val (.int p4), .unset, .unset, .unset, .unset, .unset, .unset, .unset, .unset, .unset, .unset] [(.ref (en 2)), (.int (2 : Int32)), (.ref b2), (.ref b2)])) rfl rfl (hb hby at_22)
  obtain ⟨g_22, hg_22⟩ : ∃ z : Nat → Value, z = (own_upd g_16 2 (Value.ref (en 2))) := ⟨_, rfl⟩
  rw [← hg_22] at A14
  have K14 := K10.wr W14 (Or.inr sz_b2)
  have Z14 := Nat.le_trans Z10 (Nat.le_of_eq W14.size.symm)
  have N14 := Fr.snoc X14 N10 ge_b2
  have pre15 : ∀ t, Steps p.tables e below (T14.setTop (mkF m 25 #[.val (.int p0), .val (.int p1), .val (.int p2), .val (.int p3), .val (.int p4), .unset, .unset, .unset, .unset, .unset, .unset, .unset, .unset, .unset, .unset] [(.int (3 : Int32)), (.ref b2), (.ref b2)])) t → Steps p.tables e below (s₁.setTop (entryFrame m #[(.int p0), (.int p1), (.int p2), (.int p3), (.int p4)] maxLocals)) t := by
    intro t k
    refine pre13 t ?_
    show Steps p.tables e below (T12.setTop (mkF m 22 #[.val (.int p0), .val (.int p1), .val (.int p2), .val (.int p3), .val (.int p4), .unset, .unset, .unset, .unset, .unset, .unset, .unset, .unset, .unset, .unset] [(.ref (en 2)), (.int (2 : Int32)), (.ref b2), (.ref b2)])) _
    refine st14 _ ?_
    show Steps p.tables e below (T14.setTop (mkF m 23 #[.val (.int p0), .val (.int p1), .val (.int p2), .val (.int p3), .val (.int p4), .unset, .unset, .unset, .unset, .unset, .unset, .unset, .unset, .unset, .unset] [(.ref b2)])) _
    refine XS.dup X14.here hx rfl (hb hby at_23) rfl rfl ?_
    show Steps p.tables e below (T14.setTop (mkF m 24 #[.val (.int p0), .val (.int p1), .val (.int p2), .val (.int p3), .val (.int p4), .unset, .unset, .unset, .unset, .unset, .unset, .unset, .unset, .unset, .unset] [(.ref b2), (.ref b2)])) _
    refine XS.iconst X14.here hx rfl (hb hby at_24) ?_
    exact k
  obtain ⟨T16, X16, e16, st16⟩ := getS2 X14 hx hZ hown (host := "") (Or.inl (hw _ (List.mem_of_getElem? (i := 10) rfl))) Via.refl e14 (own_sta_keep S_DISPENSE K14 all0) (g := (mkF m 25 #[.val (.int p0), .val (.int p1), .val (.int p2), .val (.int p3), .val (.int p4), .unset, .unset, .unset, .unset, .unset, .unset, .unset, .unset, .unset, .unset] [(.int (3 : Int32)), (.ref b2), (.ref b2)])) rfl (hb hby at_25)
  have pre17 : ∀ t, Steps p.tables e below (T16.setTop (mkF m 28 #[.val (.int p0), .val (.int p1), .val (.int p2), .val (.int p3), .val (.int p4), .unset, .unset, .unset, .unset, .unset, .unset, .unset, .unset, .unset, .unset] [(.ref (en 3)), (.int (3 : Int32)), (.ref b2), (.ref b2)])) t → Steps p.tables e below (s₁.setTop (entryFrame m #[(.int p0), (.int p1), (.int p2), (.int p3), (.int p4)] maxLocals)) t := by
    intro t k
    refine pre15 t ?_
    show Steps p.tables e below (T14.setTop (mkF m 25 #[.val (.int p0), .val (.int p1), .val (.int p2), .val (.int p3), .val (.int p4), .unset, .unset, .unset, .unset, .unset, .unset, .unset, .unset, .unset, .unset] [(.int (3 : Int32)), (.ref b2), (.ref b2)])) _
    refine st16 _ ?_
    exact k
  obtain ⟨T18, h18, X18, e18, W18, A18, st18⟩ := own_stR X16 hx hZ e16 A14 O2 (Ins.self ((hE 3 (by decide)).keep K14)) (j := (3 : Int32)) (k := 3) (by decide) (by decide) (by decide) (g := (mkF m 28 #[.val (.int p0), .val (.int p1), .val (.int p2), .val (.int p3), .val (.int p4), .unset, .unset, .unset, .unset, .unset, .unset, .unset, .unset, .unset, .unset] [(.ref (en 3)), (.int (3 : Int32)), (.ref b2), (.ref b2)])) rfl rfl (hb hby at_28)
  obtain ⟨g_28, hg_28⟩ : ∃ z : Nat → Value, z = (own_upd g_22 3 (Value.ref (en 3))) := ⟨_, rfl⟩
  rw [← hg_28] at A18
  have K18 := K14.wr W18 (Or.inr sz_b2)
  have Z18 := Nat.le_trans Z14 (Nat.le_of_eq W18.size.symm)
  have N18 := Fr.snoc X18 N14 ge_b2
  have pre19 : ∀ t, Steps p.tables e below (T18.setTop (mkF m 31 #[.val (.int p0), .val (.int p1), .val (.int p2), .val (.int p3), .val (.int p4), .unset, .unset, .unset, .unset, .unset, .unset, .unset, .unset, .unset, .unset] [(.int (4 : Int32)), (.ref b2), (.ref b2)])) t → Steps p.tables e below (s₁.setTop (entryFrame m #[(.int p0), (.int p1), (.int p2), (.int p3), (.int p4)] maxLocals)) t := by
    intro t k
    refine pre17 t ?_
    show Steps p.tables e below (T16.setTop (mkF m 28 #[.val (.int p0), .val (.int p1), .val (.int p2), .val (.int p3), .val (.int p4), .unset, .unset, .unset, .unset, .unset, .unset, .unset, .unset, .unset, .unset] [(.ref (en 3)), (.int (3 : Int32)), (.ref b2), (.ref b2)])) _
    refine st18 _ ?_
    show Steps p.tables e below (T18.setTop (mkF m 29 #[.val (.int p0), .val (.int p1), .val (.int p2), .val (.int p3), .val (.int p4), .unset, .unset, .unset, .unset, .unset, .unset, .unset, .unset, .unset, .unset] [(.ref b2)])) _
    refine XS.dup X18.here hx rfl (hb hby at_29) rfl rfl ?_
    show Steps p.tables e below (T18.setTop (mkF m 30 #[.val (.int p0), .val (.int p1), .val (.int p2), .val (.int p3), .val (.int p4), .unset, .unset, .unset, .unset, .unset, .unset, .unset, .unset, .unset, .unset] [(.ref b2), (.ref b2)])) _
    refine XS.iconst X18.here hx rfl (hb hby at_30) ?_
    exact k
  obtain ⟨T20, X20, e20, st20⟩ := getS2 X18 hx hZ hown (host := "") (Or.inl (hw _ (List.mem_of_getElem? (i := 12) rfl))) Via.refl e18 (own_sta_keep S_MOVE_INSIDE K18 all0) (g := (mkF m 31 #[.val (.int p0), .val (.int p1), .val (.int p2), .val (.int p3), .val (.int p4), .unset, .unset, .unset, .unset, .unset, .unset, .unset, .unset, .unset, .unset] [(.int (4 : Int32)), (.ref b2), (.ref b2)])) rfl (hb hby at_31)
  have pre21 : ∀ t, Steps p.tables e below (T20.setTop (mkF m 34 #[.val (.int p0), .val (.int p1), .val (.int p2), .val (.int p3), .val (.int p4), .unset, .unset, .unset, .unset, .unset, .unset, .unset, .unset, .unset, .unset] [(.ref (en 4)), (.int (4 : Int32)), (.ref b2), (.ref b2)])) t → Steps p.tables e below (s₁.setTop (entryFrame m #[(.int p0), (.int p1), (.int p2), (.int p3), (.int p4)] maxLocals)) t := by
    intro t k
    refine pre19 t ?_
    show Steps p.tables e below (T18.setTop (mkF m 31 #[.val (.int p0), .val (.int p1), .val (.int p2), .val (.int p3), .val (.int p4), .unset, .unset, .unset, .unset, .unset, .unset, .unset, .unset, .unset, .unset] [(.int (4 : Int32)), (.ref b2), (.ref b2)])) _
    refine st20 _ ?_
    exact k
  obtain ⟨T22, h22, X22, e22, W22, A22, st22⟩ := own_stR X20 hx hZ e20 A18 O2 (Ins.self ((hE 4 (by decide)).keep K18)) (j := (4 : Int32)) (k := 4) (by decide) (by decide) (by decide) (g := (mkF m 34 #[.val (.int p0), .val (.int p1), .val (.int p2), .val (.int p3), .val (.int p4), .unset, .unset, .unset, .unset, .unset, .unset, .unset, .unset, .unset, .unset] [(.ref (en 4)), (.int (4 : Int32)), (.ref b2), (.ref b2)])) rfl rfl (hb hby at_34)
  obtain ⟨g_34, hg_34⟩ : ∃ z : Nat → Value, z = (own_upd g_28 4 (Value.ref (en 4))) := ⟨_, rfl⟩
  rw [← hg_34] at A22
  have K22 := K18.wr W22 (Or.inr sz_b2)
  have Z22 := Nat.le_trans Z18 (Nat.le_of_eq W22.size.symm)
  have N22 := Fr.snoc X22 N18 ge_b2
  have pre23 : ∀ t, Steps p.tables e below (T22.setTop (mkF m 37 #[.val (.int p0), .val (.int p1), .val (.int p2), .val (.int p3), .val (.int p4), .unset, .unset, .unset, .unset, .unset, .unset, .unset, .unset, .unset, .unset] [(.int (5 : Int32)), (.ref b2), (.ref b2)])) t → Steps p.tables e below (s₁.setTop (entryFrame m #[(.int p0), (.int p1), (.int p2), (.int p3), (.int p4)] maxLocals)) t := by
    intro t k
    refine pre21 t ?_
    show Steps p.tables e below (T20.setTop (mkF m 34 #[.val (.int p0), .val (.int p1), .val (.int p2), .val (.int p3), .val (.int p4), .unset, .unset, .unset, .unset, .unset, .unset, .unset, .unset, .unset, .unset] [(.ref (en 4)), (.int (4 : Int32)), (.ref b2), (.ref b2)])) _
    refine st22 _ ?_
    show Steps p.tables e below (T22.setTop (mkF m 35 #[.val (.int p0), .val (.int p1), .val (.int p2), .val (.int p3), .val (.int p4), .unset, .unset, .unset, .unset, .unset, .unset, .unset, .unset, .unset, .unset] [(.ref b2)])) _
    refine XS.dup X22.here hx rfl (hb hby at_35) rfl rfl ?_
    show Steps p.tables e below (T22.setTop (mkF m 36 #[.val (.int p0), .val (.int p1), .val (.int p2), .val (.int p3), .val (.int p4), .unset, .unset, .unset, .unset, .unset, .unset, .unset, .unset, .unset, .unset] [(.ref b2), (.ref b2)])) _
    refine XS.iconst X22.here hx rfl (hb hby at_36) ?_
    exact k
  obtain ⟨T24, X24, e24, st24⟩ := getS2 X22 hx hZ hown (host := "") (Or.inl (hw _ (List.mem_of_getElem? (i := 14) rfl))) Via.refl e22 (own_sta_keep S_MOVE_TO_IC K22 all0) (g := (mkF m 37 #[.val (.int p0), .val (.int p1), .val (.int p2), .val (.int p3), .val (.int p4), .unset, .unset, .unset, .unset, .unset, .unset, .unset, .unset, .unset, .unset] [(.int (5 : Int32)), (.ref b2), (.ref b2)])) rfl (hb hby at_37)
  have pre25 : ∀ t, Steps p.tables e below (T24.setTop (mkF m 40 #[.val (.int p0), .val (.int p1), .val (.int p2), .val (.int p3), .val (.int p4), .unset, .unset, .unset, .unset, .unset, .unset, .unset, .unset, .unset, .unset] [(.ref (en 5)), (.int (5 : Int32)), (.ref b2), (.ref b2)])) t → Steps p.tables e below (s₁.setTop (entryFrame m #[(.int p0), (.int p1), (.int p2), (.int p3), (.int p4)] maxLocals)) t := by
    intro t k
    refine pre23 t ?_
    show Steps p.tables e below (T22.setTop (mkF m 37 #[.val (.int p0), .val (.int p1), .val (.int p2), .val (.int p3), .val (.int p4), .unset, .unset, .unset, .unset, .unset, .unset, .unset, .unset, .unset, .unset] [(.int (5 : Int32)), (.ref b2), (.ref b2)])) _
    refine st24 _ ?_
    exact k
  obtain ⟨T26, h26, X26, e26, W26, A26, st26⟩ := own_stR X24 hx hZ e24 A22 O2 (Ins.self ((hE 5 (by decide)).keep K22)) (j := (5 : Int32)) (k := 5) (by decide) (by decide) (by decide) (g := (mkF m 40 #[.val (.int p0), .val (.int p1), .val (.int p2), .val (.int p3), .val (.int p4), .unset, .unset, .unset, .unset, .unset, .unset, .unset, .unset, .unset, .unset] [(.ref (en 5)), (.int (5 : Int32)), (.ref b2), (.ref b2)])) rfl rfl (hb hby at_40)
  obtain ⟨g_40, hg_40⟩ : ∃ z : Nat → Value, z = (own_upd g_34 5 (Value.ref (en 5))) := ⟨_, rfl⟩
  rw [← hg_40] at A26
  have K26 := K22.wr W26 (Or.inr sz_b2)
  have Z26 := Nat.le_trans Z22 (Nat.le_of_eq W26.size.symm)
  have N26 := Fr.snoc X26 N22 ge_b2
  have pre27 : ∀ t, Steps p.tables e below (T26.setTop (mkF m 44 #[.val (.int p0), .val (.int p1), .val (.int p2), .val (.int p3), .val (.int p4), .unset, .unset, .unset, .unset, .unset, .unset, .unset, .unset, .unset, .unset] [(.int (6 : Int32)), (.ref b2), (.ref b2)])) t → Steps p.tables e below (s₁.setTop (entryFrame m #[(.int p0), (.int p1), (.int p2), (.int p3), (.int p4)] maxLocals)) t := by
    intro t k
    refine pre25 t ?_
    show Steps p.tables e below (T24.setTop (mkF m 40 #[.val (.int p0), .val (.int p1), .val (.int p2), .val (.int p3), .val (.int p4), .unset, .unset, .unset, .unset, .unset, .unset, .unset, .unset, .unset, .unset] [(.ref (en 5)), (.int (5 : Int32)), (.ref b2), (.ref b2)])) _
    refine st26 _ ?_
    show Steps p.tables e below (T26.setTop (mkF m 41 #[.val (.int p0), .val (.int p1), .val (.int p2), .val (.int p3), .val (.int p4), .unset, .unset, .unset, .unset, .unset, .unset, .unset, .unset, .unset, .unset] [(.ref b2)])) _
    refine XS.dup X26.here hx rfl (hb hby at_41) rfl rfl ?_
    show Steps p.tables e below (T26.setTop (mkF m 42 #[.val (.int p0), .val (.int p1), .val (.int p2), .val (.int p3), .val (.int p4), .unset, .unset, .unset, .unset, .unset, .unset, .unset, .unset, .unset, .unset] [(.ref b2), (.ref b2)])) _
    refine XS.bipush X26.here hx rfl (hb hby at_42) ?_
    exact k
  obtain ⟨T28, X28, e28, st28⟩ := getS2 X26 hx hZ hown (host := "") (Or.inl (hw _ (List.mem_of_getElem? (i := 16) rfl))) Via.refl e26 (own_sta_keep S_MOVE_TO_FRONT K26 all0) (g := (mkF m 44 #[.val (.int p0), .val (.int p1), .val (.int p2), .val (.int p3), .val (.int p4), .unset, .unset, .unset, .unset, .unset, .unset, .unset, .unset, .unset, .unset] [(.int (6 : Int32)), (.ref b2), (.ref b2)])) rfl (hb hby at_44)
  have pre29 : ∀ t, Steps p.tables e below (T28.setTop (mkF m 47 #[.val (.int p0), .val (.int p1), .val (.int p2), .val (.int p3), .val (.int p4), .unset, .unset, .unset, .unset, .unset, .unset, .unset, .unset, .unset, .unset] [(.ref (en 6)), (.int (6 : Int32)), (.ref b2), (.ref b2)])) t → Steps p.tables e below (s₁.setTop (entryFrame m #[(.int p0), (.int p1), (.int p2), (.int p3), (.int p4)] maxLocals)) t := by
    intro t k
    refine pre27 t ?_
    show Steps p.tables e below (T26.setTop (mkF m 44 #[.val (.int p0), .val (.int p1), .val (.int p2), .val (.int p3), .val (.int p4), .unset, .unset, .unset, .unset, .unset, .unset, .unset, .unset, .unset, .unset] [(.int (6 : Int32)), (.ref b2), (.ref b2)])) _
    refine st28 _ ?_
    exact k
  obtain ⟨T30, h30, X30, e30, W30, A30, st30⟩ := own_stR X28 hx hZ e28 A26 O2 (Ins.self ((hE 6 (by decide)).keep K26)) (j := (6 : Int32)) (k := 6) (by decide) (by decide) (by decide) (g := (mkF m 47 #[.val (.int p0), .val (.int p1), .val (.int p2), .val (.int p3), .val (.int p4), .unset, .unset, .unset, .unset, .unset, .unset, .unset, .unset, .unset, .unset] [(.ref (en 6)), (.int (6 : Int32)), (.ref b2), (.ref b2)])) rfl rfl (hb hby at_47)
  obtain ⟨g_47, hg_47⟩ : ∃ z : Nat → Value, z = (own_upd g_40 6 (Value.ref (en 6))) := ⟨_, rfl⟩
  rw [← hg_47] at A30
  have K30 := K26.wr W30 (Or.inr sz_b2)
  have Z30 := Nat.le_trans Z26 (Nat.le_of_eq W30.size.symm)
  have N30 := Fr.snoc X30 N26 ge_b2
  have pre31 : ∀ t, Steps p.tables e below (T30.setTop (mkF m 51 #[.val (.int p0), .val (.int p1), .val (.int p2), .val (.int p3), .val (.int p4), .unset, .unset, .unset, .unset, .unset, .unset, .unset, .unset, .unset, .unset] [(.int (7 : Int32)), (.ref b2), (.ref b2)])) t → Steps p.tables e below (s₁.setTop (entryFrame m #[(.int p0), (.int p1), (.int p2), (.int p3), (.int p4)] maxLocals)) t := by
    intro t k
    refine pre29 t ?_
    show Steps p.tables e below (T28.setTop (mkF m 47 #[.val (.int p0), .val (.int p1), .val (.int p2), .val (.int p3), .val (.int p4), .unset, .unset, .unset, .unset, .unset, .unset, .unset, .unset, .unset, .unset] [(.ref (en 6)), (.int (6 : Int32)), (.ref b2), (.ref b2)])) _
    refine st30 _ ?_
    show Steps p.tables e below (T30.setTop (mkF m 48 #[.val (.int p0), .val (.int p1), .val (.int p2), .val (.int p3), .val (.int p4), .unset, .unset, .unset, .unset, .unset, .unset, .unset, .unset, .unset, .unset] [(.ref b2)])) _
    refine XS.dup X30.here hx rfl (hb hby at_48) rfl rfl ?_
    show Steps p.tables e below (T30.setTop (mkF m 49 #[.val (.int p0), .val (.int p1), .val (.int p2), .val (.int p3), .val (.int p4), .unset, .unset, .unset, .unset, .unset, .unset, .unset, .unset, .unset, .unset] [(.ref b2), (.ref b2)])) _
    refine XS.bipush X30.here hx rfl (hb hby at_49) ?_
    exact k
  obtain ⟨T32, X32, e32, st32⟩ := getS2 X30 hx hZ hown (host := "") (Or.inl (hw _ (List.mem_of_getElem? (i := 18) rfl))) Via.refl e30 (own_sta_keep S_MOVE_TO_REAR K30 all0) (g := (mkF m 51 #[.val (.int p0), .val (.int p1), .val (.int p2), .val (.int p3), .val (.int p4), .unset, .unset, .unset, .unset, .unset, .unset, .unset, .unset, .unset, .unset] [(.int (7 : Int32)), (.ref b2), (.ref b2)])) rfl (hb hby at_51)
  have pre33 : ∀ t, Steps p.tables e below (T32.setTop (mkF m 54 #[.val (.int p0), .val (.int p1), .val (.int p2), .val (.int p3), .val (.int p4), .unset, .unset, .unset, .unset, .unset, .unset, .unset, .unset, .unset, .unset] [(.ref (en 7)), (.int (7 : Int32)), (.ref b2), (.ref b2)])) t → Steps p.tables e below (s₁.setTop (entryFrame m #[(.int p0), (.int p1), (.int p2), (.int p3), (.int p4)] maxLocals)) t := by
    intro t k
    refine pre31 t ?_
    show Steps p.tables e below (T30.setTop (mkF m 51 #[.val (.int p0), .val (.int p1), .val (.int p2), .val (.int p3), .val (.int p4), .unset, .unset, .unset, .unset, .unset, .unset, .unset, .unset, .unset, .unset] [(.int (7 : Int32)), (.ref b2), (.ref b2)])) _
    refine st32 _ ?_
    exact k
  obtain ⟨T34, h34, X34, e34, W34, A34, st34⟩ := own_stR X32 hx hZ e32 A30 O2 (Ins.self ((hE 7 (by decide)).keep K30)) (j := (7 : Int32)) (k := 7) (by decide) (by decide) (by decide) (g := (mkF m 54 #[.val (.int p0), .val (.int p1), .val (.int p2), .val (.int p3), .val (.int p4), .unset, .unset, .unset, .unset, .unset, .unset, .unset, .unset, .unset, .unset] [(.ref (en 7)), (.int (7 : Int32)), (.ref b2), (.ref b2)])) rfl rfl (hb hby at_54)
  obtain ⟨g_54, hg_54⟩ : ∃ z : Nat → Value, z = (own_upd g_47 7 (Value.ref (en 7))) := ⟨_, rfl⟩
  rw [← hg_54] at A34
  have K34 := K30.wr W34 (Or.inr sz_b2)
  have Z34 := Nat.le_trans Z30 (Nat.le_of_eq W34.size.symm)
  have N34 := Fr.snoc X34 N30 ge_b2
  have pre35 : ∀ t, Steps p.tables e below (T34.setTop (mkF m 58 #[.val (.int p0), .val (.int p1), .val (.int p2), .val (.int p3), .val (.int p4), .unset, .unset, .unset, .unset, .unset, .unset, .unset, .unset, .unset, .unset] [(.int (8 : Int32)), (.ref b2), (.ref b2)])) t → Steps p.tables e below (s₁.setTop (entryFrame m #[(.int p0), (.int p1), (.int p2), (.int p3), (.int p4)] maxLocals)) t := by
    intro t k
    refine pre33 t ?_
    show Steps p.tables e below (T32.setTop (mkF m 54 #[.val (.int p0), .val (.int p1), .val (.int p2), .val (.int p3), .val (.int p4), .unset, .unset, .unset, .unset, .unset, .unset, .unset, .unset, .unset, .unset] [(.ref (en 7)), (.int (7 : Int32)), (.ref b2), (.ref b2)])) _
    refine st34 _ ?_
    show Steps p.tables e below (T34.setTop (mkF m 55 #[.val (.int p0), .val (.int p1), .val (.int p2), .val (.int p3), .val (.int p4), .unset, .unset, .unset, .unset, .unset, .unset, .unset, .unset, .unset, .unset] [(.ref b2)])) _
    refine XS.dup X34.here hx rfl (hb hby at_55) rfl rfl ?_
    show Steps p.tables e below (T34.setTop (mkF m 56 #[.val (.int p0), .val (.int p1), .val (.int p2), .val (.int p3), .val (.int p4), .unset, .unset, .unset, .unset, .unset, .unset, .unset, .unset, .unset, .unset] [(.ref b2), (.ref b2)])) _
    refine XS.bipush X34.here hx rfl (hb hby at_56) ?_
    exact k
  obtain ⟨T36, X36, e36, st36⟩ := getS2 X34 hx hZ hown (host := "") (Or.inl (hw _ (List.mem_of_getElem? (i := 20) rfl))) Via.refl e34 (own_sta_keep S_EJECT_FRONT K34 all0) (g := (mkF m 58 #[.val (.int p0), .val (.int p1), .val (.int p2), .val (.int p3), .val (.int p4), .unset, .unset, .unset, .unset, .unset, .unset, .unset, .unset, .unset, .unset] [(.int (8 : Int32)), (.ref b2), (.ref b2)])) rfl (hb hby at_58)
  have pre37 : ∀ t, Steps p.tables e below (T36.setTop (mkF m 61 #[.val (.int p0), .val (.int p1), .val (.int p2), .val (.int p3), .val (.int p4), .unset, .unset, .unset, .unset, .unset, .unset, .unset, .unset, .unset, .unset] [(.ref (en 8)), (.int (8 : Int32)), (.ref b2), (.ref b2)])) t → Steps p.tables e below (s₁.setTop (entryFrame m #[(.int p0), (.int p1), (.int p2), (.int p3), (.int p4)] maxLocals)) t := by
    intro t k
    refine pre35 t ?_
    show Steps p.tables e below (T34.setTop (mkF m 58 #[.val (.int p0), .val (.int p1), .val (.int p2), .val (.int p3), .val (.int p4), .unset, .unset, .unset, .unset, .unset, .unset, .unset, .unset, .unset, .unset] [(.int (8 : Int32)), (.ref b2), (.ref b2)])) _
    refine st36 _ ?_
    exact k
  obtain ⟨T38, h38, X38, e38, W38, A38, st38⟩ := own_stR X36 hx hZ e36 A34 O2 (Ins.self ((hE 8 (by decide)).keep K34)) (j := (8 : Int32)) (k := 8) (by decide) (by decide) (by decide) (g := (mkF m 61 #[.val (.int p0), .val (.int p1), .val (.int p2), .val (.int p3), .val (.int p4), .unset, .unset, .unset, .unset, .unset, .unset, .unset, .unset, .unset, .unset] [(.ref (en 8)), (.int (8 : Int32)), (.ref b2), (.ref b2)])) rfl rfl (hb hby at_61)
  obtain ⟨g_61, hg_61⟩ : ∃ z : Nat → Value, z = (own_upd g_54 8 (Value.ref (en 8))) := ⟨_, rfl⟩
  rw [← hg_61] at A38
  have K38 := K34.wr W38 (Or.inr sz_b2)
  have Z38 := Nat.le_trans Z34 (Nat.le_of_eq W38.size.symm)
  have N38 := Fr.snoc X38 N34 ge_b2
  have pre39 : ∀ t, Steps p.tables e below (T38.setTop (mkF m 65 #[.val (.int p0), .val (.int p1), .val (.int p2), .val (.int p3), .val (.int p4), .unset, .unset, .unset, .unset, .unset, .unset, .unset, .unset, .unset, .unset] [(.int (9 : Int32)), (.ref b2), (.ref b2)])) t → Steps p.tables e below (s₁.setTop (entryFrame m #[(.int p0), (.int p1), (.int p2), (.int p3), (.int p4)] maxLocals)) t := by
    intro t k
    refine pre37 t ?_
    show Steps p.tables e below (T36.setTop (mkF m 61 #[.val (.int p0), .val (.int p1), .val (.int p2), .val (.int p3), .val (.int p4), .unset, .unset, .unset, .unset, .unset, .unset, .unset, .unset, .unset, .unset] [(.ref (en 8)), (.int (8 : Int32)), (.ref b2), (.ref b2)])) _
    refine st38 _ ?_
    show Steps p.tables e below (T38.setTop (mkF m 62 #[.val (.int p0), .val (.int p1), .val (.int p2), .val (.int p3), .val (.int p4), .unset, .unset, .unset, .unset, .unset, .unset, .unset, .unset, .unset, .unset] [(.ref b2)])) _
    refine XS.dup X38.here hx rfl (hb hby at_62) rfl rfl ?_
    show Steps p.tables e below (T38.setTop (mkF m 63 #[.val (.int p0), .val (.int p1), .val (.int p2), .val (.int p3), .val (.int p4), .unset, .unset, .unset, .unset, .unset, .unset, .unset, .unset, .unset, .unset] [(.ref b2), (.ref b2)])) _
    refine XS.bipush X38.here hx rfl (hb hby at_63) ?_
    exact k
  obtain ⟨T40, X40, e40, st40⟩ := getS2 X38 hx hZ hown (host := "") (Or.inl (hw _ (List.mem_of_getElem? (i := 22) rfl))) Via.refl e38 (own_sta_keep S_EJECT_REAR K38 all0) (g := (mkF m 65 #[.val (.int p0), .val (.int p1), .val (.int p2), .val (.int p3), .val (.int p4), .unset, .unset, .unset, .unset, .unset, .unset, .unset, .unset, .unset, .unset] [(.int (9 : Int32)), (.ref b2), (.ref b2)])) rfl (hb hby at_65)
  have pre41 : ∀ t, Steps p.tables e below (T40.setTop (mkF m 68 #[.val (.int p0), .val (.int p1), .val (.int p2), .val (.int p3), .val (.int p4), .unset, .unset, .unset, .unset, .unset, .unset, .unset, .unset, .unset, .unset] [(.ref (en 9)), (.int (9 : Int32)), (.ref b2), (.ref b2)])) t → Steps p.tables e below (s₁.setTop (entryFrame m #[(.int p0), (.int p1), (.int p2), (.int p3), (.int p4)] maxLocals)) t := by
    intro t k
    refine pre39 t ?_
    show Steps p.tables e below (T38.setTop (mkF m 65 #[.val (.int p0), .val (.int p1), .val (.int p2), .val (.int p3), .val (.int p4), .unset, .unset, .unset, .unset, .unset, .unset, .unset, .unset, .unset, .unset] [(.int (9 : Int32)), (.ref b2), (.ref b2)])) _
    refine st40 _ ?_
    exact k
  obtain ⟨T42, h42, X42, e42, W42, A42, st42⟩ := own_stR X40 hx hZ e40 A38 O2 (Ins.self ((hE 9 (by decide)).keep K38)) (j := (9 : Int32)) (k := 9) (by decide) (by decide) (by decide) (g := (mkF m 68 #[.val (.int p0), .val (.int p1), .val (.int p2), .val (.int p3), .val (.int p4), .unset, .unset, .unset, .unset, .unset, .unset, .unset, .unset, .unset, .unset] [(.ref (en 9)), (.int (9 : Int32)), (.ref b2), (.ref b2)])) rfl rfl (hb hby at_68)
  obtain ⟨g_68, hg_68⟩ : ∃ z : Nat → Value, z = (own_upd g_61 9 (Value.ref (en 9))) := ⟨_, rfl⟩
  rw [← hg_68] at A42
  have K42 := K38.wr W42 (Or.inr sz_b2)
  have Z42 := Nat.le_trans Z38 (Nat.le_of_eq W42.size.symm)
  have N42 := Fr.snoc X42 N38 ge_b2
  have pre43 : ∀ t, Steps p.tables e below (T42.setTop (mkF m 72 #[.val (.int p0), .val (.int p1), .val (.int p2), .val (.int p3), .val (.int p4), .unset, .unset, .unset, .unset, .unset, .unset, .unset, .unset, .unset, .unset] [(.int (10 : Int32)), (.ref b2), (.ref b2)])) t → Steps p.tables e below (s₁.setTop (entryFrame m #[(.int p0), (.int p1), (.int p2), (.int p3), (.int p4)] maxLocals)) t := by
    intro t k
    refine pre41 t ?_
    show Steps p.tables e below (T40.setTop (mkF m 68 #[.val (.int p0), .val (.int p1), .val (.int p2), .val (.int p3), .val (.int p4), .unset, .unset, .unset, .unset, .unset, .unset, .unset, .unset, .unset, .unset] [(.ref (en 9)), (.int (9 : Int32)), (.ref b2), (.ref b2)])) _
    refine st42 _ ?_
    show Steps p.tables e below (T42.setTop (mkF m 69 #[.val (.int p0), .val (.int p1), .val (.int p2), .val (.int p3), .val (.int p4), .unset, .unset, .unset, .unset, .unset, .unset, .unset, .unset, .unset, .unset] [(.ref b2)])) _
    refine XS.dup X42.here hx rfl (hb hby at_69) rfl rfl ?_
    show Steps p.tables e below (T42.setTop (mkF m 70 #[.val (.int p0), .val (.int p1), .val (.int p2), .val (.int p3), .val (.int p4), .unset, .unset, .unset, .unset, .unset, .unset, .unset, .unset, .unset, .unset] [(.ref b2), (.ref b2)])) _
    refine XS.bipush X42.here hx rfl (hb hby at_70) ?_
    exact k
  obtain ⟨T44, X44, e44, st44⟩ := getS2 X42 hx hZ hown (host := "") (Or.inl (hw _ (List.mem_of_getElem? (i := 24) rfl))) Via.refl e42 (own_sta_keep S_MOVE_TO_REREAD K42 all0) (g := (mkF m 72 #[.val (.int p0), .val (.int p1), .val (.int p2), .val (.int p3), .val (.int p4), .unset, .unset, .unset, .unset, .unset, .unset, .unset, .unset, .unset, .unset] [(.int (10 : Int32)), (.ref b2), (.ref b2)])) rfl (hb hby at_72)
  have pre45 : ∀ t, Steps p.tables e below (T44.setTop (mkF m 75 #[.val (.int p0), .val (.int p1), .val (.int p2), .val (.int p3), .val (.int p4), .unset, .unset, .unset, .unset, .unset, .unset, .unset, .unset, .unset, .unset] [(.ref (en 10)), (.int (10 : Int32)), (.ref b2), (.ref b2)])) t → Steps p.tables e below (s₁.setTop (entryFrame m #[(.int p0), (.int p1), (.int p2), (.int p3), (.int p4)] maxLocals)) t := by
    intro t k
    refine pre43 t ?_
    show Steps p.tables e below (T42.setTop (mkF m 72 #[.val (.int p0), .val (.int p1), .val (.int p2), .val (.int p3), .val (.int p4), .unset, .unset, .unset, .unset, .unset, .unset, .unset, .unset, .unset, .unset] [(.int (10 : Int32)), (.ref b2), (.ref b2)])) _
    refine st44 _ ?_
    exact k
  obtain ⟨T46, h46, X46, e46, W46, A46, st46⟩ := own_stR X44 hx hZ e44 A42 O2 (Ins.self ((hE 10 (by decide)).keep K42)) (j := (10 : Int32)) (k := 10) (by decide) (by decide) (by decide) (g := (mkF m 75 #[.val (.int p0), .val (.int p1), .val (.int p2), .val (.int p3), .val (.int p4), .unset, .unset, .unset, .unset, .unset, .unset, .unset, .unset, .unset, .unset] [(.ref (en 10)), (.int (10 : Int32)), (.ref b2), (.ref b2)])) rfl rfl (hb hby at_75)
  obtain ⟨g_75, hg_75⟩ : ∃ z : Nat → Value, z = (own_upd g_68 10 (Value.ref (en 10))) := ⟨_, rfl⟩
  rw [← hg_75] at A46
  have K46 := K42.wr W46 (Or.inr sz_b2)
  have Z46 := Nat.le_trans Z42 (Nat.le_of_eq W46.size.symm)
  have N46 := Fr.snoc X46 N42 ge_b2
  have pre47 : ∀ t, Steps p.tables e below (T46.setTop (mkF m 79 #[.val (.int p0), .val (.int p1), .val (.int p2), .val (.int p3), .val (.int p4), .unset, .unset, .unset, .unset, .unset, .unset, .unset, .unset, .unset, .unset] [(.int (11 : Int32)), (.ref b2), (.ref b2)])) t → Steps p.tables e below (s₁.setTop (entryFrame m #[(.int p0), (.int p1), (.int p2), (.int p3), (.int p4)] maxLocals)) t := by
    intro t k
    refine pre45 t ?_
    show Steps p.tables e below (T44.setTop (mkF m 75 #[.val (.int p0), .val (.int p1), .val (.int p2), .val (.int p3), .val (.int p4), .unset, .unset, .unset, .unset, .unset, .unset, .unset, .unset, .unset, .unset] [(.ref (en 10)), (.int (10 : Int32)), (.ref b2), (.ref b2)])) _
    refine st46 _ ?_
    show Steps p.tables e below (T46.setTop (mkF m 76 #[.val (.int p0), .val (.int p1), .val (.int p2), .val (.int p3), .val (.int p4), .unset, .unset, .unset, .unset, .unset, .unset, .unset, .unset, .unset, .unset] [(.ref b2)])) _
    refine XS.dup X46.here hx rfl (hb hby at_76) rfl rfl ?_
    show Steps p.tables e below (T46.setTop (mkF m 77 #[.val (.int p0), .val (.int p1), .val (.int p2), .val (.int p3), .val (.int p4), .unset, .unset, .unset, .unset, .unset, .unset, .unset, .unset, .unset, .unset] [(.ref b2), (.ref b2)])) _
    refine XS.bipush X46.here hx rfl (hb hby at_77) ?_
    exact k
  obtain ⟨T48, X48, e48, st48⟩ := getS2 X46 hx hZ hown (host := "") (Or.inl (hw _ (List.mem_of_getElem? (i := 26) rfl))) Via.refl e46 (own_sta_keep S_READ_TRACK_1 K46 all0) (g := (mkF m 79 #[.val (.int p0), .val (.int p1), .val (.int p2), .val (.int p3), .val (.int p4), .unset, .unset, .unset, .unset, .unset, .unset, .unset, .unset, .unset, .unset] [(.int (11 : Int32)), (.ref b2), (.ref b2)])) rfl (hb hby at_79)
  have pre49 : ∀ t, Steps p.tables e below (T48.setTop (mkF m 82 #[.val (.int p0), .val (.int p1), .val (.int p2), .val (.int p3), .val (.int p4), .unset, .unset, .unset, .unset, .unset, .unset, .unset, .unset, .unset, .unset] [(.ref (en 11)), (.int (11 : Int32)), (.ref b2), (.ref b2)])) t → Steps p.tables e below (s₁.setTop (entryFrame m #[(.int p0), (.int p1), (.int p2), (.int p3), (.int p4)] maxLocals)) t := by
    intro t k
    refine pre47 t ?_
    show Steps p.tables e below (T46.setTop (mkF m 79 #[.val (.int p0), .val (.int p1), .val (.int p2), .val (.int p3), .val (.int p4), .unset, .unset, .unset, .unset, .unset, .unset, .unset, .unset, .unset, .unset] [(.int (11 : Int32)), (.ref b2), (.ref b2)])) _
    refine st48 _ ?_
    exact k
  obtain ⟨T50, h50, X50, e50, W50, A50, st50⟩ := own_stR X48 hx hZ e48 A46 O2 (Ins.self ((hE 11 (by decide)).keep K46)) (j := (11 : Int32)) (k := 11) (by decide) (by decide) (by decide) (g := (mkF m 82 #[.val (.int p0), .val (.int p1), .val (.int p2), .val (.int p3), .val (.int p4), .unset, .unset, .unset, .unset, .unset, .unset, .unset, .unset, .unset, .unset] [(.ref (en 11)), (.int (11 : Int32)), (.ref b2), (.ref b2)])) rfl rfl (hb hby at_82)
  obtain ⟨g_82, hg_82⟩ : ∃ z : Nat → Value, z = (own_upd g_75 11 (Value.ref (en 11))) := ⟨_, rfl⟩
  rw [← hg_82] at A50
  have K50 := K46.wr W50 (Or.inr sz_b2)
  have Z50 := Nat.le_trans Z46 (Nat.le_of_eq W50.size.symm)
  have N50 := Fr.snoc X50 N46 ge_b2
  have pre51 : ∀ t, Steps p.tables e below (T50.setTop (mkF m 86 #[.val (.int p0), .val (.int p1), .val (.int p2), .val (.int p3), .val (.int p4), .unset, .unset, .unset, .unset, .unset, .unset, .unset, .unset, .unset, .unset] [(.int (12 : Int32)), (.ref b2), (.ref b2)])) t → Steps p.tables e below (s₁.setTop (entryFrame m #[(.int p0), (.int p1), (.int p2), (.int p3), (.int p4)] maxLocals)) t := by
    intro t k
    refine pre49 t ?_
    show Steps p.tables e below (T48.setTop (mkF m 82 #[.val (.int p0), .val (.int p1), .val (.int p2), .val (.int p3), .val (.int p4), .unset, .unset, .unset, .unset, .unset, .unset, .unset, .unset, .unset, .unset] [(.ref (en 11)), (.int (11 : Int32)), (.ref b2), (.ref b2)])) _
    refine st50 _ ?_
    show Steps p.tables e below (T50.setTop (mkF m 83 #[.val (.int p0), .val (.int p1), .val (.int p2), .val (.int p3), .val (.int p4), .unset, .unset, .unset, .unset, .unset, .unset, .unset, .unset, .unset, .unset] [(.ref b2)])) _
    refine XS.dup X50.here hx rfl (hb hby at_83) rfl rfl ?_
    show Steps p.tables e below (T50.setTop (mkF m 84 #[.val (.int p0), .val (.int p1), .val (.int p2), .val (.int p3), .val (.int p4), .unset, .unset, .unset, .unset, .unset, .unset, .unset, .unset, .unset, .unset] [(.ref b2), (.ref b2)])) _
    refine XS.bipush X50.here hx rfl (hb hby at_84) ?_
    exact k
  obtain ⟨T52, X52, e52, st52⟩ := getS2 X50 hx hZ hown (host := "") (Or.inl (hw _ (List.mem_of_getElem? (i := 28) rfl))) Via.refl e50 (own_sta_keep S_READ_TRACK_2 K50 all0) (g := (mkF m 86 #[.val (.int p0), .val (.int p1), .val (.int p2), .val (.int p3), .val (.int p4), .unset, .unset, .unset, .unset, .unset, .unset, .unset, .unset, .unset, .unset] [(.int (12 : Int32)), (.ref b2), (.ref b2)])) rfl (hb hby at_86)
  have pre53 : ∀ t, Steps p.tables e below (T52.setTop (mkF m 89 #[.val (.int p0), .val (.int p1), .val (.int p2), .val (.int p3), .val (.int p4), .unset, .unset, .unset, .unset, .unset, .unset, .unset, .unset, .unset, .unset] [(.ref (en 12)), (.int (12 : Int32)), (.ref b2), (.ref b2)])) t → Steps p.tables e below (s₁.setTop (entryFrame m #[(.int p0), (.int p1), (.int p2), (.int p3), (.int p4)] maxLocals)) t := by
    intro t k
    refine pre51 t ?_
    show Steps p.tables e below (T50.setTop (mkF m 86 #[.val (.int p0), .val (.int p1), .val (.int p2), .val (.int p3), .val (.int p4), .unset, .unset, .unset, .unset, .unset, .unset, .unset, .unset, .unset, .unset] [(.int (12 : Int32)), (.ref b2), (.ref b2)])) _
    refine st52 _ ?_
    exact k
  obtain ⟨T54, h54, X54, e54, W54, A54, st54⟩ := own_stR X52 hx hZ e52 A50 O2 (Ins.self ((hE 12 (by decide)).keep K50)) (j := (12 : Int32)) (k := 12) (by decide) (by decide) (by decide) (g := (mkF m 89 #[.val (.int p0), .val (.int p1), .val (.int p2), .val (.int p3), .val (.int p4), .unset, .unset, .unset, .unset, .unset, .unset, .unset, .unset, .unset, .unset] [(.ref (en 12)), (.int (12 : Int32)), (.ref b2), (.ref b2)])) rfl rfl (hb hby at_89)
  obtain ⟨g_89, hg_89⟩ : ∃ z : Nat → Value, z = (own_upd g_82 12 (Value.ref (en 12))) := ⟨_, rfl⟩
  rw [← hg_89] at A54
  have K54 := K50.wr W54 (Or.inr sz_b2)
  have Z54 := Nat.le_trans Z50 (Nat.le_of_eq W54.size.symm)
  have N54 := Fr.snoc X54 N50 ge_b2
  have pre55 : ∀ t, Steps p.tables e below (T54.setTop (mkF m 93 #[.val (.int p0), .val (.int p1), .val (.int p2), .val (.int p3), .val (.int p4), .unset, .unset, .unset, .unset, .unset, .unset, .unset, .unset, .unset, .unset] [(.int (13 : Int32)), (.ref b2), (.ref b2)])) t → Steps p.tables e below (s₁.setTop (entryFrame m #[(.int p0), (.int p1), (.int p2), (.int p3), (.int p4)] maxLocals)) t := by
    intro t k
    refine pre53 t ?_
    show Steps p.tables e below (T52.setTop (mkF m 89 #[.val (.int p0), .val (.int p1), .val (.int p2), .val (.int p3), .val (.int p4), .unset, .unset, .unset, .unset, .unset, .unset, .unset, .unset, .unset, .unset] [(.ref (en 12)), (.int (12 : Int32)), (.ref b2), (.ref b2)])) _
    refine st54 _ ?_
    show Steps p.tables e below (T54.setTop (mkF m 90 #[.val (.int p0), .val (.int p1), .val (.int p2), .val (.int p3), .val (.int p4), .unset, .unset, .unset, .unset, .unset, .unset, .unset, .unset, .unset, .unset] [(.ref b2)])) _
    refine XS.dup X54.here hx rfl (hb hby at_90) rfl rfl ?_
    show Steps p.tables e below (T54.setTop (mkF m 91 #[.val (.int p0), .val (.int p1), .val (.int p2), .val (.int p3), .val (.int p4), .unset, .unset, .unset, .unset, .unset, .unset, .unset, .unset, .unset, .unset] [(.ref b2), (.ref b2)])) _
    refine XS.bipush X54.here hx rfl (hb hby at_91) ?_
    exact k
  obtain ⟨T56, X56, e56, st56⟩ := getS2 X54 hx hZ hown (host := "") (Or.inl (hw _ (List.mem_of_getElem? (i := 30) rfl))) Via.refl e54 (own_sta_keep S_READ_TRACK_3 K54 all0) (g := (mkF m 93 #[.val (.int p0), .val (.int p1), .val (.int p2), .val (.int p3), .val (.int p4), .unset, .unset, .unset, .unset, .unset, .unset, .unset, .unset, .unset, .unset] [(.int (13 : Int32)), (.ref b2), (.ref b2)])) rfl (hb hby at_93)
  have pre57 : ∀ t, Steps p.tables e below (T56.setTop (mkF m 96 #[.val (.int p0), .val (.int p1), .val (.int p2), .val (.int p3), .val (.int p4), .unset, .unset, .unset, .unset, .unset, .unset, .unset, .unset, .unset, .unset] [(.ref (en 13)), (.int (13 : Int32)), (.ref b2), (.ref b2)])) t → Steps p.tables e below (s₁.setTop (entryFrame m #[(.int p0), (.int p1), (.int p2), (.int p3), (.int p4)] maxLocals)) t := by
    intro t k
    refine pre55 t ?_
    show Steps p.tables e below (T54.setTop (mkF m 93 #[.val (.int p0), .val (.int p1), .val (.int p2), .val (.int p3), .val (.int p4), .unset, .unset, .unset, .unset, .unset, .unset, .unset, .unset, .unset, .unset] [(.int (13 : Int32)), (.ref b2), (.ref b2)])) _
    refine st56 _ ?_
    exact k
  obtain ⟨T58, h58, X58, e58, W58, A58, st58⟩ := own_stR X56 hx hZ e56 A54 O2 (Ins.self ((hE 13 (by decide)).keep K54)) (j := (13 : Int32)) (k := 13) (by decide) (by decide) (by decide) (g := (mkF m 96 #[.val (.int p0), .val (.int p1), .val (.int p2), .val (.int p3), .val (.int p4), .unset, .unset, .unset, .unset, .unset, .unset, .unset, .unset, .unset, .unset] [(.ref (en 13)), (.int (13 : Int32)), (.ref b2), (.ref b2)])) rfl rfl (hb hby at_96)
  obtain ⟨g_96, hg_96⟩ : ∃ z : Nat → Value, z = (own_upd g_89 13 (Value.ref (en 13))) := ⟨_, rfl⟩
  rw [← hg_96] at A58
  have K58 := K54.wr W58 (Or.inr sz_b2)
  have Z58 := Nat.le_trans Z54 (Nat.le_of_eq W58.size.symm)
  have N58 := Fr.snoc X58 N54 ge_b2
  have pre59 : ∀ t, Steps p.tables e below (T58.setTop (mkF m 100 #[.val (.int p0), .val (.int p1), .val (.int p2), .val (.int p3), .val (.int p4), .unset, .unset, .unset, .unset, .unset, .unset, .unset, .unset, .unset, .unset] [(.int (14 : Int32)), (.ref b2), (.ref b2)])) t → Steps p.tables e below (s₁.setTop (entryFrame m #[(.int p0), (.int p1), (.int p2), (.int p3), (.int p4)] maxLocals)) t := by
    intro t k
    refine pre57 t ?_
    show Steps p.tables e below (T56.setTop (mkF m 96 #[.val (.int p0), .val (.int p1), .val (.int p2), .val (.int p3), .val (.int p4), .unset, .unset, .unset, .unset, .unset, .unset, .unset, .unset, .unset, .unset] [(.ref (en 13)), (.int (13 : Int32)), (.ref b2), (.ref b2)])) _
    refine st58 _ ?_
    show Steps p.tables e below (T58.setTop (mkF m 97 #[.val (.int p0), .val (.int p1), .val (.int p2), .val (.int p3), .val (.int p4), .unset, .unset, .unset, .unset, .unset, .unset, .unset, .unset, .unset, .unset] [(.ref b2)])) _
    refine XS.dup X58.here hx rfl (hb hby at_97) rfl rfl ?_
    show Steps p.tables e below (T58.setTop (mkF m 98 #[.val (.int p0), .val (.int p1), .val (.int p2), .val (.int p3), .val (.int p4), .unset, .unset, .unset, .unset, .unset, .unset, .unset, .unset, .unset, .unset] [(.ref b2), (.ref b2)])) _
    refine XS.bipush X58.here hx rfl (hb hby at_98) ?_
    exact k
  obtain ⟨T60, X60, e60, st60⟩ := getS2 X58 hx hZ hown (host := "") (Or.inl (hw _ (List.mem_of_getElem? (i := 32) rfl))) Via.refl e58 (own_sta_keep S_READ_TRACKS_1_2 K58 all0) (g := (mkF m 100 #[.val (.int p0), .val (.int p1), .val (.int p2), .val (.int p3), .val (.int p4), .unset, .unset, .unset, .unset, .unset, .unset, .unset, .unset, .unset, .unset] [(.int (14 : Int32)), (.ref b2), (.ref b2)])) rfl (hb hby at_100)
  have pre61 : ∀ t, Steps p.tables e below (T60.setTop (mkF m 103 #[.val (.int p0), .val (.int p1), .val (.int p2), .val (.int p3), .val (.int p4), .unset, .unset, .unset, .unset, .unset, .unset, .unset, .unset, .unset, .unset] [(.ref (en 14)), (.int (14 : Int32)), (.ref b2), (.ref b2)])) t → Steps p.tables e below (s₁.setTop (entryFrame m #[(.int p0), (.int p1), (.int p2), (.int p3), (.int p4)] maxLocals)) t := by
    intro t k
    refine pre59 t ?_
    show Steps p.tables e below (T58.setTop (mkF m 100 #[.val (.int p0), .val (.int p1), .val (.int p2), .val (.int p3), .val (.int p4), .unset, .unset, .unset, .unset, .unset, .unset, .unset, .unset, .unset, .unset] [(.int (14 : Int32)), (.ref b2), (.ref b2)])) _
    refine st60 _ ?_
    exact k
  obtain ⟨T62, h62, X62, e62, W62, A62, st62⟩ := own_stR X60 hx hZ e60 A58 O2 (Ins.self ((hE 14 (by decide)).keep K58)) (j := (14 : Int32)) (k := 14) (by decide) (by decide) (by decide) (g := (mkF m 103 #[.val (.int p0), .val (.int p1), .val (.int p2), .val (.int p3), .val (.int p4), .unset, .unset, .unset, .unset, .unset, .unset, .unset, .unset, .unset, .unset] [(.ref (en 14)), (.int (14 : Int32)), (.ref b2), (.ref b2)])) rfl rfl (hb hby at_103)
  obtain ⟨g_103, hg_103⟩ : ∃ z : Nat → Value, z = (own_upd g_96 14 (Value.ref (en 14))) := ⟨_, rfl⟩
  rw [← hg_103] at A62
  have K62 := K58.wr W62 (Or.inr sz_b2)
  have Z62 := Nat.le_trans Z58 (Nat.le_of_eq W62.size.symm)
  have N62 := Fr.snoc X62 N58 ge_b2
  have pre63 : ∀ t, Steps p.tables e below (T62.setTop (mkF m 107 #[.val (.int p0), .val (.int p1), .val (.int p2), .val (.int p3), .val (.int p4), .unset, .unset, .unset, .unset, .unset, .unset, .unset, .unset, .unset, .unset] [(.int (15 : Int32)), (.ref b2), (.ref b2)])) t → Steps p.tables e below (s₁.setTop (entryFrame m #[(.int p0), (.int p1), (.int p2), (.int p3), (.int p4)] maxLocals)) t := by
    intro t k
    refine pre61 t ?_
    show Steps p.tables e below (T60.setTop (mkF m 103 #[.val (.int p0), .val (.int p1), .val (.int p2), .val (.int p3), .val (.int p4), .unset, .unset, .unset, .unset, .unset, .unset, .unset, .unset, .unset, .unset] [(.ref (en 14)), (.int (14 : Int32)), (.ref b2), (.ref b2)])) _
    refine st62 _ ?_
    show Steps p.tables e below (T62.setTop (mkF m 104 #[.val (.int p0), .val (.int p1), .val (.int p2), .val (.int p3), .val (.int p4), .unset, .unset, .unset, .unset, .unset, .unset, .unset, .unset, .unset, .unset] [(.ref b2)])) _
    refine XS.dup X62.here hx rfl (hb hby at_104) rfl rfl ?_
    show Steps p.tables e below (T62.setTop (mkF m 105 #[.val (.int p0), .val (.int p1), .val (.int p2), .val (.int p3), .val (.int p4), .unset, .unset, .unset, .unset, .unset, .unset, .unset, .unset, .unset, .unset] [(.ref b2), (.ref b2)])) _
    refine XS.bipush X62.here hx rfl (hb hby at_105) ?_
    exact k
  obtain ⟨T64, X64, e64, st64⟩ := getS2 X62 hx hZ hown (host := "") (Or.inl (hw _ (List.mem_of_getElem? (i := 34) rfl))) Via.refl e62 (own_sta_keep S_READ_TRACKS_1_3 K62 all0) (g := (mkF m 107 #[.val (.int p0), .val (.int p1), .val (.int p2), .val (.int p3), .val (.int p4), .unset, .unset, .unset, .unset, .unset, .unset, .unset, .unset, .unset, .unset] [(.int (15 : Int32)), (.ref b2), (.ref b2)])) rfl (hb hby at_107)
  have pre65 : ∀ t, Steps p.tables e below (T64.setTop (mkF m 110 #[.val (.int p0), .val (.int p1), .val (.int p2), .val (.int p3), .val (.int p4), .unset, .unset, .unset, .unset, .unset, .unset, .unset, .unset, .unset, .unset] [(.ref (en 15)), (.int (15 : Int32)), (.ref b2), (.ref b2)])) t → Steps p.tables e below (s₁.setTop (entryFrame m #[(.int p0), (.int p1), (.int p2), (.int p3), (.int p4)] maxLocals)) t := by
    intro t k
    refine pre63 t ?_
    show Steps p.tables e below (T62.setTop (mkF m 107 #[.val (.int p0), .val (.int p1), .val (.int p2), .val (.int p3), .val (.int p4), .unset, .unset, .unset, .unset, .unset, .unset, .unset, .unset, .unset, .unset] [(.int (15 : Int32)), (.ref b2), (.ref b2)])) _
    refine st64 _ ?_
    exact k
  obtain ⟨T66, h66, X66, e66, W66, A66, st66⟩ := own_stR X64 hx hZ e64 A62 O2 (Ins.self ((hE 15 (by decide)).keep K62)) (j := (15 : Int32)) (k := 15) (by decide) (by decide) (by decide) (g := (mkF m 110 #[.val (.int p0), .val (.int p1), .val (.int p2), .val (.int p3), .val (.int p4), .unset, .unset, .unset, .unset, .unset, .unset, .unset, .unset, .unset, .unset] [(.ref (en 15)), (.int (15 : Int32)), (.ref b2), (.ref b2)])) rfl rfl (hb hby at_110)
  obtain ⟨g_110, hg_110⟩ : ∃ z : Nat → Value, z = (own_upd g_103 15 (Value.ref (en 15))) := ⟨_, rfl⟩
  rw [← hg_110] at A66
  have K66 := K62.wr W66 (Or.inr sz_b2)
  have Z66 := Nat.le_trans Z62 (Nat.le_of_eq W66.size.symm)
  have N66 := Fr.snoc X66 N62 ge_b2
  have pre67 : ∀ t, Steps p.tables e below (T66.setTop (mkF m 114 #[.val (.int p0), .val (.int p1), .val (.int p2), .val (.int p3), .val (.int p4), .unset, .unset, .unset, .unset, .unset, .unset, .unset, .unset, .unset, .unset] [(.int (16 : Int32)), (.ref b2), (.ref b2)])) t → Steps p.tables e below (s₁.setTop (entryFrame m #[(.int p0), (.int p1), (.int p2), (.int p3), (.int p4)] maxLocals)) t := by
    intro t k
    refine pre65 t ?_
    show Steps p.tables e below (T64.setTop (mkF m 110 #[.val (.int p0), .val (.int p1), .val (.int p2), .val (.int p3), .val (.int p4), .unset, .unset, .unset, .unset, .unset, .unset, .unset, .unset, .unset, .unset] [(.ref (en 15)), (.int (15 : Int32)), (.ref b2), (.ref b2)])) _
    refine st66 _ ?_
    show Steps p.tables e below (T66.setTop (mkF m 111 #[.val (.int p0), .val (.int p1), .val (.int p2), .val (.int p3), .val (.int p4), .unset, .unset, .unset, .unset, .unset, .unset, .unset, .unset, .unset, .unset] [(.ref b2)])) _
    refine XS.dup X66.here hx rfl (hb hby at_111) rfl rfl ?_
    show Steps p.tables e below (T66.setTop (mkF m 112 #[.val (.int p0), .val (.int p1), .val (.int p2), .val (.int p3), .val (.int p4), .unset, .unset, .unset, .unset, .unset, .unset, .unset, .unset, .unset, .unset] [(.ref b2), (.ref b2)])) _
    refine XS.bipush X66.here hx rfl (hb hby at_112) ?_
    exact k
  obtain ⟨T68, X68, e68, st68⟩ := getS2 X66 hx hZ hown (host := "") (Or.inl (hw _ (List.mem_of_getElem? (i := 36) rfl))) Via.refl e66 (own_sta_keep S_READ_TRACKS_2_3 K66 all0) (g := (mkF m 114 #[.val (.int p0), .val (.int p1), .val (.int p2), .val (.int p3), .val (.int p4), .unset, .unset, .unset, .unset, .unset, .unset, .unset, .unset, .unset, .unset] [(.int (16 : Int32)), (.ref b2), (.ref b2)])) rfl (hb hby at_114)
  have pre69 : ∀ t, Steps p.tables e below (T68.setTop (mkF m 117 #[.val (.int p0), .val (.int p1), .val (.int p2), .val (.int p3), .val (.int p4), .unset, .unset, .unset, .unset, .unset, .unset, .unset, .unset, .unset, .unset] [(.ref (en 16)), (.int (16 : Int32)), (.ref b2), (.ref b2)])) t → Steps p.tables e below (s₁.setTop (entryFrame m #[(.int p0), (.int p1), (.int p2), (.int p3), (.int p4)] maxLocals)) t := by
    intro t k
    refine pre67 t ?_
    show Steps p.tables e below (T66.setTop (mkF m 114 #[.val (.int p0), .val (.int p1), .val (.int p2), .val (.int p3), .val (.int p4), .unset, .unset, .unset, .unset, .unset, .unset, .unset, .unset, .unset, .unset] [(.int (16 : Int32)), (.ref b2), (.ref b2)])) _
    refine st68 _ ?_
    exact k
  obtain ⟨T70, h70, X70, e70, W70, A70, st70⟩ := own_stR X68 hx hZ e68 A66 O2 (Ins.self ((hE 16 (by decide)).keep K66)) (j := (16 : Int32)) (k := 16) (by decide) (by decide) (by decide) (g := (mkF m 117 #[.val (.int p0), .val (.int p1), .val (.int p2), .val (.int p3), .val (.int p4), .unset, .unset, .unset, .unset, .unset, .unset, .unset, .unset, .unset, .unset] [(.ref (en 16)), (.int (16 : Int32)), (.ref b2), (.ref b2)])) rfl rfl (hb hby at_117)
  obtain ⟨g_117, hg_117⟩ : ∃ z : Nat → Value, z = (own_upd g_110 16 (Value.ref (en 16))) := ⟨_, rfl⟩
  rw [← hg_117] at A70
  have K70 := K66.wr W70 (Or.inr sz_b2)
  have Z70 := Nat.le_trans Z66 (Nat.le_of_eq W70.size.symm)
  have N70 := Fr.snoc X70 N66 ge_b2
  have pre71 : ∀ t, Steps p.tables e below (T70.setTop (mkF m 121 #[.val (.int p0), .val (.int p1), .val (.int p2), .val (.int p3), .val (.int p4), .unset, .unset, .unset, .unset, .unset, .unset, .unset, .unset, .unset, .unset] [(.int (17 : Int32)), (.ref b2), (.ref b2)])) t → Steps p.tables e below (s₁.setTop (entryFrame m #[(.int p0), (.int p1), (.int p2), (.int p3), (.int p4)] maxLocals)) t := by
    intro t k
    refine pre69 t ?_
    show Steps p.tables e below (T68.setTop (mkF m 117 #[.val (.int p0), .val (.int p1), .val (.int p2), .val (.int p3), .val (.int p4), .unset, .unset, .unset, .unset, .unset, .unset, .unset, .unset, .unset, .unset] [(.ref (en 16)), (.int (16 : Int32)), (.ref b2), (.ref b2)])) _
    refine st70 _ ?_
    show Steps p.tables e below (T70.setTop (mkF m 118 #[.val (.int p0), .val (.int p1), .val (.int p2), .val (.int p3), .val (.int p4), .unset, .unset, .unset, .unset, .unset, .unset, .unset, .unset, .unset, .unset] [(.ref b2)])) _
    refine XS.dup X70.here hx rfl (hb hby at_118) rfl rfl ?_
    show Steps p.tables e below (T70.setTop (mkF m 119 #[.val (.int p0), .val (.int p1), .val (.int p2), .val (.int p3), .val (.int p4), .unset, .unset, .unset, .unset, .unset, .unset, .unset, .unset, .unset, .unset] [(.ref b2), (.ref b2)])) _
    refine XS.bipush X70.here hx rfl (hb hby at_119) ?_
    exact k
  obtain ⟨T72, X72, e72, st72⟩ := getS2 X70 hx hZ hown (host := "") (Or.inl (hw _ (List.mem_of_getElem? (i := 38) rfl))) Via.refl e70 (own_sta_keep S_READ_TRACKS_1_2_3 K70 all0) (g := (mkF m 121 #[.val (.int p0), .val (.int p1), .val (.int p2), .val (.int p3), .val (.int p4), .unset, .unset, .unset, .unset, .unset, .unset, .unset, .unset, .unset, .unset] [(.int (17 : Int32)), (.ref b2), (.ref b2)])) rfl (hb hby at_121)
  have pre73 : ∀ t, Steps p.tables e below (T72.setTop (mkF m 124 #[.val (.int p0), .val (.int p1), .val (.int p2), .val (.int p3), .val (.int p4), .unset, .unset, .unset, .unset, .unset, .unset, .unset, .unset, .unset, .unset] [(.ref (en 17)), (.int (17 : Int32)), (.ref b2), (.ref b2)])) t → Steps p.tables e below (s₁.setTop (entryFrame m #[(.int p0), (.int p1), (.int p2), (.int p3), (.int p4)] maxLocals)) t := by
    intro t k
    refine pre71 t ?_
    show Steps p.tables e below (T70.setTop (mkF m 121 #[.val (.int p0), .val (.int p1), .val (.int p2), .val (.int p3), .val (.int p4), .unset, .unset, .unset, .unset, .unset, .unset, .unset, .unset, .unset, .unset] [(.int (17 : Int32)), (.ref b2), (.ref b2)])) _
    refine st72 _ ?_
    exact k
  obtain ⟨T74, h74, X74, e74, W74, A74, st74⟩ := own_stR X72 hx hZ e72 A70 O2 (Ins.self ((hE 17 (by decide)).keep K70)) (j := (17 : Int32)) (k := 17) (by decide) (by decide) (by decide) (g := (mkF m 124 #[.val (.int p0), .val (.int p1), .val (.int p2), .val (.int p3), .val (.int p4), .unset, .unset, .unset, .unset, .unset, .unset, .unset, .unset, .unset, .unset] [(.ref (en 17)), (.int (17 : Int32)), (.ref b2), (.ref b2)])) rfl rfl (hb hby at_124)
  obtain ⟨g_124, hg_124⟩ : ∃ z : Nat → Value, z = (own_upd g_117 17 (Value.ref (en 17))) := ⟨_, rfl⟩
  rw [← hg_124] at A74
  have K74 := K70.wr W74 (Or.inr sz_b2)
  have Z74 := Nat.le_trans Z70 (Nat.le_of_eq W74.size.symm)
  have N74 := Fr.snoc X74 N70 ge_b2
  have pre75 : ∀ t, Steps p.tables e below (T74.setTop (mkF m 125 #[.val (.int p0), .val (.int p1), .val (.int p2), .val (.int p3), .val (.int p4), .unset, .unset, .unset, .unset, .unset, .unset, .unset, .unset, .unset, .unset] [(.ref b2)])) t → Steps p.tables e below (s₁.setTop (entryFrame m #[(.int p0), (.int p1), (.int p2), (.int p3), (.int p4)] maxLocals)) t := by
    intro t k
    refine pre73 t ?_
    show Steps p.tables e below (T72.setTop (mkF m 124 #[.val (.int p0), .val (.int p1), .val (.int p2), .val (.int p3), .val (.int p4), .unset, .unset, .unset, .unset, .unset, .unset, .unset, .unset, .unset, .unset] [(.ref (en 17)), (.int (17 : Int32)), (.ref b2), (.ref b2)])) _
    refine st74 _ ?_
    exact k
  have AR76 : own_A Z h74 b2 (.object "com/example/cardwire/cardwire/f6/F6Command") 18 (fun i => (own_rf en) i) := A74.toA.congr (fun i hi => by rw [hg_124, hg_117, hg_110, hg_103, hg_96, hg_89, hg_82, hg_75, hg_68, hg_61, hg_54, hg_47, hg_40, hg_34, hg_28, hg_22, hg_16, hg_10]; exact own_rf_eq en i hi)
  have pre77 : ∀ t, Steps p.tables e below (T74.setTop (mkF m 129 #[.val (.int p0), .val (.int p1), .val (.int p2), .val (.int p3), .val (.int p4), .val (.ref b2), .unset, .unset, .unset, .unset, .unset, .unset, .unset, .unset, .unset] [(.int (18 : Int32))])) t → Steps p.tables e below (s₁.setTop (entryFrame m #[(.int p0), (.int p1), (.int p2), (.int p3), (.int p4)] maxLocals)) t := by
    intro t k
    refine pre75 t ?_
    show Steps p.tables e below (T74.setTop (mkF m 125 #[.val (.int p0), .val (.int p1), .val (.int p2), .val (.int p3), .val (.int p4), .unset, .unset, .unset, .unset, .unset, .unset, .unset, .unset, .unset, .unset] [(.ref b2)])) _
    refine XS.astore X74.here hx rfl (hb hby at_125) rfl rfl (l' := #[.val (.int p0), .val (.int p1), .val (.int p2), .val (.int p3), .val (.int p4), .val (.ref b2), .unset, .unset, .unset, .unset, .unset, .unset, .unset, .unset, .unset]) rfl ?_
    show Steps p.tables e below (T74.setTop (mkF m 127 #[.val (.int p0), .val (.int p1), .val (.int p2), .val (.int p3), .val (.int p4), .val (.ref b2), .unset, .unset, .unset, .unset, .unset, .unset, .unset, .unset, .unset] [])) _
    refine XS.bipush X74.here hx rfl (hb hby at_127) ?_
    exact k
  obtain ⟨T78, h78, b78, gb78, X78, e78, E78, A78, st78⟩ := own_newP X74 hx hZ (hw _ (List.mem_of_getElem? (i := 40) rfl)) e74 (g := (mkF m 129 #[.val (.int p0), .val (.int p1), .val (.int p2), .val (.int p3), .val (.int p4), .val (.ref b2), .unset, .unset, .unset, .unset, .unset, .unset, .unset, .unset, .unset] [(.int (18 : Int32))])) rfl (hb hby at_129) rfl (by decide) (n := 18) rfl (G := fun i => .int (own_zI i)) (fun _ => rfl) (cap := 18) (by decide) (by decide) (by decide) (by decide)
  have ne_b2_b78 : b2 ≠ b78 := Nat.ne_of_lt (Nat.lt_of_lt_of_le AR76.lt (Nat.le_of_eq gb78.symm))
  have sz_b78 : h0.size ≤ b78 := Nat.le_trans K74.1 (Nat.le_of_eq gb78.symm)
  have ge_b78 : n0 ≤ b78 := Nat.le_trans Z74 (Nat.le_of_eq gb78.symm)
  have arr_b2_78 := AR76.ext E78
  have K78 := K74.ext E78
  have Z78 := Nat.le_trans Z74 E78.1
  have pre79 : ∀ t, Steps p.tables e below (T78.setTop (mkF m 135 #[.val (.int p0), .val (.int p1), .val (.int p2), .val (.int p3), .val (.int p4), .val (.ref b2), .unset, .unset, .unset, .unset, .unset, .unset, .unset, .unset, .unset] [(.int (48 : Int32)), (.int (0 : Int32)), (.ref b78), (.ref b78)])) t → Steps p.tables e below (s₁.setTop (entryFrame m #[(.int p0), (.int p1), (.int p2), (.int p3), (.int p4)] maxLocals)) t := by
    intro t k
    refine pre77 t ?_
    show Steps p.tables e below (T74.setTop (mkF m 129 #[.val (.int p0), .val (.int p1), .val (.int p2), .val (.int p3), .val (.int p4), .val (.ref b2), .unset, .unset, .unset, .unset, .unset, .unset, .unset, .unset, .unset] [(.int (18 : Int32))])) _
    refine st78 _ ?_
    show Steps p.tables e below (T78.setTop (mkF m 131 #[.val (.int p0), .val (.int p1), .val (.int p2), .val (.int p3), .val (.int p4), .val (.ref b2), .unset, .unset, .unset, .unset, .unset, .unset, .unset, .unset, .unset] [(.ref b78)])) _
    refine XS.dup X78.here hx rfl (hb hby at_131) rfl rfl ?_
    show Steps p.tables e below (T78.setTop (mkF m 132 #[.val (.int p0), .val (.int p1), .val (.int p2), .val (.int p3), .val (.int p4), .val (.ref b2), .unset, .unset, .unset, .unset, .unset, .unset, .unset, .unset, .unset] [(.ref b78), (.ref b78)])) _
    refine XS.iconst X78.here hx rfl (hb hby at_132) ?_
    show Steps p.tables e below (T78.setTop (mkF m 133 #[.val (.int p0), .val (.int p1), .val (.int p2), .val (.int p3), .val (.int p4), .val (.ref b2), .unset, .unset, .unset, .unset, .unset, .unset, .unset, .unset, .unset] [(.int (0 : Int32)), (.ref b78), (.ref b78)])) _
    refine XS.bipush X78.here hx rfl (hb hby at_133) ?_
    exact k
  obtain ⟨T80, h80, X80, e80, W80, A80, st80⟩ := own_stI X78 hx hZ e78 A78 (j := (0 : Int32)) (x := (48 : Int32)) (k := 0) (by decide) (by decide) (by decide) (g := (mkF m 135 #[.val (.int p0), .val (.int p1), .val (.int p2), .val (.int p3), .val (.int p4), .val (.ref b2), .unset, .unset, .unset, .unset, .unset, .unset, .unset, .unset, .unset] [(.int (48 : Int32)), (.int (0 : Int32)), (.ref b78), (.ref b78)])) rfl rfl (hb hby at_135)
  obtain ⟨g_135, hg_135⟩ : ∃ z : Nat → Int32, z = (own_upd own_zI 0 (48 : Int32)) := ⟨_, rfl⟩
  rw [← hg_135] at A80
  have arr_b2_80 := arr_b2_78.other W80 ne_b2_b78
  have K80 := K78.wr W80 (Or.inr sz_b78)
  have Z80 := Nat.le_trans Z78 (Nat.le_of_eq W80.size.symm)
  have N80 := Fr.snoc X80 N74 ge_b78
  have pre81 : ∀ t, Steps p.tables e below (T80.setTop (mkF m 140 #[.val (.int p0), .val (.int p1), .val (.int p2), .val (.int p3), .val (.int p4), .val (.ref b2), .unset, .unset, .unset, .unset, .unset, .unset, .unset, .unset, .unset] [(.int (49 : Int32)), (.int (1 : Int32)), (.ref b78), (.ref b78)])) t → Steps p.tables e below (s₁.setTop (entryFrame m #[(.int p0), (.int p1), (.int p2), (.int p3), (.int p4)] maxLocals)) t := by
    intro t k
    refine pre79 t ?_
    show Steps p.tables e below (T78.setTop (mkF m 135 #[.val (.int p0), .val (.int p1), .val (.int p2), .val (.int p3), .val (.int p4), .val (.ref b2), .unset, .unset, .unset, .unset, .unset, .unset, .unset, .unset, .unset] [(.int (48 : Int32)), (.int (0 : Int32)), (.ref b78), (.ref b78)])) _
    refine st80 _ ?_
    show Steps p.tables e below (T80.setTop (mkF m 136 #[.val (.int p0), .val (.int p1), .val (.int p2), .val (.int p3), .val (.int p4), .val (.ref b2), .unset, .unset, .unset, .unset, .unset, .unset, .unset, .unset, .unset] [(.ref b78)])) _
    refine XS.dup X80.here hx rfl (hb hby at_136) rfl rfl ?_
    show Steps p.tables e below (T80.setTop (mkF m 137 #[.val (.int p0), .val (.int p1), .val (.int p2), .val (.int p3), .val (.int p4), .val (.ref b2), .unset, .unset, .unset, .unset, .unset, .unset, .unset, .unset, .unset] [(.ref b78), (.ref b78)])) _
    refine XS.iconst X80.here hx rfl (hb hby at_137) ?_
    show Steps p.tables e below (T80.setTop (mkF m 138 #[.val (.int p0), .val (.int p1), .val (.int p2), .val (.int p3), .val (.int p4), .val (.ref b2), .unset, .unset, .unset, .unset, .unset, .unset, .unset, .unset, .unset] [(.int (1 : Int32)), (.ref b78), (.ref b78)])) _
    refine XS.bipush X80.here hx rfl (hb hby at_138) ?_
    exact k
  obtain ⟨T82, h82, X82, e82, W82, A82, st82⟩ := own_stI X80 hx hZ e80 A80 (j := (1 : Int32)) (x := (49 : Int32)) (k := 1) (by decide) (by decide) (by decide) (g := (mkF m 140 #[.val (.int p0), .val (.int p1), .val (.int p2), .val (.int p3), .val (.int p4), .val (.ref b2), .unset, .unset, .unset, .unset, .unset, .unset, .unset, .unset, .unset] [(.int (49 : Int32)), (.int (1 : Int32)), (.ref b78), (.ref b78)])) rfl rfl (hb hby at_140)
  obtain ⟨g_140, hg_140⟩ : ∃ z : Nat → Int32, z = (own_upd g_135 1 (49 : Int32)) := ⟨_, rfl⟩
  rw [← hg_140] at A82
  have arr_b2_82 := arr_b2_80.other W82 ne_b2_b78
  have K82 := K80.wr W82 (Or.inr sz_b78)
  have Z82 := Nat.le_trans Z80 (Nat.le_of_eq W82.size.symm)
  have N82 := Fr.snoc X82 N80 ge_b78
  have pre83 : ∀ t, Steps p.tables e below (T82.setTop (mkF m 145 #[.val (.int p0), .val (.int p1), .val (.int p2), .val (.int p3), .val (.int p4), .val (.ref b2), .unset, .unset, .unset, .unset, .unset, .unset, .unset, .unset, .unset] [(.int (50 : Int32)), (.int (2 : Int32)), (.ref b78), (.ref b78)])) t → Steps p.tables e below (s₁.setTop (entryFrame m #[(.int p0), (.int p1), (.int p2), (.int p3), (.int p4)] maxLocals)) t := by
    intro t k
    refine pre81 t ?_
    show Steps p.tables e below (T80.setTop (mkF m 140 #[.val (.int p0), .val (.int p1), .val (.int p2), .val (.int p3), .val (.int p4), .val (.ref b2), .unset, .unset, .unset, .unset, .unset, .unset, .unset, .unset, .unset] [(.int (49 : Int32)), (.int (1 : Int32)), (.ref b78), (.ref b78)])) _
    refine st82 _ ?_
    show Steps p.tables e below (T82.setTop (mkF m 141 #[.val (.int p0), .val (.int p1), .val (.int p2), .val (.int p3), .val (.int p4), .val (.ref b2), .unset, .unset, .unset, .unset, .unset, .unset, .unset, .unset, .unset] [(.ref b78)])) _
    refine XS.dup X82.here hx rfl (hb hby at_141) rfl rfl ?_
    show Steps p.tables e below (T82.setTop (mkF m 142 #[.val (.int p0), .val (.int p1), .val (.int p2), .val (.int p3), .val (.int p4), .val (.ref b2), .unset, .unset, .unset, .unset, .unset, .unset, .unset, .unset, .unset] [(.ref b78), (.ref b78)])) _
    refine XS.iconst X82.here hx rfl (hb hby at_142) ?_
    show Steps p.tables e below (T82.setTop (mkF m 143 #[.val (.int p0), .val (.int p1), .val (.int p2), .val (.int p3), .val (.int p4), .val (.ref b2), .unset, .unset, .unset, .unset, .unset, .unset, .unset, .unset, .unset] [(.int (2 : Int32)), (.ref b78), (.ref b78)])) _
    refine XS.bipush X82.here hx rfl (hb hby at_143) ?_
    exact k
  obtain ⟨T84, h84, X84, e84, W84, A84, st84⟩ := own_stI X82 hx hZ e82 A82 (j := (2 : Int32)) (x := (50 : Int32)) (k := 2) (by decide) (by decide) (by decide) (g := (mkF m 145 #[.val (.int p0), .val (.int p1), .val (.int p2), .val (.int p3), .val (.int p4), .val (.ref b2), .unset, .unset, .unset, .unset, .unset, .unset, .unset, .unset, .unset] [(.int (50 : Int32)), (.int (2 : Int32)), (.ref b78), (.ref b78)])) rfl rfl (hb hby at_145)
  obtain ⟨g_145, hg_145⟩ : ∃ z : Nat → Int32, z = (own_upd g_140 2 (50 : Int32)) := ⟨_, rfl⟩
  rw [← hg_145] at A84
  have arr_b2_84 := arr_b2_82.other W84 ne_b2_b78
  have K84 := K82.wr W84 (Or.inr sz_b78)
  have Z84 := Nat.le_trans Z82 (Nat.le_of_eq W84.size.symm)
  have N84 := Fr.snoc X84 N82 ge_b78
  have pre85 : ∀ t, Steps p.tables e below (T84.setTop (mkF m 150 #[.val (.int p0), .val (.int p1), .val (.int p2), .val (.int p3), .val (.int p4), .val (.ref b2), .unset, .unset, .unset, .unset, .unset, .unset, .unset, .unset, .unset] [(.int (50 : Int32)), (.int (3 : Int32)), (.ref b78), (.ref b78)])) t → Steps p.tables e below (s₁.setTop (entryFrame m #[(.int p0), (.int p1), (.int p2), (.int p3), (.int p4)] maxLocals)) t := by
    intro t k
    refine pre83 t ?_
    show Steps p.tables e below (T82.setTop (mkF m 145 #[.val (.int p0), .val (.int p1), .val (.int p2), .val (.int p3), .val (.int p4), .val (.ref b2), .unset, .unset, .unset, .unset, .unset, .unset, .unset, .unset, .unset] [(.int (50 : Int32)), (.int (2 : Int32)), (.ref b78), (.ref b78)])) _
    refine st84 _ ?_
    show Steps p.tables e below (T84.setTop (mkF m 146 #[.val (.int p0), .val (.int p1), .val (.int p2), .val (.int p3), .val (.int p4), .val (.ref b2), .unset, .unset, .unset, .unset, .unset, .unset, .unset, .unset, .unset] [(.ref b78)])) _
    refine XS.dup X84.here hx rfl (hb hby at_146) rfl rfl ?_
    show Steps p.tables e below (T84.setTop (mkF m 147 #[.val (.int p0), .val (.int p1), .val (.int p2), .val (.int p3), .val (.int p4), .val (.ref b2), .unset, .unset, .unset, .unset, .unset, .unset, .unset, .unset, .unset] [(.ref b78), (.ref b78)])) _
    refine XS.iconst X84.here hx rfl (hb hby at_147) ?_
    show Steps p.tables e below (T84.setTop (mkF m 148 #[.val (.int p0), .val (.int p1), .val (.int p2), .val (.int p3), .val (.int p4), .val (.ref b2), .unset, .unset, .unset, .unset, .unset, .unset, .unset, .unset, .unset] [(.int (3 : Int32)), (.ref b78), (.ref b78)])) _
    refine XS.bipush X84.here hx rfl (hb hby at_148) ?_
    exact k
  obtain ⟨T86, h86, X86, e86, W86, A86, st86⟩ := own_stI X84 hx hZ e84 A84 (j := (3 : Int32)) (x := (50 : Int32)) (k := 3) (by decide) (by decide) (by decide) (g := (mkF m 150 #[.val (.int p0), .val (.int p1), .val (.int p2), .val (.int p3), .val (.int p4), .val (.ref b2), .unset, .unset, .unset, .unset, .unset, .unset, .unset, .unset, .unset] [(.int (50 : Int32)), (.int (3 : Int32)), (.ref b78), (.ref b78)])) rfl rfl (hb hby at_150)
  obtain ⟨g_150, hg_150⟩ : ∃ z : Nat → Int32, z = (own_upd g_145 3 (50 : Int32)) := ⟨_, rfl⟩
  rw [← hg_150] at A86
  have arr_b2_86 := arr_b2_84.other W86 ne_b2_b78
  have K86 := K84.wr W86 (Or.inr sz_b78)
  have Z86 := Nat.le_trans Z84 (Nat.le_of_eq W86.size.symm)
  have N86 := Fr.snoc X86 N84 ge_b78
  have pre87 : ∀ t, Steps p.tables e below (T86.setTop (mkF m 155 #[.val (.int p0), .val (.int p1), .val (.int p2), .val (.int p3), .val (.int p4), .val (.ref b2), .unset, .unset, .unset, .unset, .unset, .unset, .unset, .unset, .unset] [(.int (51 : Int32)), (.int (4 : Int32)), (.ref b78), (.ref b78)])) t → Steps p.tables e below (s₁.setTop (entryFrame m #[(.int p0), (.int p1), (.int p2), (.int p3), (.int p4)] maxLocals)) t := by
    intro t k
    refine pre85 t ?_
    show Steps p.tables e below (T84.setTop (mkF m 150 #[.val (.int p0), .val (.int p1), .val (.int p2), .val (.int p3), .val (.int p4), .val (.ref b2), .unset, .unset, .unset, .unset, .unset, .unset, .unset, .unset, .unset] [(.int (50 : Int32)), (.int (3 : Int32)), (.ref b78), (.ref b78)])) _
    refine st86 _ ?_
    show Steps p.tables e below (T86.setTop (mkF m 151 #[.val (.int p0), .val (.int p1), .val (.int p2), .val (.int p3), .val (.int p4), .val (.ref b2), .unset, .unset, .unset, .unset, .unset, .unset, .unset, .unset, .unset] [(.ref b78)])) _
    refine XS.dup X86.here hx rfl (hb hby at_151) rfl rfl ?_
    show Steps p.tables e below (T86.setTop (mkF m 152 #[.val (.int p0), .val (.int p1), .val (.int p2), .val (.int p3), .val (.int p4), .val (.ref b2), .unset, .unset, .unset, .unset, .unset, .unset, .unset, .unset, .unset] [(.ref b78), (.ref b78)])) _
    refine XS.iconst X86.here hx rfl (hb hby at_152) ?_
    show Steps p.tables e below (T86.setTop (mkF m 153 #[.val (.int p0), .val (.int p1), .val (.int p2), .val (.int p3), .val (.int p4), .val (.ref b2), .unset, .unset, .unset, .unset, .unset, .unset, .unset, .unset, .unset] [(.int (4 : Int32)), (.ref b78), (.ref b78)])) _
    refine XS.bipush X86.here hx rfl (hb hby at_153) ?_
    exact k
  obtain ⟨T88, h88, X88, e88, W88, A88, st88⟩ := own_stI X86 hx hZ e86 A86 (j := (4 : Int32)) (x := (51 : Int32)) (k := 4) (by decide) (by decide) (by decide) (g := (mkF m 155 #[.val (.int p0), .val (.int p1), .val (.int p2), .val (.int p3), .val (.int p4), .val (.ref b2), .unset, .unset, .unset, .unset, .unset, .unset, .unset, .unset, .unset] [(.int (51 : Int32)), (.int (4 : Int32)), (.ref b78), (.ref b78)])) rfl rfl (hb hby at_155)
  obtain ⟨g_155, hg_155⟩ : ∃ z : Nat → Int32, z = (own_upd g_150 4 (51 : Int32)) := ⟨_, rfl⟩
  rw [← hg_155] at A88
  have arr_b2_88 := arr_b2_86.other W88 ne_b2_b78
  have K88 := K86.wr W88 (Or.inr sz_b78)
  have Z88 := Nat.le_trans Z86 (Nat.le_of_eq W88.size.symm)
  have N88 := Fr.snoc X88 N86 ge_b78
  have pre89 : ∀ t, Steps p.tables e below (T88.setTop (mkF m 160 #[.val (.int p0), .val (.int p1), .val (.int p2), .val (.int p3), .val (.int p4), .val (.ref b2), .unset, .unset, .unset, .unset, .unset, .unset, .unset, .unset, .unset] [(.int (51 : Int32)), (.int (5 : Int32)), (.ref b78), (.ref b78)])) t → Steps p.tables e below (s₁.setTop (entryFrame m #[(.int p0), (.int p1), (.int p2), (.int p3), (.int p4)] maxLocals)) t := by
    intro t k
    refine pre87 t ?_
    show Steps p.tables e below (T86.setTop (mkF m 155 #[.val (.int p0), .val (.int p1), .val (.int p2), .val (.int p3), .val (.int p4), .val (.ref b2), .unset, .unset, .unset, .unset, .unset, .unset, .unset, .unset, .unset] [(.int (51 : Int32)), (.int (4 : Int32)), (.ref b78), (.ref b78)])) _
    refine st88 _ ?_
    show Steps p.tables e below (T88.setTop (mkF m 156 #[.val (.int p0), .val (.int p1), .val (.int p2), .val (.int p3), .val (.int p4), .val (.ref b2), .unset, .unset, .unset, .unset, .unset, .unset, .unset, .unset, .unset] [(.ref b78)])) _
    refine XS.dup X88.here hx rfl (hb hby at_156) rfl rfl ?_
    show Steps p.tables e below (T88.setTop (mkF m 157 #[.val (.int p0), .val (.int p1), .val (.int p2), .val (.int p3), .val (.int p4), .val (.ref b2), .unset, .unset, .unset, .unset, .unset, .unset, .unset, .unset, .unset] [(.ref b78), (.ref b78)])) _
    refine XS.iconst X88.here hx rfl (hb hby at_157) ?_
    show Steps p.tables e below (T88.setTop (mkF m 158 #[.val (.int p0), .val (.int p1), .val (.int p2), .val (.int p3), .val (.int p4), .val (.ref b2), .unset, .unset, .unset, .unset, .unset, .unset, .unset, .unset, .unset] [(.int (5 : Int32)), (.ref b78), (.ref b78)])) _
    refine XS.bipush X88.here hx rfl (hb hby at_158) ?_
    exact k
  obtain ⟨T90, h90, X90, e90, W90, A90, st90⟩ := own_stI X88 hx hZ e88 A88 (j := (5 : Int32)) (x := (51 : Int32)) (k := 5) (by decide) (by decide) (by decide) (g := (mkF m 160 #[.val (.int p0), .val (.int p1), .val (.int p2), .val (.int p3), .val (.int p4), .val (.ref b2), .unset, .unset, .unset, .unset, .unset, .unset, .unset, .unset, .unset] [(.int (51 : Int32)), (.int (5 : Int32)), (.ref b78), (.ref b78)])) rfl rfl (hb hby at_160)
  obtain ⟨g_160, hg_160⟩ : ∃ z : Nat → Int32, z = (own_upd g_155 5 (51 : Int32)) := ⟨_, rfl⟩
  rw [← hg_160] at A90
  have arr_b2_90 := arr_b2_88.other W90 ne_b2_b78
  have K90 := K88.wr W90 (Or.inr sz_b78)
  have Z90 := Nat.le_trans Z88 (Nat.le_of_eq W90.size.symm)
  have N90 := Fr.snoc X90 N88 ge_b78
  have pre91 : ∀ t, Steps p.tables e below (T90.setTop (mkF m 166 #[.val (.int p0), .val (.int p1), .val (.int p2), .val (.int p3), .val (.int p4), .val (.ref b2), .unset, .unset, .unset, .unset, .unset, .unset, .unset, .unset, .unset] [(.int (51 : Int32)), (.int (6 : Int32)), (.ref b78), (.ref b78)])) t → Steps p.tables e below (s₁.setTop (entryFrame m #[(.int p0), (.int p1), (.int p2), (.int p3), (.int p4)] maxLocals)) t := by
    intro t k
    refine pre89 t ?_
    show Steps p.tables e below (T88.setTop (mkF m 160 #[.val (.int p0), .val (.int p1), .val (.int p2), .val (.int p3), .val (.int p4), .val (.ref b2), .unset, .unset, .unset, .unset, .unset, .unset, .unset, .unset, .unset] [(.int (51 : Int32)), (.int (5 : Int32)), (.ref b78), (.ref b78)])) _
    refine st90 _ ?_
    show Steps p.tables e below (T90.setTop (mkF m 161 #[.val (.int p0), .val (.int p1), .val (.int p2), .val (.int p3), .val (.int p4), .val (.ref b2), .unset, .unset, .unset, .unset, .unset, .unset, .unset, .unset, .unset] [(.ref b78)])) _
    refine XS.dup X90.here hx rfl (hb hby at_161) rfl rfl ?_
    show Steps p.tables e below (T90.setTop (mkF m 162 #[.val (.int p0), .val (.int p1), .val (.int p2), .val (.int p3), .val (.int p4), .val (.ref b2), .unset, .unset, .unset, .unset, .unset, .unset, .unset, .unset, .unset] [(.ref b78), (.ref b78)])) _
    refine XS.bipush X90.here hx rfl (hb hby at_162) ?_
    show Steps p.tables e below (T90.setTop (mkF m 164 #[.val (.int p0), .val (.int p1), .val (.int p2), .val (.int p3), .val (.int p4), .val (.ref b2), .unset, .unset, .unset, .unset, .unset, .unset, .unset, .unset, .unset] [(.int (6 : Int32)), (.ref b78), (.ref b78)])) _
    refine XS.bipush X90.here hx rfl (hb hby at_164) ?_
    exact k
  obtain ⟨T92, h92, X92, e92, W92, A92, st92⟩ := own_stI X90 hx hZ e90 A90 (j := (6 : Int32)) (x := (51 : Int32)) (k := 6) (by decide) (by decide) (by decide) (g := (mkF m 166 #[.val (.int p0), .val (.int p1), .val (.int p2), .val (.int p3), .val (.int p4), .val (.ref b2), .unset, .unset, .unset, .unset, .unset, .unset, .unset, .unset, .unset] [(.int (51 : Int32)), (.int (6 : Int32)), (.ref b78), (.ref b78)])) rfl rfl (hb hby at_166)
  obtain ⟨g_166, hg_166⟩ : ∃ z : Nat → Int32, z = (own_upd g_160 6 (51 : Int32)) := ⟨_, rfl⟩
  rw [← hg_166] at A92
  have arr_b2_92 := arr_b2_90.other W92 ne_b2_b78
  have K92 := K90.wr W92 (Or.inr sz_b78)
  have Z92 := Nat.le_trans Z90 (Nat.le_of_eq W92.size.symm)
  have N92 := Fr.snoc X92 N90 ge_b78
  have pre93 : ∀ t, Steps p.tables e below (T92.setTop (mkF m 172 #[.val (.int p0), .val (.int p1), .val (.int p2), .val (.int p3), .val (.int p4), .val (.ref b2), .unset, .unset, .unset, .unset, .unset, .unset, .unset, .unset, .unset] [(.int (51 : Int32)), (.int (7 : Int32)), (.ref b78), (.ref b78)])) t → Steps p.tables e below (s₁.setTop (entryFrame m #[(.int p0), (.int p1), (.int p2), (.int p3), (.int p4)] maxLocals)) t := by
    intro t k
    refine pre91 t ?_
    show Steps p.tables e below (T90.setTop (mkF m 166 #[.val (.int p0), .val (.int p1), .val (.int p2), .val (.int p3), .val (.int p4), .val (.ref b2), .unset, .unset, .unset, .unset, .unset, .unset, .unset, .unset, .unset] [(.int (51 : Int32)), (.int (6 : Int32)), (.ref b78), (.ref b78)])) _
    refine st92 _ ?_
    show Steps p.tables e below (T92.setTop (mkF m 167 #[.val (.int p0), .val (.int p1), .val (.int p2), .val (.int p3), .val (.int p4), .val (.ref b2), .unset, .unset, .unset, .unset, .unset, .unset, .unset, .unset, .unset] [(.ref b78)])) _
    refine XS.dup X92.here hx rfl (hb hby at_167) rfl rfl ?_
    show Steps p.tables e below (T92.setTop (mkF m 168 #[.val (.int p0), .val (.int p1), .val (.int p2), .val (.int p3), .val (.int p4), .val (.ref b2), .unset, .unset, .unset, .unset, .unset, .unset, .unset, .unset, .unset] [(.ref b78), (.ref b78)])) _
    refine XS.bipush X92.here hx rfl (hb hby at_168) ?_
    show Steps p.tables e below (T92.setTop (mkF m 170 #[.val (.int p0), .val (.int p1), .val (.int p2), .val (.int p3), .val (.int p4), .val (.ref b2), .unset, .unset, .unset, .unset, .unset, .unset, .unset, .unset, .unset] [(.int (7 : Int32)), (.ref b78), (.ref b78)])) _
    refine XS.bipush X92.here hx rfl (hb hby at_170) ?_
    exact k
  obtain ⟨T94, h94, X94, e94, W94, A94, st94⟩ := own_stI X92 hx hZ e92 A92 (j := (7 : Int32)) (x := (51 : Int32)) (k := 7) (by decide) (by decide) (by decide) (g := (mkF m 172 #[.val (.int p0), .val (.int p1), .val (.int p2), .val (.int p3), .val (.int p4), .val (.ref b2), .unset, .unset, .unset, .unset, .unset, .unset, .unset, .unset, .unset] [(.int (51 : Int32)), (.int (7 : Int32)), (.ref b78), (.ref b78)])) rfl rfl (hb hby at_172)
  obtain ⟨g_172, hg_172⟩ : ∃ z : Nat → Int32, z = (own_upd g_166 7 (51 : Int32)) := ⟨_, rfl⟩
  rw [← hg_172] at A94
  have arr_b2_94 := arr_b2_92.other W94 ne_b2_b78
  have K94 := K92.wr W94 (Or.inr sz_b78)
  have Z94 := Nat.le_trans Z92 (Nat.le_of_eq W94.size.symm)
  have N94 := Fr.snoc X94 N92 ge_b78
  have pre95 : ∀ t, Steps p.tables e below (T94.setTop (mkF m 178 #[.val (.int p0), .val (.int p1), .val (.int p2), .val (.int p3), .val (.int p4), .val (.ref b2), .unset, .unset, .unset, .unset, .unset, .unset, .unset, .unset, .unset] [(.int (51 : Int32)), (.int (8 : Int32)), (.ref b78), (.ref b78)])) t → Steps p.tables e below (s₁.setTop (entryFrame m #[(.int p0), (.int p1), (.int p2), (.int p3), (.int p4)] maxLocals)) t := by
    intro t k
    refine pre93 t ?_
    show Steps p.tables e below (T92.setTop (mkF m 172 #[.val (.int p0), .val (.int p1), .val (.int p2), .val (.int p3), .val (.int p4), .val (.ref b2), .unset, .unset, .unset, .unset, .unset, .unset, .unset, .unset, .unset] [(.int (51 : Int32)), (.int (7 : Int32)), (.ref b78), (.ref b78)])) _
    refine st94 _ ?_
    show Steps p.tables e below (T94.setTop (mkF m 173 #[.val (.int p0), .val (.int p1), .val (.int p2), .val (.int p3), .val (.int p4), .val (.ref b2), .unset, .unset, .unset, .unset, .unset, .unset, .unset, .unset, .unset] [(.ref b78)])) _
    refine XS.dup X94.here hx rfl (hb hby at_173) rfl rfl ?_
    show Steps p.tables e below (T94.setTop (mkF m 174 #[.val (.int p0), .val (.int p1), .val (.int p2), .val (.int p3), .val (.int p4), .val (.ref b2), .unset, .unset, .unset, .unset, .unset, .unset, .unset, .unset, .unset] [(.ref b78), (.ref b78)])) _
    refine XS.bipush X94.here hx rfl (hb hby at_174) ?_
    show Steps p.tables e below (T94.setTop (mkF m 176 #[.val (.int p0), .val (.int p1), .val (.int p2), .val (.int p3), .val (.int p4), .val (.ref b2), .unset, .unset, .unset, .unset, .unset, .unset, .unset, .unset, .unset] [(.int (8 : Int32)), (.ref b78), (.ref b78)])) _
    refine XS.bipush X94.here hx rfl (hb hby at_176) ?_
    exact k
  obtain ⟨T96, h96, X96, e96, W96, A96, st96⟩ := own_stI X94 hx hZ e94 A94 (j := (8 : Int32)) (x := (51 : Int32)) (k := 8) (by decide) (by decide) (by decide) (g := (mkF m 178 #[.val (.int p0), .val (.int p1), .val (.int p2), .val (.int p3), .val (.int p4), .val (.ref b2), .unset, .unset, .unset, .unset, .unset, .unset, .unset, .unset, .unset] [(.int (51 : Int32)), (.int (8 : Int32)), (.ref b78), (.ref b78)])) rfl rfl (hb hby at_178)
  obtain ⟨g_178, hg_178⟩ : ∃ z : Nat → Int32, z = (own_upd g_172 8 (51 : Int32)) := ⟨_, rfl⟩
  rw [← hg_178] at A96
  have arr_b2_96 := arr_b2_94.other W96 ne_b2_b78
  have K96 := K94.wr W96 (Or.inr sz_b78)
  have Z96 := Nat.le_trans Z94 (Nat.le_of_eq W96.size.symm)
  have N96 := Fr.snoc X96 N94 ge_b78
  have pre97 : ∀ t, Steps p.tables e below (T96.setTop (mkF m 184 #[.val (.int p0), .val (.int p1), .val (.int p2), .val (.int p3), .val (.int p4), .val (.ref b2), .unset, .unset, .unset, .unset, .unset, .unset, .unset, .unset, .unset] [(.int (51 : Int32)), (.int (9 : Int32)), (.ref b78), (.ref b78)])) t → Steps p.tables e below (s₁.setTop (entryFrame m #[(.int p0), (.int p1), (.int p2), (.int p3), (.int p4)] maxLocals)) t := by
    intro t k
    refine pre95 t ?_
    show Steps p.tables e below (T94.setTop (mkF m 178 #[.val (.int p0), .val (.int p1), .val (.int p2), .val (.int p3), .val (.int p4), .val (.ref b2), .unset, .unset, .unset, .unset, .unset, .unset, .unset, .unset, .unset] [(.int (51 : Int32)), (.int (8 : Int32)), (.ref b78), (.ref b78)])) _
    refine st96 _ ?_
    show Steps p.tables e below (T96.setTop (mkF m 179 #[.val (.int p0), .val (.int p1), .val (.int p2), .val (.int p3), .val (.int p4), .val (.ref b2), .unset, .unset, .unset, .unset, .unset, .unset, .unset, .unset, .unset] [(.ref b78)])) _
    refine XS.dup X96.here hx rfl (hb hby at_179) rfl rfl ?_
    show Steps p.tables e below (T96.setTop (mkF m 180 #[.val (.int p0), .val (.int p1), .val (.int p2), .val (.int p3), .val (.int p4), .val (.ref b2), .unset, .unset, .unset, .unset, .unset, .unset, .unset, .unset, .unset] [(.ref b78), (.ref b78)])) _
    refine XS.bipush X96.here hx rfl (hb hby at_180) ?_
    show Steps p.tables e below (T96.setTop (mkF m 182 #[.val (.int p0), .val (.int p1), .val (.int p2), .val (.int p3), .val (.int p4), .val (.ref b2), .unset, .unset, .unset, .unset, .unset, .unset, .unset, .unset, .unset] [(.int (9 : Int32)), (.ref b78), (.ref b78)])) _
    refine XS.bipush X96.here hx rfl (hb hby at_182) ?_
    exact k
  obtain ⟨T98, h98, X98, e98, W98, A98, st98⟩ := own_stI X96 hx hZ e96 A96 (j := (9 : Int32)) (x := (51 : Int32)) (k := 9) (by decide) (by decide) (by decide) (g := (mkF m 184 #[.val (.int p0), .val (.int p1), .val (.int p2), .val (.int p3), .val (.int p4), .val (.ref b2), .unset, .unset, .unset, .unset, .unset, .unset, .unset, .unset, .unset] [(.int (51 : Int32)), (.int (9 : Int32)), (.ref b78), (.ref b78)])) rfl rfl (hb hby at_184)
  obtain ⟨g_184, hg_184⟩ : ∃ z : Nat → Int32, z = (own_upd g_178 9 (51 : Int32)) := ⟨_, rfl⟩
  rw [← hg_184] at A98
  have arr_b2_98 := arr_b2_96.other W98 ne_b2_b78
  have K98 := K96.wr W98 (Or.inr sz_b78)
  have Z98 := Nat.le_trans Z96 (Nat.le_of_eq W98.size.symm)
  have N98 := Fr.snoc X98 N96 ge_b78
  have pre99 : ∀ t, Steps p.tables e below (T98.setTop (mkF m 190 #[.val (.int p0), .val (.int p1), .val (.int p2), .val (.int p3), .val (.int p4), .val (.ref b2), .unset, .unset, .unset, .unset, .unset, .unset, .unset, .unset, .unset] [(.int (51 : Int32)), (.int (10 : Int32)), (.ref b78), (.ref b78)])) t → Steps p.tables e below (s₁.setTop (entryFrame m #[(.int p0), (.int p1), (.int p2), (.int p3), (.int p4)] maxLocals)) t := by
    intro t k
    refine pre97 t ?_
    show Steps p.tables e below (T96.setTop (mkF m 184 #[.val (.int p0), .val (.int p1), .val (.int p2), .val (.int p3), .val (.int p4), .val (.ref b2), .unset, .unset, .unset, .unset, .unset, .unset, .unset, .unset, .unset] [(.int (51 : Int32)), (.int (9 : Int32)), (.ref b78), (.ref b78)])) _
    refine st98 _ ?_
    show Steps p.tables e below (T98.setTop (mkF m 185 #[.val (.int p0), .val (.int p1), .val (.int p2), .val (.int p3), .val (.int p4), .val (.ref b2), .unset, .unset, .unset, .unset, .unset, .unset, .unset, .unset, .unset] [(.ref b78)])) _
    refine XS.dup X98.here hx rfl (hb hby at_185) rfl rfl ?_
    show Steps p.tables e below (T98.setTop (mkF m 186 #[.val (.int p0), .val (.int p1), .val (.int p2), .val (.int p3), .val (.int p4), .val (.ref b2), .unset, .unset, .unset, .unset, .unset, .unset, .unset, .unset, .unset] [(.ref b78), (.ref b78)])) _
    refine XS.bipush X98.here hx rfl (hb hby at_186) ?_
    show Steps p.tables e below (T98.setTop (mkF m 188 #[.val (.int p0), .val (.int p1), .val (.int p2), .val (.int p3), .val (.int p4), .val (.ref b2), .unset, .unset, .unset, .unset, .unset, .unset, .unset, .unset, .unset] [(.int (10 : Int32)), (.ref b78), (.ref b78)])) _
    refine XS.bipush X98.here hx rfl (hb hby at_188) ?_
    exact k
  obtain ⟨T100, h100, X100, e100, W100, A100, st100⟩ := own_stI X98 hx hZ e98 A98 (j := (10 : Int32)) (x := (51 : Int32)) (k := 10) (by decide) (by decide) (by decide) (g := (mkF m 190 #[.val (.int p0), .val (.int p1), .val (.int p2), .val (.int p3), .val (.int p4), .val (.ref b2), .unset, .unset, .unset, .unset, .unset, .unset, .unset, .unset, .unset] [(.int (51 : Int32)), (.int (10 : Int32)), (.ref b78), (.ref b78)])) rfl rfl (hb hby at_190)
  obtain ⟨g_190, hg_190⟩ : ∃ z : Nat → Int32, z = (own_upd g_184 10 (51 : Int32)) := ⟨_, rfl⟩
  rw [← hg_190] at A100
  have arr_b2_100 := arr_b2_98.other W100 ne_b2_b78
  have K100 := K98.wr W100 (Or.inr sz_b78)
  have Z100 := Nat.le_trans Z98 (Nat.le_of_eq W100.size.symm)
  have N100 := Fr.snoc X100 N98 ge_b78
  have pre101 : ∀ t, Steps p.tables e below (T100.setTop (mkF m 196 #[.val (.int p0), .val (.int p1), .val (.int p2), .val (.int p3), .val (.int p4), .val (.ref b2), .unset, .unset, .unset, .unset, .unset, .unset, .unset, .unset, .unset] [(.int (55 : Int32)), (.int (11 : Int32)), (.ref b78), (.ref b78)])) t → Steps p.tables e below (s₁.setTop (entryFrame m #[(.int p0), (.int p1), (.int p2), (.int p3), (.int p4)] maxLocals)) t := by
    intro t k
    refine pre99 t ?_
    show Steps p.tables e below (T98.setTop (mkF m 190 #[.val (.int p0), .val (.int p1), .val (.int p2), .val (.int p3), .val (.int p4), .val (.ref b2), .unset, .unset, .unset, .unset, .unset, .unset, .unset, .unset, .unset] [(.int (51 : Int32)), (.int (10 : Int32)), (.ref b78), (.ref b78)])) _
    refine st100 _ ?_
    show Steps p.tables e below (T100.setTop (mkF m 191 #[.val (.int p0), .val (.int p1), .val (.int p2), .val (.int p3), .val (.int p4), .val (.ref b2), .unset, .unset, .unset, .unset, .unset, .unset, .unset, .unset, .unset] [(.ref b78)])) _
    refine XS.dup X100.here hx rfl (hb hby at_191) rfl rfl ?_
    show Steps p.tables e below (T100.setTop (mkF m 192 #[.val (.int p0), .val (.int p1), .val (.int p2), .val (.int p3), .val (.int p4), .val (.ref b2), .unset, .unset, .unset, .unset, .unset, .unset, .unset, .unset, .unset] [(.ref b78), (.ref b78)])) _
    refine XS.bipush X100.here hx rfl (hb hby at_192) ?_
    show Steps p.tables e below (T100.setTop (mkF m 194 #[.val (.int p0), .val (.int p1), .val (.int p2), .val (.int p3), .val (.int p4), .val (.ref b2), .unset, .unset, .unset, .unset, .unset, .unset, .unset, .unset, .unset] [(.int (11 : Int32)), (.ref b78), (.ref b78)])) _
    refine XS.bipush X100.here hx rfl (hb hby at_194) ?_
    exact k
  obtain ⟨T102, h102, X102, e102, W102, A102, st102⟩ := own_stI X100 hx hZ e100 A100 (j := (11 : Int32)) (x := (55 : Int32)) (k := 11) (by decide) (by decide) (by decide) (g := (mkF m 196 #[.val (.int p0), .val (.int p1), .val (.int p2), .val (.int p3), .val (.int p4), .val (.ref b2), .unset, .unset, .unset, .unset, .unset, .unset, .unset, .unset, .unset] [(.int (55 : Int32)), (.int (11 : Int32)), (.ref b78), (.ref b78)])) rfl rfl (hb hby at_196)
  obtain ⟨g_196, hg_196⟩ : ∃ z : Nat → Int32, z = (own_upd g_190 11 (55 : Int32)) := ⟨_, rfl⟩
  rw [← hg_196] at A102
  have arr_b2_102 := arr_b2_100.other W102 ne_b2_b78
  have K102 := K100.wr W102 (Or.inr sz_b78)
  have Z102 := Nat.le_trans Z100 (Nat.le_of_eq W102.size.symm)
  have N102 := Fr.snoc X102 N100 ge_b78
  have pre103 : ∀ t, Steps p.tables e below (T102.setTop (mkF m 202 #[.val (.int p0), .val (.int p1), .val (.int p2), .val (.int p3), .val (.int p4), .val (.ref b2), .unset, .unset, .unset, .unset, .unset, .unset, .unset, .unset, .unset] [(.int (55 : Int32)), (.int (12 : Int32)), (.ref b78), (.ref b78)])) t → Steps p.tables e below (s₁.setTop (entryFrame m #[(.int p0), (.int p1), (.int p2), (.int p3), (.int p4)] maxLocals)) t := by
    intro t k
    refine pre101 t ?_
    show Steps p.tables e below (T100.setTop (mkF m 196 #[.val (.int p0), .val (.int p1), .val (.int p2), .val (.int p3), .val (.int p4), .val (.ref b2), .unset, .unset, .unset, .unset, .unset, .unset, .unset, .unset, .unset] [(.int (55 : Int32)), (.int (11 : Int32)), (.ref b78), (.ref b78)])) _
    refine st102 _ ?_
    show Steps p.tables e below (T102.setTop (mkF m 197 #[.val (.int p0), .val (.int p1), .val (.int p2), .val (.int p3), .val (.int p4), .val (.ref b2), .unset, .unset, .unset, .unset, .unset, .unset, .unset, .unset, .unset] [(.ref b78)])) _
    refine XS.dup X102.here hx rfl (hb hby at_197) rfl rfl ?_
    show Steps p.tables e below (T102.setTop (mkF m 198 #[.val (.int p0), .val (.int p1), .val (.int p2), .val (.int p3), .val (.int p4), .val (.ref b2), .unset, .unset, .unset, .unset, .unset, .unset, .unset, .unset, .unset] [(.ref b78), (.ref b78)])) _
    refine XS.bipush X102.here hx rfl (hb hby at_198) ?_
    show Steps p.tables e below (T102.setTop (mkF m 200 #[.val (.int p0), .val (.int p1), .val (.int p2), .val (.int p3), .val (.int p4), .val (.ref b2), .unset, .unset, .unset, .unset, .unset, .unset, .unset, .unset, .unset] [(.int (12 : Int32)), (.ref b78), (.ref b78)])) _
    refine XS.bipush X102.here hx rfl (hb hby at_200) ?_
    exact k
  obtain ⟨T104, h104, X104, e104, W104, A104, st104⟩ := own_stI X102 hx hZ e102 A102 (j := (12 : Int32)) (x := (55 : Int32)) (k := 12) (by decide) (by decide) (by decide) (g := (mkF m 202 #[.val (.int p0), .val (.int p1), .val (.int p2), .val (.int p3), .val (.int p4), .val (.ref b2), .unset, .unset, .unset, .unset, .unset, .unset, .unset, .unset, .unset] [(.int (55 : Int32)), (.int (12 : Int32)), (.ref b78), (.ref b78)])) rfl rfl (hb hby at_202)
  obtain ⟨g_202, hg_202⟩ : ∃ z : Nat → Int32, z = (own_upd g_196 12 (55 : Int32)) := ⟨_, rfl⟩
  rw [← hg_202] at A104
  have arr_b2_104 := arr_b2_102.other W104 ne_b2_b78
  have K104 := K102.wr W104 (Or.inr sz_b78)
  have Z104 := Nat.le_trans Z102 (Nat.le_of_eq W104.size.symm)
  have N104 := Fr.snoc X104 N102 ge_b78
  have pre105 : ∀ t, Steps p.tables e below (T104.setTop (mkF m 208 #[.val (.int p0), .val (.int p1), .val (.int p2), .val (.int p3), .val (.int p4), .val (.ref b2), .unset, .unset, .unset, .unset, .unset, .unset, .unset, .unset, .unset] [(.int (55 : Int32)), (.int (13 : Int32)), (.ref b78), (.ref b78)])) t → Steps p.tables e below (s₁.setTop (entryFrame m #[(.int p0), (.int p1), (.int p2), (.int p3), (.int p4)] maxLocals)) t := by
    intro t k
    refine pre103 t ?_
    show Steps p.tables e below (T102.setTop (mkF m 202 #[.val (.int p0), .val (.int p1), .val (.int p2), .val (.int p3), .val (.int p4), .val (.ref b2), .unset, .unset, .unset, .unset, .unset, .unset, .unset, .unset, .unset] [(.int (55 : Int32)), (.int (12 : Int32)), (.ref b78), (.ref b78)])) _
    refine st104 _ ?_
    show Steps p.tables e below (T104.setTop (mkF m 203 #[.val (.int p0), .val (.int p1), .val (.int p2), .val (.int p3), .val (.int p4), .val (.ref b2), .unset, .unset, .unset, .unset, .unset, .unset, .unset, .unset, .unset] [(.ref b78)])) _
    refine XS.dup X104.here hx rfl (hb hby at_203) rfl rfl ?_
    show Steps p.tables e below (T104.setTop (mkF m 204 #[.val (.int p0), .val (.int p1), .val (.int p2), .val (.int p3), .val (.int p4), .val (.ref b2), .unset, .unset, .unset, .unset, .unset, .unset, .unset, .unset, .unset] [(.ref b78), (.ref b78)])) _
    refine XS.bipush X104.here hx rfl (hb hby at_204) ?_
    show Steps p.tables e below (T104.setTop (mkF m 206 #[.val (.int p0), .val (.int p1), .val (.int p2), .val (.int p3), .val (.int p4), .val (.ref b2), .unset, .unset, .unset, .unset, .unset, .unset, .unset, .unset, .unset] [(.int (13 : Int32)), (.ref b78), (.ref b78)])) _
    refine XS.bipush X104.here hx rfl (hb hby at_206) ?_
    exact k
  obtain ⟨T106, h106, X106, e106, W106, A106, st106⟩ := own_stI X104 hx hZ e104 A104 (j := (13 : Int32)) (x := (55 : Int32)) (k := 13) (by decide) (by decide) (by decide) (g := (mkF m 208 #[.val (.int p0), .val (.int p1), .val (.int p2), .val (.int p3), .val (.int p4), .val (.ref b2), .unset, .unset, .unset, .unset, .unset, .unset, .unset, .unset, .unset] [(.int (55 : Int32)), (.int (13 : Int32)), (.ref b78), (.ref b78)])) rfl rfl (hb hby at_208)
  obtain ⟨g_208, hg_208⟩ : ∃ z : Nat → Int32, z = (own_upd g_202 13 (55 : Int32)) := ⟨_, rfl⟩
  rw [← hg_208] at A106
  have arr_b2_106 := arr_b2_104.other W106 ne_b2_b78
  have K106 := K104.wr W106 (Or.inr sz_b78)
  have Z106 := Nat.le_trans Z104 (Nat.le_of_eq W106.size.symm)
  have N106 := Fr.snoc X106 N104 ge_b78
  have pre107 : ∀ t, Steps p.tables e below (T106.setTop (mkF m 214 #[.val (.int p0), .val (.int p1), .val (.int p2), .val (.int p3), .val (.int p4), .val (.ref b2), .unset, .unset, .unset, .unset, .unset, .unset, .unset, .unset, .unset] [(.int (55 : Int32)), (.int (14 : Int32)), (.ref b78), (.ref b78)])) t → Steps p.tables e below (s₁.setTop (entryFrame m #[(.int p0), (.int p1), (.int p2), (.int p3), (.int p4)] maxLocals)) t := by
    intro t k
    refine pre105 t ?_
    show Steps p.tables e below (T104.setTop (mkF m 208 #[.val (.int p0), .val (.int p1), .val (.int p2), .val (.int p3), .val (.int p4), .val (.ref b2), .unset, .unset, .unset, .unset, .unset, .unset, .unset, .unset, .unset] [(.int (55 : Int32)), (.int (13 : Int32)), (.ref b78), (.ref b78)])) _
    refine st106 _ ?_
    show Steps p.tables e below (T106.setTop (mkF m 209 #[.val (.int p0), .val (.int p1), .val (.int p2), .val (.int p3), .val (.int p4), .val (.ref b2), .unset, .unset, .unset, .unset, .unset, .unset, .unset, .unset, .unset] [(.ref b78)])) _
    refine XS.dup X106.here hx rfl (hb hby at_209) rfl rfl ?_
    show Steps p.tables e below (T106.setTop (mkF m 210 #[.val (.int p0), .val (.int p1), .val (.int p2), .val (.int p3), .val (.int p4), .val (.ref b2), .unset, .unset, .unset, .unset, .unset, .unset, .unset, .unset, .unset] [(.ref b78), (.ref b78)])) _
    refine XS.bipush X106.here hx rfl (hb hby at_210) ?_
    show Steps p.tables e below (T106.setTop (mkF m 212 #[.val (.int p0), .val (.int p1), .val (.int p2), .val (.int p3), .val (.int p4), .val (.ref b2), .unset, .unset, .unset, .unset, .unset, .unset, .unset, .unset, .unset] [(.int (14 : Int32)), (.ref b78), (.ref b78)])) _
    refine XS.bipush X106.here hx rfl (hb hby at_212) ?_
    exact k
  obtain ⟨T108, h108, X108, e108, W108, A108, st108⟩ := own_stI X106 hx hZ e106 A106 (j := (14 : Int32)) (x := (55 : Int32)) (k := 14) (by decide) (by decide) (by decide) (g := (mkF m 214 #[.val (.int p0), .val (.int p1), .val (.int p2), .val (.int p3), .val (.int p4), .val (.ref b2), .unset, .unset, .unset, .unset, .unset, .unset, .unset, .unset, .unset] [(.int (55 : Int32)), (.int (14 : Int32)), (.ref b78), (.ref b78)])) rfl rfl (hb hby at_214)
  obtain ⟨g_214, hg_214⟩ : ∃ z : Nat → Int32, z = (own_upd g_208 14 (55 : Int32)) := ⟨_, rfl⟩
  rw [← hg_214] at A108
  have arr_b2_108 := arr_b2_106.other W108 ne_b2_b78
  have K108 := K106.wr W108 (Or.inr sz_b78)
  have Z108 := Nat.le_trans Z106 (Nat.le_of_eq W108.size.symm)
  have N108 := Fr.snoc X108 N106 ge_b78
  have pre109 : ∀ t, Steps p.tables e below (T108.setTop (mkF m 220 #[.val (.int p0), .val (.int p1), .val (.int p2), .val (.int p3), .val (.int p4), .val (.ref b2), .unset, .unset, .unset, .unset, .unset, .unset, .unset, .unset, .unset] [(.int (55 : Int32)), (.int (15 : Int32)), (.ref b78), (.ref b78)])) t → Steps p.tables e below (s₁.setTop (entryFrame m #[(.int p0), (.int p1), (.int p2), (.int p3), (.int p4)] maxLocals)) t := by
    intro t k
    refine pre107 t ?_
    show Steps p.tables e below (T106.setTop (mkF m 214 #[.val (.int p0), .val (.int p1), .val (.int p2), .val (.int p3), .val (.int p4), .val (.ref b2), .unset, .unset, .unset, .unset, .unset, .unset, .unset, .unset, .unset] [(.int (55 : Int32)), (.int (14 : Int32)), (.ref b78), (.ref b78)])) _
    refine st108 _ ?_
    show Steps p.tables e below (T108.setTop (mkF m 215 #[.val (.int p0), .val (.int p1), .val (.int p2), .val (.int p3), .val (.int p4), .val (.ref b2), .unset, .unset, .unset, .unset, .unset, .unset, .unset, .unset, .unset] [(.ref b78)])) _
    refine XS.dup X108.here hx rfl (hb hby at_215) rfl rfl ?_
    show Steps p.tables e below (T108.setTop (mkF m 216 #[.val (.int p0), .val (.int p1), .val (.int p2), .val (.int p3), .val (.int p4), .val (.ref b2), .unset, .unset, .unset, .unset, .unset, .unset, .unset, .unset, .unset] [(.ref b78), (.ref b78)])) _
    refine XS.bipush X108.here hx rfl (hb hby at_216) ?_
    show Steps p.tables e below (T108.setTop (mkF m 218 #[.val (.int p0), .val (.int p1), .val (.int p2), .val (.int p3), .val (.int p4), .val (.ref b2), .unset, .unset, .unset, .unset, .unset, .unset, .unset, .unset, .unset] [(.int (15 : Int32)), (.ref b78), (.ref b78)])) _
    refine XS.bipush X108.here hx rfl (hb hby at_218) ?_
    exact k
  obtain ⟨T110, h110, X110, e110, W110, A110, st110⟩ := own_stI X108 hx hZ e108 A108 (j := (15 : Int32)) (x := (55 : Int32)) (k := 15) (by decide) (by decide) (by decide) (g := (mkF m 220 #[.val (.int p0), .val (.int p1), .val (.int p2), .val (.int p3), .val (.int p4), .val (.ref b2), .unset, .unset, .unset, .unset, .unset, .unset, .unset, .unset, .unset] [(.int (55 : Int32)), (.int (15 : Int32)), (.ref b78), (.ref b78)])) rfl rfl (hb hby at_220)
  obtain ⟨g_220, hg_220⟩ : ∃ z : Nat → Int32, z = (own_upd g_214 15 (55 : Int32)) := ⟨_, rfl⟩
  rw [← hg_220] at A110
  have arr_b2_110 := arr_b2_108.other W110 ne_b2_b78
  have K110 := K108.wr W110 (Or.inr sz_b78)
  have Z110 := Nat.le_trans Z108 (Nat.le_of_eq W110.size.symm)
  have N110 := Fr.snoc X110 N108 ge_b78
  have pre111 : ∀ t, Steps p.tables e below (T110.setTop (mkF m 226 #[.val (.int p0), .val (.int p1), .val (.int p2), .val (.int p3), .val (.int p4), .val (.ref b2), .unset, .unset, .unset, .unset, .unset, .unset, .unset, .unset, .unset] [(.int (55 : Int32)), (.int (16 : Int32)), (.ref b78), (.ref b78)])) t → Steps p.tables e below (s₁.setTop (entryFrame m #[(.int p0), (.int p1), (.int p2), (.int p3), (.int p4)] maxLocals)) t := by
    intro t k
    refine pre109 t ?_
    show Steps p.tables e below (T108.setTop (mkF m 220 #[.val (.int p0), .val (.int p1), .val (.int p2), .val (.int p3), .val (.int p4), .val (.ref b2), .unset, .unset, .unset, .unset, .unset, .unset, .unset, .unset, .unset] [(.int (55 : Int32)), (.int (15 : Int32)), (.ref b78), (.ref b78)])) _
    refine st110 _ ?_
    show Steps p.tables e below (T110.setTop (mkF m 221 #[.val (.int p0), .val (.int p1), .val (.int p2), .val (.int p3), .val (.int p4), .val (.ref b2), .unset, .unset, .unset, .unset, .unset, .unset, .unset, .unset, .unset] [(.ref b78)])) _
    refine XS.dup X110.here hx rfl (hb hby at_221) rfl rfl ?_
    show Steps p.tables e below (T110.setTop (mkF m 222 #[.val (.int p0), .val (.int p1), .val (.int p2), .val (.int p3), .val (.int p4), .val (.ref b2), .unset, .unset, .unset, .unset, .unset, .unset, .unset, .unset, .unset] [(.ref b78), (.ref b78)])) _
    refine XS.bipush X110.here hx rfl (hb hby at_222) ?_
    show Steps p.tables e below (T110.setTop (mkF m 224 #[.val (.int p0), .val (.int p1), .val (.int p2), .val (.int p3), .val (.int p4), .val (.ref b2), .unset, .unset, .unset, .unset, .unset, .unset, .unset, .unset, .unset] [(.int (16 : Int32)), (.ref b78), (.ref b78)])) _
    refine XS.bipush X110.here hx rfl (hb hby at_224) ?_
    exact k
  obtain ⟨T112, h112, X112, e112, W112, A112, st112⟩ := own_stI X110 hx hZ e110 A110 (j := (16 : Int32)) (x := (55 : Int32)) (k := 16) (by decide) (by decide) (by decide) (g := (mkF m 226 #[.val (.int p0), .val (.int p1), .val (.int p2), .val (.int p3), .val (.int p4), .val (.ref b2), .unset, .unset, .unset, .unset, .unset, .unset, .unset, .unset, .unset] [(.int (55 : Int32)), (.int (16 : Int32)), (.ref b78), (.ref b78)])) rfl rfl (hb hby at_226)
  obtain ⟨g_226, hg_226⟩ : ∃ z : Nat → Int32, z = (own_upd g_220 16 (55 : Int32)) := ⟨_, rfl⟩
  rw [← hg_226] at A112
  have arr_b2_112 := arr_b2_110.other W112 ne_b2_b78
  have K112 := K110.wr W112 (Or.inr sz_b78)
  have Z112 := Nat.le_trans Z110 (Nat.le_of_eq W112.size.symm)
  have N112 := Fr.snoc X112 N110 ge_b78
  have pre113 : ∀ t, Steps p.tables e below (T112.setTop (mkF m 232 #[.val (.int p0), .val (.int p1), .val (.int p2), .val (.int p3), .val (.int p4), .val (.ref b2), .unset, .unset, .unset, .unset, .unset, .unset, .unset, .unset, .unset] [(.int (55 : Int32)), (.int (17 : Int32)), (.ref b78), (.ref b78)])) t → Steps p.tables e below (s₁.setTop (entryFrame m #[(.int p0), (.int p1), (.int p2), (.int p3), (.int p4)] maxLocals)) t := by
    intro t k
    refine pre111 t ?_
    show Steps p.tables e below (T110.setTop (mkF m 226 #[.val (.int p0), .val (.int p1), .val (.int p2), .val (.int p3), .val (.int p4), .val (.ref b2), .unset, .unset, .unset, .unset, .unset, .unset, .unset, .unset, .unset] [(.int (55 : Int32)), (.int (16 : Int32)), (.ref b78), (.ref b78)])) _
    refine st112 _ ?_
    show Steps p.tables e below (T112.setTop (mkF m 227 #[.val (.int p0), .val (.int p1), .val (.int p2), .val (.int p3), .val (.int p4), .val (.ref b2), .unset, .unset, .unset, .unset, .unset, .unset, .unset, .unset, .unset] [(.ref b78)])) _
    refine XS.dup X112.here hx rfl (hb hby at_227) rfl rfl ?_
    show Steps p.tables e below (T112.setTop (mkF m 228 #[.val (.int p0), .val (.int p1), .val (.int p2), .val (.int p3), .val (.int p4), .val (.ref b2), .unset, .unset, .unset, .unset, .unset, .unset, .unset, .unset, .unset] [(.ref b78), (.ref b78)])) _
    refine XS.bipush X112.here hx rfl (hb hby at_228) ?_
    show Steps p.tables e below (T112.setTop (mkF m 230 #[.val (.int p0), .val (.int p1), .val (.int p2), .val (.int p3), .val (.int p4), .val (.ref b2), .unset, .unset, .unset, .unset, .unset, .unset, .unset, .unset, .unset] [(.int (17 : Int32)), (.ref b78), (.ref b78)])) _
    refine XS.bipush X112.here hx rfl (hb hby at_230) ?_
    exact k
  obtain ⟨T114, h114, X114, e114, W114, A114, st114⟩ := own_stI X112 hx hZ e112 A112 (j := (17 : Int32)) (x := (55 : Int32)) (k := 17) (by decide) (by decide) (by decide) (g := (mkF m 232 #[.val (.int p0), .val (.int p1), .val (.int p2), .val (.int p3), .val (.int p4), .val (.ref b2), .unset, .unset, .unset, .unset, .unset, .unset, .unset, .unset, .unset] [(.int (55 : Int32)), (.int (17 : Int32)), (.ref b78), (.ref b78)])) rfl rfl (hb hby at_232)
  obtain ⟨g_232, hg_232⟩ : ∃ z : Nat → Int32, z = (own_upd g_226 17 (55 : Int32)) := ⟨_, rfl⟩
  rw [← hg_232] at A114
  have arr_b2_114 := arr_b2_112.other W114 ne_b2_b78
  have K114 := K112.wr W114 (Or.inr sz_b78)
  have Z114 := Nat.le_trans Z112 (Nat.le_of_eq W114.size.symm)
  have N114 := Fr.snoc X114 N112 ge_b78
  have pre115 : ∀ t, Steps p.tables e below (T114.setTop (mkF m 233 #[.val (.int p0), .val (.int p1), .val (.int p2), .val (.int p3), .val (.int p4), .val (.ref b2), .unset, .unset, .unset, .unset, .unset, .unset, .unset, .unset, .unset] [(.ref b78)])) t → Steps p.tables e below (s₁.setTop (entryFrame m #[(.int p0), (.int p1), (.int p2), (.int p3), (.int p4)] maxLocals)) t := by
    intro t k
    refine pre113 t ?_
    show Steps p.tables e below (T112.setTop (mkF m 232 #[.val (.int p0), .val (.int p1), .val (.int p2), .val (.int p3), .val (.int p4), .val (.ref b2), .unset, .unset, .unset, .unset, .unset, .unset, .unset, .unset, .unset] [(.int (55 : Int32)), (.int (17 : Int32)), (.ref b78), (.ref b78)])) _
    refine st114 _ ?_
    exact k
  have AR116 : own_A Z h114 b78 .int 18 (fun i => .int (own_cd i)) := A114.congr (fun i hi => congrArg Value.int (by rw [hg_232, hg_226, hg_220, hg_214, hg_208, hg_202, hg_196, hg_190, hg_184, hg_178, hg_172, hg_166, hg_160, hg_155, hg_150, hg_145, hg_140, hg_135]; exact own_cd_eq i hi))
  have pre117 : ∀ t, Steps p.tables e below (T114.setTop (mkF m 237 #[.val (.int p0), .val (.int p1), .val (.int p2), .val (.int p3), .val (.int p4), .val (.ref b2), .val (.ref b78), .unset, .unset, .unset, .unset, .unset, .unset, .unset, .unset] [(.int (18 : Int32))])) t → Steps p.tables e below (s₁.setTop (entryFrame m #[(.int p0), (.int p1), (.int p2), (.int p3), (.int p4)] maxLocals)) t := by
    intro t k
    refine pre115 t ?_
    show Steps p.tables e below (T114.setTop (mkF m 233 #[.val (.int p0), .val (.int p1), .val (.int p2), .val (.int p3), .val (.int p4), .val (.ref b2), .unset, .unset, .unset, .unset, .unset, .unset, .unset, .unset, .unset] [(.ref b78)])) _
    refine XS.astore X114.here hx rfl (hb hby at_233) rfl rfl (l' := #[.val (.int p0), .val (.int p1), .val (.int p2), .val (.int p3), .val (.int p4), .val (.ref b2), .val (.ref b78), .unset, .unset, .unset, .unset, .unset, .unset, .unset, .unset]) rfl ?_
    show Steps p.tables e below (T114.setTop (mkF m 235 #[.val (.int p0), .val (.int p1), .val (.int p2), .val (.int p3), .val (.int p4), .val (.ref b2), .val (.ref b78), .unset, .unset, .unset, .unset, .unset, .unset, .unset, .unset] [])) _
    refine XS.bipush X114.here hx rfl (hb hby at_235) ?_
    exact k
  obtain ⟨T118, h118, b118, gb118, X118, e118, E118, A118, st118⟩ := own_newP X114 hx hZ (hw _ (List.mem_of_getElem? (i := 40) rfl)) e114 (g := (mkF m 237 #[.val (.int p0), .val (.int p1), .val (.int p2), .val (.int p3), .val (.int p4), .val (.ref b2), .val (.ref b78), .unset, .unset, .unset, .unset, .unset, .unset, .unset, .unset] [(.int (18 : Int32))])) rfl (hb hby at_237) rfl (by decide) (n := 18) rfl (G := fun i => .int (own_zI i)) (fun _ => rfl) (cap := 18) (by decide) (by decide) (by decide) (by decide)
  have ne_b2_b118 : b2 ≠ b118 := Nat.ne_of_lt (Nat.lt_of_lt_of_le arr_b2_114.lt (Nat.le_of_eq gb118.symm))
  have ne_b78_b118 : b78 ≠ b118 := Nat.ne_of_lt (Nat.lt_of_lt_of_le AR116.lt (Nat.le_of_eq gb118.symm))
  have sz_b118 : h0.size ≤ b118 := Nat.le_trans K114.1 (Nat.le_of_eq gb118.symm)
  have ge_b118 : n0 ≤ b118 := Nat.le_trans Z114 (Nat.le_of_eq gb118.symm)
  have arr_b2_118 := arr_b2_114.ext E118
  have arr_b78_118 := AR116.ext E118
  have K118 := K114.ext E118
  have Z118 := Nat.le_trans Z114 E118.1
  have pre119 : ∀ t, Steps p.tables e below (T118.setTop (mkF m 243 #[.val (.int p0), .val (.int p1), .val (.int p2), .val (.int p3), .val (.int p4), .val (.ref b2), .val (.ref b78), .unset, .unset, .unset, .unset, .unset, .unset, .unset, .unset] [(.int (48 : Int32)), (.int (0 : Int32)), (.ref b118), (.ref b118)])) t → Steps p.tables e below (s₁.setTop (entryFrame m #[(.int p0), (.int p1), (.int p2), (.int p3), (.int p4)] maxLocals)) t := by
    intro t k
    refine pre117 t ?_
    show Steps p.tables e below (T114.setTop (mkF m 237 #[.val (.int p0), .val (.int p1), .val (.int p2), .val (.int p3), .val (.int p4), .val (.ref b2), .val (.ref b78), .unset, .unset, .unset, .unset, .unset, .unset, .unset, .unset] [(.int (18 : Int32))])) _
    refine st118 _ ?_
    show Steps p.tables e below (T118.setTop (mkF m 239 #[.val (.int p0), .val (.int p1), .val (.int p2), .val (.int p3), .val (.int p4), .val (.ref b2), .val (.ref b78), .unset, .unset, .unset, .unset, .unset, .unset, .unset, .unset] [(.ref b118)])) _
    refine XS.dup X118.here hx rfl (hb hby at_239) rfl rfl ?_
    show Steps p.tables e below (T118.setTop (mkF m 240 #[.val (.int p0), .val (.int p1), .val (.int p2), .val (.int p3), .val (.int p4), .val (.ref b2), .val (.ref b78), .unset, .unset, .unset, .unset, .unset, .unset, .unset, .unset] [(.ref b118), (.ref b118)])) _
    refine XS.iconst X118.here hx rfl (hb hby at_240) ?_
    show Steps p.tables e below (T118.setTop (mkF m 241 #[.val (.int p0), .val (.int p1), .val (.int p2), .val (.int p3), .val (.int p4), .val (.ref b2), .val (.ref b78), .unset, .unset, .unset, .unset, .unset, .unset, .unset, .unset] [(.int (0 : Int32)), (.ref b118), (.ref b118)])) _
    refine XS.bipush X118.here hx rfl (hb hby at_241) ?_
    exact k
  obtain ⟨T120, h120, X120, e120, W120, A120, st120⟩ := own_stI X118 hx hZ e118 A118 (j := (0 : Int32)) (x := (48 : Int32)) (k := 0) (by decide) (by decide) (by decide) (g := (mkF m 243 #[.val (.int p0), .val (.int p1), .val (.int p2), .val (.int p3), .val (.int p4), .val (.ref b2), .val (.ref b78), .unset, .unset, .unset, .unset, .unset, .unset, .unset, .unset] [(.int (48 : Int32)), (.int (0 : Int32)), (.ref b118), (.ref b118)])) rfl rfl (hb hby at_243)
  obtain ⟨g_243, hg_243⟩ : ∃ z : Nat → Int32, z = (own_upd own_zI 0 (48 : Int32)) := ⟨_, rfl⟩
  rw [← hg_243] at A120
  have arr_b2_120 := arr_b2_118.other W120 ne_b2_b118
  have arr_b78_120 := arr_b78_118.other W120 ne_b78_b118
  have K120 := K118.wr W120 (Or.inr sz_b118)
  have Z120 := Nat.le_trans Z118 (Nat.le_of_eq W120.size.symm)
  have N120 := Fr.snoc X120 N114 ge_b118
  have pre121 : ∀ t, Steps p.tables e below (T120.setTop (mkF m 248 #[.val (.int p0), .val (.int p1), .val (.int p2), .val (.int p3), .val (.int p4), .val (.ref b2), .val (.ref b78), .unset, .unset, .unset, .unset, .unset, .unset, .unset, .unset] [(.int (48 : Int32)), (.int (1 : Int32)), (.ref b118), (.ref b118)])) t → Steps p.tables e below (s₁.setTop (entryFrame m #[(.int p0), (.int p1), (.int p2), (.int p3), (.int p4)] maxLocals)) t := by
    intro t k
    refine pre119 t ?_
    show Steps p.tables e below (T118.setTop (mkF m 243 #[.val (.int p0), .val (.int p1), .val (.int p2), .val (.int p3), .val (.int p4), .val (.ref b2), .val (.ref b78), .unset, .unset, .unset, .unset, .unset, .unset, .unset, .unset] [(.int (48 : Int32)), (.int (0 : Int32)), (.ref b118), (.ref b118)])) _
    refine st120 _ ?_
    show Steps p.tables e below (T120.setTop (mkF m 244 #[.val (.int p0), .val (.int p1), .val (.int p2), .val (.int p3), .val (.int p4), .val (.ref b2), .val (.ref b78), .unset, .unset, .unset, .unset, .unset, .unset, .unset, .unset] [(.ref b118)])) _
    refine XS.dup X120.here hx rfl (hb hby at_244) rfl rfl ?_
    show Steps p.tables e below (T120.setTop (mkF m 245 #[.val (.int p0), .val (.int p1), .val (.int p2), .val (.int p3), .val (.int p4), .val (.ref b2), .val (.ref b78), .unset, .unset, .unset, .unset, .unset, .unset, .unset, .unset] [(.ref b118), (.ref b118)])) _
    refine XS.iconst X120.here hx rfl (hb hby at_245) ?_
    show Steps p.tables e below (T120.setTop (mkF m 246 #[.val (.int p0), .val (.int p1), .val (.int p2), .val (.int p3), .val (.int p4), .val (.ref b2), .val (.ref b78), .unset, .unset, .unset, .unset, .unset, .unset, .unset, .unset] [(.int (1 : Int32)), (.ref b118), (.ref b118)])) _
    refine XS.bipush X120.here hx rfl (hb hby at_246) ?_
    exact k
  obtain ⟨T122, h122, X122, e122, W122, A122, st122⟩ := own_stI X120 hx hZ e120 A120 (j := (1 : Int32)) (x := (48 : Int32)) (k := 1) (by decide) (by decide) (by decide) (g := (mkF m 248 #[.val (.int p0), .val (.int p1), .val (.int p2), .val (.int p3), .val (.int p4), .val (.ref b2), .val (.ref b78), .unset, .unset, .unset, .unset, .unset, .unset, .unset, .unset] [(.int (48 : Int32)), (.int (1 : Int32)), (.ref b118), (.ref b118)])) rfl rfl (hb hby at_248)
  obtain ⟨g_248, hg_248⟩ : ∃ z : Nat → Int32, z = (own_upd g_243 1 (48 : Int32)) := ⟨_, rfl⟩
  rw [← hg_248] at A122
  have arr_b2_122 := arr_b2_120.other W122 ne_b2_b118
  have arr_b78_122 := arr_b78_120.other W122 ne_b78_b118
  have K122 := K120.wr W122 (Or.inr sz_b118)
  have Z122 := Nat.le_trans Z120 (Nat.le_of_eq W122.size.symm)
  have N122 := Fr.snoc X122 N120 ge_b118
  have pre123 : ∀ t, Steps p.tables e below (T122.setTop (mkF m 253 #[.val (.int p0), .val (.int p1), .val (.int p2), .val (.int p3), .val (.int p4), .val (.ref b2), .val (.ref b78), .unset, .unset, .unset, .unset, .unset, .unset, .unset, .unset] [(.int (48 : Int32)), (.int (2 : Int32)), (.ref b118), (.ref b118)])) t → Steps p.tables e below (s₁.setTop (entryFrame m #[(.int p0), (.int p1), (.int p2), (.int p3), (.int p4)] maxLocals)) t := by
    intro t k
    refine pre121 t ?_
    show Steps p.tables e below (T120.setTop (mkF m 248 #[.val (.int p0), .val (.int p1), .val (.int p2), .val (.int p3), .val (.int p4), .val (.ref b2), .val (.ref b78), .unset, .unset, .unset, .unset, .unset, .unset, .unset, .unset] [(.int (48 : Int32)), (.int (1 : Int32)), (.ref b118), (.ref b118)])) _
    refine st122 _ ?_
    show Steps p.tables e below (T122.setTop (mkF m 249 #[.val (.int p0), .val (.int p1), .val (.int p2), .val (.int p3), .val (.int p4), .val (.ref b2), .val (.ref b78), .unset, .unset, .unset, .unset, .unset, .unset, .unset, .unset] [(.ref b118)])) _
    refine XS.dup X122.here hx rfl (hb hby at_249) rfl rfl ?_
    show Steps p.tables e below (T122.setTop (mkF m 250 #[.val (.int p0), .val (.int p1), .val (.int p2), .val (.int p3), .val (.int p4), .val (.ref b2), .val (.ref b78), .unset, .unset, .unset, .unset, .unset, .unset, .unset, .unset] [(.ref b118), (.ref b118)])) _
    refine XS.iconst X122.here hx rfl (hb hby at_250) ?_
    show Steps p.tables e below (T122.setTop (mkF m 251 #[.val (.int p0), .val (.int p1), .val (.int p2), .val (.int p3), .val (.int p4), .val (.ref b2), .val (.ref b78), .unset, .unset, .unset, .unset, .unset, .unset, .unset, .unset] [(.int (2 : Int32)), (.ref b118), (.ref b118)])) _
    refine XS.bipush X122.here hx rfl (hb hby at_251) ?_
    exact k
  obtain ⟨T124, h124, X124, e124, W124, A124, st124⟩ := own_stI X122 hx hZ e122 A122 (j := (2 : Int32)) (x := (48 : Int32)) (k := 2) (by decide) (by decide) (by decide) (g := (mkF m 253 #[.val (.int p0), .val (.int p1), .val (.int p2), .val (.int p3), .val (.int p4), .val (.ref b2), .val (.ref b78), .unset, .unset, .unset, .unset, .unset, .unset, .unset, .unset] [(.int (48 : Int32)), (.int (2 : Int32)), (.ref b118), (.ref b118)])) rfl rfl (hb hby at_253)
  obtain ⟨g_253, hg_253⟩ : ∃ z : Nat → Int32, z = (own_upd g_248 2 (48 : Int32)) := ⟨_, rfl⟩
  rw [← hg_253] at A124
  have arr_b2_124 := arr_b2_122.other W124 ne_b2_b118
  have arr_b78_124 := arr_b78_122.other W124 ne_b78_b118
  have K124 := K122.wr W124 (Or.inr sz_b118)
  have Z124 := Nat.le_trans Z122 (Nat.le_of_eq W124.size.symm)
  have N124 := Fr.snoc X124 N122 ge_b118
  have pre125 : ∀ t, Steps p.tables e below (T124.setTop (mkF m 258 #[.val (.int p0), .val (.int p1), .val (.int p2), .val (.int p3), .val (.int p4), .val (.ref b2), .val (.ref b78), .unset, .unset, .unset, .unset, .unset, .unset, .unset, .unset] [(.int (50 : Int32)), (.int (3 : Int32)), (.ref b118), (.ref b118)])) t → Steps p.tables e below (s₁.setTop (entryFrame m #[(.int p0), (.int p1), (.int p2), (.int p3), (.int p4)] maxLocals)) t := by
    intro t k
    refine pre123 t ?_
    show Steps p.tables e below (T122.setTop (mkF m 253 #[.val (.int p0), .val (.int p1), .val (.int p2), .val (.int p3), .val (.int p4), .val (.ref b2), .val (.ref b78), .unset, .unset, .unset, .unset, .unset, .unset, .unset, .unset] [(.int (48 : Int32)), (.int (2 : Int32)), (.ref b118), (.ref b118)])) _
    refine st124 _ ?_
    show Steps p.tables e below (T124.setTop (mkF m 254 #[.val (.int p0), .val (.int p1), .val (.int p2), .val (.int p3), .val (.int p4), .val (.ref b2), .val (.ref b78), .unset, .unset, .unset, .unset, .unset, .unset, .unset, .unset] [(.ref b118)])) _
    refine XS.dup X124.here hx rfl (hb hby at_254) rfl rfl ?_
    show Steps p.tables e below (T124.setTop (mkF m 255 #[.val (.int p0), .val (.int p1), .val (.int p2), .val (.int p3), .val (.int p4), .val (.ref b2), .val (.ref b78), .unset, .unset, .unset, .unset, .unset, .unset, .unset, .unset] [(.ref b118), (.ref b118)])) _
    refine XS.iconst X124.here hx rfl (hb hby at_255) ?_
    show Steps p.tables e below (T124.setTop (mkF m 256 #[.val (.int p0), .val (.int p1), .val (.int p2), .val (.int p3), .val (.int p4), .val (.ref b2), .val (.ref b78), .unset, .unset, .unset, .unset, .unset, .unset, .unset, .unset] [(.int (3 : Int32)), (.ref b118), (.ref b118)])) _
    refine XS.bipush X124.here hx rfl (hb hby at_256) ?_
    exact k
  obtain ⟨T126, h126, X126, e126, W126, A126, st126⟩ := own_stI X124 hx hZ e124 A124 (j := (3 : Int32)) (x := (50 : Int32)) (k := 3) (by decide) (by decide) (by decide) (g := (mkF m 258 #[.val (.int p0), .val (.int p1), .val (.int p2), .val (.int p3), .val (.int p4), .val (.ref b2), .val (.ref b78), .unset, .unset, .unset, .unset, .unset, .unset, .unset, .unset] [(.int (50 : Int32)), (.int (3 : Int32)), (.ref b118), (.ref b118)])) rfl rfl (hb hby at_258)
  obtain ⟨g_258, hg_258⟩ : ∃ z : Nat → Int32, z = (own_upd g_253 3 (50 : Int32)) := ⟨_, rfl⟩
  rw [← hg_258] at A126
  have arr_b2_126 := arr_b2_124.other W126 ne_b2_b118
  have arr_b78_126 := arr_b78_124.other W126 ne_b78_b118
  have K126 := K124.wr W126 (Or.inr sz_b118)
  have Z126 := Nat.le_trans Z124 (Nat.le_of_eq W126.size.symm)
  have N126 := Fr.snoc X126 N124 ge_b118
  have pre127 : ∀ t, Steps p.tables e below (T126.setTop (mkF m 263 #[.val (.int p0), .val (.int p1), .val (.int p2), .val (.int p3), .val (.int p4), .val (.ref b2), .val (.ref b78), .unset, .unset, .unset, .unset, .unset, .unset, .unset, .unset] [(.int (48 : Int32)), (.int (4 : Int32)), (.ref b118), (.ref b118)])) t → Steps p.tables e below (s₁.setTop (entryFrame m #[(.int p0), (.int p1), (.int p2), (.int p3), (.int p4)] maxLocals)) t := by
    intro t k
    refine pre125 t ?_
    show Steps p.tables e below (T124.setTop (mkF m 258 #[.val (.int p0), .val (.int p1), .val (.int p2), .val (.int p3), .val (.int p4), .val (.ref b2), .val (.ref b78), .unset, .unset, .unset, .unset, .unset, .unset, .unset, .unset] [(.int (50 : Int32)), (.int (3 : Int32)), (.ref b118), (.ref b118)])) _
    refine st126 _ ?_
    show Steps p.tables e below (T126.setTop (mkF m 259 #[.val (.int p0), .val (.int p1), .val (.int p2), .val (.int p3), .val (.int p4), .val (.ref b2), .val (.ref b78), .unset, .unset, .unset, .unset, .unset, .unset, .unset, .unset] [(.ref b118)])) _
    refine XS.dup X126.here hx rfl (hb hby at_259) rfl rfl ?_
    show Steps p.tables e below (T126.setTop (mkF m 260 #[.val (.int p0), .val (.int p1), .val (.int p2), .val (.int p3), .val (.int p4), .val (.ref b2), .val (.ref b78), .unset, .unset, .unset, .unset, .unset, .unset, .unset, .unset] [(.ref b118), (.ref b118)])) _
    refine XS.iconst X126.here hx rfl (hb hby at_260) ?_
    show Steps p.tables e below (T126.setTop (mkF m 261 #[.val (.int p0), .val (.int p1), .val (.int p2), .val (.int p3), .val (.int p4), .val (.ref b2), .val (.ref b78), .unset, .unset, .unset, .unset, .unset, .unset, .unset, .unset] [(.int (4 : Int32)), (.ref b118), (.ref b118)])) _
    refine XS.bipush X126.here hx rfl (hb hby at_261) ?_
    exact k
  obtain ⟨T128, h128, X128, e128, W128, A128, st128⟩ := own_stI X126 hx hZ e126 A126 (j := (4 : Int32)) (x := (48 : Int32)) (k := 4) (by decide) (by decide) (by decide) (g := (mkF m 263 #[.val (.int p0), .val (.int p1), .val (.int p2), .val (.int p3), .val (.int p4), .val (.ref b2), .val (.ref b78), .unset, .unset, .unset, .unset, .unset, .unset, .unset, .unset] [(.int (48 : Int32)), (.int (4 : Int32)), (.ref b118), (.ref b118)])) rfl rfl (hb hby at_263)
  obtain ⟨g_263, hg_263⟩ : ∃ z : Nat → Int32, z = (own_upd g_258 4 (48 : Int32)) := ⟨_, rfl⟩
  rw [← hg_263] at A128
  have arr_b2_128 := arr_b2_126.other W128 ne_b2_b118
  have arr_b78_128 := arr_b78_126.other W128 ne_b78_b118
  have K128 := K126.wr W128 (Or.inr sz_b118)
  have Z128 := Nat.le_trans Z126 (Nat.le_of_eq W128.size.symm)
  have N128 := Fr.snoc X128 N126 ge_b118
  have pre129 : ∀ t, Steps p.tables e below (T128.setTop (mkF m 268 #[.val (.int p0), .val (.int p1), .val (.int p2), .val (.int p3), .val (.int p4), .val (.ref b2), .val (.ref b78), .unset, .unset, .unset, .unset, .unset, .unset, .unset, .unset] [(.int (49 : Int32)), (.int (5 : Int32)), (.ref b118), (.ref b118)])) t → Steps p.tables e below (s₁.setTop (entryFrame m #[(.int p0), (.int p1), (.int p2), (.int p3), (.int p4)] maxLocals)) t := by
    intro t k
    refine pre127 t ?_
    show Steps p.tables e below (T126.setTop (mkF m 263 #[.val (.int p0), .val (.int p1), .val (.int p2), .val (.int p3), .val (.int p4), .val (.ref b2), .val (.ref b78), .unset, .unset, .unset, .unset, .unset, .unset, .unset, .unset] [(.int (48 : Int32)), (.int (4 : Int32)), (.ref b118), (.ref b118)])) _
    refine st128 _ ?_
    show Steps p.tables e below (T128.setTop (mkF m 264 #[.val (.int p0), .val (.int p1), .val (.int p2), .val (.int p3), .val (.int p4), .val (.ref b2), .val (.ref b78), .unset, .unset, .unset, .unset, .unset, .unset, .unset, .unset] [(.ref b118)])) _
    refine XS.dup X128.here hx rfl (hb hby at_264) rfl rfl ?_
    show Steps p.tables e below (T128.setTop (mkF m 265 #[.val (.int p0), .val (.int p1), .val (.int p2), .val (.int p3), .val (.int p4), .val (.ref b2), .val (.ref b78), .unset, .unset, .unset, .unset, .unset, .unset, .unset, .unset] [(.ref b118), (.ref b118)])) _
    refine XS.iconst X128.here hx rfl (hb hby at_265) ?_
    show Steps p.tables e below (T128.setTop (mkF m 266 #[.val (.int p0), .val (.int p1), .val (.int p2), .val (.int p3), .val (.int p4), .val (.ref b2), .val (.ref b78), .unset, .unset, .unset, .unset, .unset, .unset, .unset, .unset] [(.int (5 : Int32)), (.ref b118), (.ref b118)])) _
    refine XS.bipush X128.here hx rfl (hb hby at_266) ?_
    exact k
  obtain ⟨T130, h130, X130, e130, W130, A130, st130⟩ := own_stI X128 hx hZ e128 A128 (j := (5 : Int32)) (x := (49 : Int32)) (k := 5) (by decide) (by decide) (by decide) (g := (mkF m 268 #[.val (.int p0), .val (.int p1), .val (.int p2), .val (.int p3), .val (.int p4), .val (.ref b2), .val (.ref b78), .unset, .unset, .unset, .unset, .unset, .unset, .unset, .unset] [(.int (49 : Int32)), (.int (5 : Int32)), (.ref b118), (.ref b118)])) rfl rfl (hb hby at_268)
  obtain ⟨g_268, hg_268⟩ : ∃ z : Nat → Int32, z = (own_upd g_263 5 (49 : Int32)) := ⟨_, rfl⟩
  rw [← hg_268] at A130
  have arr_b2_130 := arr_b2_128.other W130 ne_b2_b118
  have arr_b78_130 := arr_b78_128.other W130 ne_b78_b118
  have K130 := K128.wr W130 (Or.inr sz_b118)
  have Z130 := Nat.le_trans Z128 (Nat.le_of_eq W130.size.symm)
  have N130 := Fr.snoc X130 N128 ge_b118
  have pre131 : ∀ t, Steps p.tables e below (T130.setTop (mkF m 274 #[.val (.int p0), .val (.int p1), .val (.int p2), .val (.int p3), .val (.int p4), .val (.ref b2), .val (.ref b78), .unset, .unset, .unset, .unset, .unset, .unset, .unset, .unset] [(.int (50 : Int32)), (.int (6 : Int32)), (.ref b118), (.ref b118)])) t → Steps p.tables e below (s₁.setTop (entryFrame m #[(.int p0), (.int p1), (.int p2), (.int p3), (.int p4)] maxLocals)) t := by
    intro t k
    refine pre129 t ?_
    show Steps p.tables e below (T128.setTop (mkF m 268 #[.val (.int p0), .val (.int p1), .val (.int p2), .val (.int p3), .val (.int p4), .val (.ref b2), .val (.ref b78), .unset, .unset, .unset, .unset, .unset, .unset, .unset, .unset] [(.int (49 : Int32)), (.int (5 : Int32)), (.ref b118), (.ref b118)])) _
    refine st130 _ ?_
    show Steps p.tables e below (T130.setTop (mkF m 269 #[.val (.int p0), .val (.int p1), .val (.int p2), .val (.int p3), .val (.int p4), .val (.ref b2), .val (.ref b78), .unset, .unset, .unset, .unset, .unset, .unset, .unset, .unset] [(.ref b118)])) _
    refine XS.dup X130.here hx rfl (hb hby at_269) rfl rfl ?_
    show Steps p.tables e below (T130.setTop (mkF m 270 #[.val (.int p0), .val (.int p1), .val (.int p2), .val (.int p3), .val (.int p4), .val (.ref b2), .val (.ref b78), .unset, .unset, .unset, .unset, .unset, .unset, .unset, .unset] [(.ref b118), (.ref b118)])) _
    refine XS.bipush X130.here hx rfl (hb hby at_270) ?_
    show Steps p.tables e below (T130.setTop (mkF m 272 #[.val (.int p0), .val (.int p1), .val (.int p2), .val (.int p3), .val (.int p4), .val (.ref b2), .val (.ref b78), .unset, .unset, .unset, .unset, .unset, .unset, .unset, .unset] [(.int (6 : Int32)), (.ref b118), (.ref b118)])) _
    refine XS.bipush X130.here hx rfl (hb hby at_272) ?_
    exact k
  obtain ⟨T132, h132, X132, e132, W132, A132, st132⟩ := own_stI X130 hx hZ e130 A130 (j := (6 : Int32)) (x := (50 : Int32)) (k := 6) (by decide) (by decide) (by decide) (g := (mkF m 274 #[.val (.int p0), .val (.int p1), .val (.int p2), .val (.int p3), .val (.int p4), .val (.ref b2), .val (.ref b78), .unset, .unset, .unset, .unset, .unset, .unset, .unset, .unset] [(.int (50 : Int32)), (.int (6 : Int32)), (.ref b118), (.ref b118)])) rfl rfl (hb hby at_274)
  obtain ⟨g_274, hg_274⟩ : ∃ z : Nat → Int32, z = (own_upd g_268 6 (50 : Int32)) := ⟨_, rfl⟩
  rw [← hg_274] at A132
  have arr_b2_132 := arr_b2_130.other W132 ne_b2_b118
  have arr_b78_132 := arr_b78_130.other W132 ne_b78_b118
  have K132 := K130.wr W132 (Or.inr sz_b118)
  have Z132 := Nat.le_trans Z130 (Nat.le_of_eq W132.size.symm)
  have N132 := Fr.snoc X132 N130 ge_b118
  have pre133 : ∀ t, Steps p.tables e below (T132.setTop (mkF m 280 #[.val (.int p0), .val (.int p1), .val (.int p2), .val (.int p3), .val (.int p4), .val (.ref b2), .val (.ref b78), .unset, .unset, .unset, .unset, .unset, .unset, .unset, .unset] [(.int (51 : Int32)), (.int (7 : Int32)), (.ref b118), (.ref b118)])) t → Steps p.tables e below (s₁.setTop (entryFrame m #[(.int p0), (.int p1), (.int p2), (.int p3), (.int p4)] maxLocals)) t := by
    intro t k
    refine pre131 t ?_
    show Steps p.tables e below (T130.setTop (mkF m 274 #[.val (.int p0), .val (.int p1), .val (.int p2), .val (.int p3), .val (.int p4), .val (.ref b2), .val (.ref b78), .unset, .unset, .unset, .unset, .unset, .unset, .unset, .unset] [(.int (50 : Int32)), (.int (6 : Int32)), (.ref b118), (.ref b118)])) _
    refine st132 _ ?_
    show Steps p.tables e below (T132.setTop (mkF m 275 #[.val (.int p0), .val (.int p1), .val (.int p2), .val (.int p3), .val (.int p4), .val (.ref b2), .val (.ref b78), .unset, .unset, .unset, .unset, .unset, .unset, .unset, .unset] [(.ref b118)])) _
    refine XS.dup X132.here hx rfl (hb hby at_275) rfl rfl ?_
    show Steps p.tables e below (T132.setTop (mkF m 276 #[.val (.int p0), .val (.int p1), .val (.int p2), .val (.int p3), .val (.int p4), .val (.ref b2), .val (.ref b78), .unset, .unset, .unset, .unset, .unset, .unset, .unset, .unset] [(.ref b118), (.ref b118)])) _
    refine XS.bipush X132.here hx rfl (hb hby at_276) ?_
    show Steps p.tables e below (T132.setTop (mkF m 278 #[.val (.int p0), .val (.int p1), .val (.int p2), .val (.int p3), .val (.int p4), .val (.ref b2), .val (.ref b78), .unset, .unset, .unset, .unset, .unset, .unset, .unset, .unset] [(.int (7 : Int32)), (.ref b118), (.ref b118)])) _
    refine XS.bipush X132.here hx rfl (hb hby at_278) ?_
    exact k
  obtain ⟨T134, h134, X134, e134, W134, A134, st134⟩ := own_stI X132 hx hZ e132 A132 (j := (7 : Int32)) (x := (51 : Int32)) (k := 7) (by decide) (by decide) (by decide) (g := (mkF m 280 #[.val (.int p0), .val (.int p1), .val (.int p2), .val (.int p3), .val (.int p4), .val (.ref b2), .val (.ref b78), .unset, .unset, .unset, .unset, .unset, .unset, .unset, .unset] [(.int (51 : Int32)), (.int (7 : Int32)), (.ref b118), (.ref b118)])) rfl rfl (hb hby at_280)
  obtain ⟨g_280, hg_280⟩ : ∃ z : Nat → Int32, z = (own_upd g_274 7 (51 : Int32)) := ⟨_, rfl⟩
  rw [← hg_280] at A134
  have arr_b2_134 := arr_b2_132.other W134 ne_b2_b118
  have arr_b78_134 := arr_b78_132.other W134 ne_b78_b118
  have K134 := K132.wr W134 (Or.inr sz_b118)
  have Z134 := Nat.le_trans Z132 (Nat.le_of_eq W134.size.symm)
  have N134 := Fr.snoc X134 N132 ge_b118
  have pre135 : ∀ t, Steps p.tables e below (T134.setTop (mkF m 286 #[.val (.int p0), .val (.int p1), .val (.int p2), .val (.int p3), .val (.int p4), .val (.ref b2), .val (.ref b78), .unset, .unset, .unset, .unset, .unset, .unset, .unset, .unset] [(.int (52 : Int32)), (.int (8 : Int32)), (.ref b118), (.ref b118)])) t → Steps p.tables e below (s₁.setTop (entryFrame m #[(.int p0), (.int p1), (.int p2), (.int p3), (.int p4)] maxLocals)) t := by
    intro t k
    refine pre133 t ?_
    show Steps p.tables e below (T132.setTop (mkF m 280 #[.val (.int p0), .val (.int p1), .val (.int p2), .val (.int p3), .val (.int p4), .val (.ref b2), .val (.ref b78), .unset, .unset, .unset, .unset, .unset, .unset, .unset, .unset] [(.int (51 : Int32)), (.int (7 : Int32)), (.ref b118), (.ref b118)])) _
    refine st134 _ ?_
    show Steps p.tables e below (T134.setTop (mkF m 281 #[.val (.int p0), .val (.int p1), .val (.int p2), .val (.int p3), .val (.int p4), .val (.ref b2), .val (.ref b78), .unset, .unset, .unset, .unset, .unset, .unset, .unset, .unset] [(.ref b118)])) _
    refine XS.dup X134.here hx rfl (hb hby at_281) rfl rfl ?_
    show Steps p.tables e below (T134.setTop (mkF m 282 #[.val (.int p0), .val (.int p1), .val (.int p2), .val (.int p3), .val (.int p4), .val (.ref b2), .val (.ref b78), .unset, .unset, .unset, .unset, .unset, .unset, .unset, .unset] [(.ref b118), (.ref b118)])) _
    refine XS.bipush X134.here hx rfl (hb hby at_282) ?_
    show Steps p.tables e below (T134.setTop (mkF m 284 #[.val (.int p0), .val (.int p1), .val (.int p2), .val (.int p3), .val (.int p4), .val (.ref b2), .val (.ref b78), .unset, .unset, .unset, .unset, .unset, .unset, .unset, .unset] [(.int (8 : Int32)), (.ref b118), (.ref b118)])) _
    refine XS.bipush X134.here hx rfl (hb hby at_284) ?_
    exact k
  obtain ⟨T136, h136, X136, e136, W136, A136, st136⟩ := own_stI X134 hx hZ e134 A134 (j := (8 : Int32)) (x := (52 : Int32)) (k := 8) (by decide) (by decide) (by decide) (g := (mkF m 286 #[.val (.int p0), .val (.int p1), .val (.int p2), .val (.int p3), .val (.int p4), .val (.ref b2), .val (.ref b78), .unset, .unset, .unset, .unset, .unset, .unset, .unset, .unset] [(.int (52 : Int32)), (.int (8 : Int32)), (.ref b118), (.ref b118)])) rfl rfl (hb hby at_286)
  obtain ⟨g_286, hg_286⟩ : ∃ z : Nat → Int32, z = (own_upd g_280 8 (52 : Int32)) := ⟨_, rfl⟩
  rw [← hg_286] at A136
  have arr_b2_136 := arr_b2_134.other W136 ne_b2_b118
  have arr_b78_136 := arr_b78_134.other W136 ne_b78_b118
  have K136 := K134.wr W136 (Or.inr sz_b118)
  have Z136 := Nat.le_trans Z134 (Nat.le_of_eq W136.size.symm)
  have N136 := Fr.snoc X136 N134 ge_b118
  have pre137 : ∀ t, Steps p.tables e below (T136.setTop (mkF m 292 #[.val (.int p0), .val (.int p1), .val (.int p2), .val (.int p3), .val (.int p4), .val (.ref b2), .val (.ref b78), .unset, .unset, .unset, .unset, .unset, .unset, .unset, .unset] [(.int (53 : Int32)), (.int (9 : Int32)), (.ref b118), (.ref b118)])) t → Steps p.tables e below (s₁.setTop (entryFrame m #[(.int p0), (.int p1), (.int p2), (.int p3), (.int p4)] maxLocals)) t := by
    intro t k
    refine pre135 t ?_
    show Steps p.tables e below (T134.setTop (mkF m 286 #[.val (.int p0), .val (.int p1), .val (.int p2), .val (.int p3), .val (.int p4), .val (.ref b2), .val (.ref b78), .unset, .unset, .unset, .unset, .unset, .unset, .unset, .unset] [(.int (52 : Int32)), (.int (8 : Int32)), (.ref b118), (.ref b118)])) _
    refine st136 _ ?_
    show Steps p.tables e below (T136.setTop (mkF m 287 #[.val (.int p0), .val (.int p1), .val (.int p2), .val (.int p3), .val (.int p4), .val (.ref b2), .val (.ref b78), .unset, .unset, .unset, .unset, .unset, .unset, .unset, .unset] [(.ref b118)])) _
    refine XS.dup X136.here hx rfl (hb hby at_287) rfl rfl ?_
    show Steps p.tables e below (T136.setTop (mkF m 288 #[.val (.int p0), .val (.int p1), .val (.int p2), .val (.int p3), .val (.int p4), .val (.ref b2), .val (.ref b78), .unset, .unset, .unset, .unset, .unset, .unset, .unset, .unset] [(.ref b118), (.ref b118)])) _
    refine XS.bipush X136.here hx rfl (hb hby at_288) ?_
    show Steps p.tables e below (T136.setTop (mkF m 290 #[.val (.int p0), .val (.int p1), .val (.int p2), .val (.int p3), .val (.int p4), .val (.ref b2), .val (.ref b78), .unset, .unset, .unset, .unset, .unset, .unset, .unset, .unset] [(.int (9 : Int32)), (.ref b118), (.ref b118)])) _
    refine XS.bipush X136.here hx rfl (hb hby at_290) ?_
    exact k
  obtain ⟨T138, h138, X138, e138, W138, A138, st138⟩ := own_stI X136 hx hZ e136 A136 (j := (9 : Int32)) (x := (53 : Int32)) (k := 9) (by decide) (by decide) (by decide) (g := (mkF m 292 #[.val (.int p0), .val (.int p1), .val (.int p2), .val (.int p3), .val (.int p4), .val (.ref b2), .val (.ref b78), .unset, .unset, .unset, .unset, .unset, .unset, .unset, .unset] [(.int (53 : Int32)), (.int (9 : Int32)), (.ref b118), (.ref b118)])) rfl rfl (hb hby at_292)
  obtain ⟨g_292, hg_292⟩ : ∃ z : Nat → Int32, z = (own_upd g_286 9 (53 : Int32)) := ⟨_, rfl⟩
  rw [← hg_292] at A138
  have arr_b2_138 := arr_b2_136.other W138 ne_b2_b118
  have arr_b78_138 := arr_b78_136.other W138 ne_b78_b118
  have K138 := K136.wr W138 (Or.inr sz_b118)
  have Z138 := Nat.le_trans Z136 (Nat.le_of_eq W138.size.symm)
  have N138 := Fr.snoc X138 N136 ge_b118
  have pre139 : ∀ t, Steps p.tables e below (T138.setTop (mkF m 298 #[.val (.int p0), .val (.int p1), .val (.int p2), .val (.int p3), .val (.int p4), .val (.ref b2), .val (.ref b78), .unset, .unset, .unset, .unset, .unset, .unset, .unset, .unset] [(.int (54 : Int32)), (.int (10 : Int32)), (.ref b118), (.ref b118)])) t → Steps p.tables e below (s₁.setTop (entryFrame m #[(.int p0), (.int p1), (.int p2), (.int p3), (.int p4)] maxLocals)) t := by
    intro t k
    refine pre137 t ?_
    show Steps p.tables e below (T136.setTop (mkF m 292 #[.val (.int p0), .val (.int p1), .val (.int p2), .val (.int p3), .val (.int p4), .val (.ref b2), .val (.ref b78), .unset, .unset, .unset, .unset, .unset, .unset, .unset, .unset] [(.int (53 : Int32)), (.int (9 : Int32)), (.ref b118), (.ref b118)])) _
    refine st138 _ ?_
    show Steps p.tables e below (T138.setTop (mkF m 293 #[.val (.int p0), .val (.int p1), .val (.int p2), .val (.int p3), .val (.int p4), .val (.ref b2), .val (.ref b78), .unset, .unset, .unset, .unset, .unset, .unset, .unset, .unset] [(.ref b118)])) _
    refine XS.dup X138.here hx rfl (hb hby at_293) rfl rfl ?_
    show Steps p.tables e below (T138.setTop (mkF m 294 #[.val (.int p0), .val (.int p1), .val (.int p2), .val (.int p3), .val (.int p4), .val (.ref b2), .val (.ref b78), .unset, .unset, .unset, .unset, .unset, .unset, .unset, .unset] [(.ref b118), (.ref b118)])) _
    refine XS.bipush X138.here hx rfl (hb hby at_294) ?_
    show Steps p.tables e below (T138.setTop (mkF m 296 #[.val (.int p0), .val (.int p1), .val (.int p2), .val (.int p3), .val (.int p4), .val (.ref b2), .val (.ref b78), .unset, .unset, .unset, .unset, .unset, .unset, .unset, .unset] [(.int (10 : Int32)), (.ref b118), (.ref b118)])) _
    refine XS.bipush X138.here hx rfl (hb hby at_296) ?_
    exact k
  obtain ⟨T140, h140, X140, e140, W140, A140, st140⟩ := own_stI X138 hx hZ e138 A138 (j := (10 : Int32)) (x := (54 : Int32)) (k := 10) (by decide) (by decide) (by decide) (g := (mkF m 298 #[.val (.int p0), .val (.int p1), .val (.int p2), .val (.int p3), .val (.int p4), .val (.ref b2), .val (.ref b78), .unset, .unset, .unset, .unset, .unset, .unset, .unset, .unset] [(.int (54 : Int32)), (.int (10 : Int32)), (.ref b118), (.ref b118)])) rfl rfl (hb hby at_298)
  obtain ⟨g_298, hg_298⟩ : ∃ z : Nat → Int32, z = (own_upd g_292 10 (54 : Int32)) := ⟨_, rfl⟩
  rw [← hg_298] at A140
  have arr_b2_140 := arr_b2_138.other W140 ne_b2_b118
  have arr_b78_140 := arr_b78_138.other W140 ne_b78_b118
  have K140 := K138.wr W140 (Or.inr sz_b118)
  have Z140 := Nat.le_trans Z138 (Nat.le_of_eq W140.size.symm)
  have N140 := Fr.snoc X140 N138 ge_b118
  have pre141 : ∀ t, Steps p.tables e below (T140.setTop (mkF m 304 #[.val (.int p0), .val (.int p1), .val (.int p2), .val (.int p3), .val (.int p4), .val (.ref b2), .val (.ref b78), .unset, .unset, .unset, .unset, .unset, .unset, .unset, .unset] [(.int (48 : Int32)), (.int (11 : Int32)), (.ref b118), (.ref b118)])) t → Steps p.tables e below (s₁.setTop (entryFrame m #[(.int p0), (.int p1), (.int p2), (.int p3), (.int p4)] maxLocals)) t := by
    intro t k
    refine pre139 t ?_
    show Steps p.tables e below (T138.setTop (mkF m 298 #[.val (.int p0), .val (.int p1), .val (.int p2), .val (.int p3), .val (.int p4), .val (.ref b2), .val (.ref b78), .unset, .unset, .unset, .unset, .unset, .unset, .unset, .unset] [(.int (54 : Int32)), (.int (10 : Int32)), (.ref b118), (.ref b118)])) _
    refine st140 _ ?_
    show Steps p.tables e below (T140.setTop (mkF m 299 #[.val (.int p0), .val (.int p1), .val (.int p2), .val (.int p3), .val (.int p4), .val (.ref b2), .val (.ref b78), .unset, .unset, .unset, .unset, .unset, .unset, .unset, .unset] [(.ref b118)])) _
    refine XS.dup X140.here hx rfl (hb hby at_299) rfl rfl ?_
    show Steps p.tables e below (T140.setTop (mkF m 300 #[.val (.int p0), .val (.int p1), .val (.int p2), .val (.int p3), .val (.int p4), .val (.ref b2), .val (.ref b78), .unset, .unset, .unset, .unset, .unset, .unset, .unset, .unset] [(.ref b118), (.ref b118)])) _
    refine XS.bipush X140.here hx rfl (hb hby at_300) ?_
    show Steps p.tables e below (T140.setTop (mkF m 302 #[.val (.int p0), .val (.int p1), .val (.int p2), .val (.int p3), .val (.int p4), .val (.ref b2), .val (.ref b78), .unset, .unset, .unset, .unset, .unset, .unset, .unset, .unset] [(.int (11 : Int32)), (.ref b118), (.ref b118)])) _
    refine XS.bipush X140.here hx rfl (hb hby at_302) ?_
    exact k
  obtain ⟨T142, h142, X142, e142, W142, A142, st142⟩ := own_stI X140 hx hZ e140 A140 (j := (11 : Int32)) (x := (48 : Int32)) (k := 11) (by decide) (by decide) (by decide) (g := (mkF m 304 #[.val (.int p0), .val (.int p1), .val (.int p2), .val (.int p3), .val (.int p4), .val (.ref b2), .val (.ref b78), .unset, .unset, .unset, .unset, .unset, .unset, .unset, .unset] [(.int (48 : Int32)), (.int (11 : Int32)), (.ref b118), (.ref b118)])) rfl rfl (hb hby at_304)
  obtain ⟨g_304, hg_304⟩ : ∃ z : Nat → Int32, z = (own_upd g_298 11 (48 : Int32)) := ⟨_, rfl⟩
  rw [← hg_304] at A142
  have arr_b2_142 := arr_b2_140.other W142 ne_b2_b118
  have arr_b78_142 := arr_b78_140.other W142 ne_b78_b118
  have K142 := K140.wr W142 (Or.inr sz_b118)
  have Z142 := Nat.le_trans Z140 (Nat.le_of_eq W142.size.symm)
  have N142 := Fr.snoc X142 N140 ge_b118
  have pre143 : ∀ t, Steps p.tables e below (T142.setTop (mkF m 310 #[.val (.int p0), .val (.int p1), .val (.int p2), .val (.int p3), .val (.int p4), .val (.ref b2), .val (.ref b78), .unset, .unset, .unset, .unset, .unset, .unset, .unset, .unset] [(.int (49 : Int32)), (.int (12 : Int32)), (.ref b118), (.ref b118)])) t → Steps p.tables e below (s₁.setTop (entryFrame m #[(.int p0), (.int p1), (.int p2), (.int p3), (.int p4)] maxLocals)) t := by
    intro t k
    refine pre141 t ?_
    show Steps p.tables e below (T140.setTop (mkF m 304 #[.val (.int p0), .val (.int p1), .val (.int p2), .val (.int p3), .val (.int p4), .val (.ref b2), .val (.ref b78), .unset, .unset, .unset, .unset, .unset, .unset, .unset, .unset] [(.int (48 : Int32)), (.int (11 : Int32)), (.ref b118), (.ref b118)])) _
    refine st142 _ ?_
    show Steps p.tables e below (T142.setTop (mkF m 305 #[.val (.int p0), .val (.int p1), .val (.int p2), .val (.int p3), .val (.int p4), .val (.ref b2), .val (.ref b78), .unset, .unset, .unset, .unset, .unset, .unset, .unset, .unset] [(.ref b118)])) _
    refine XS.dup X142.here hx rfl (hb hby at_305) rfl rfl ?_
    show Steps p.tables e below (T142.setTop (mkF m 306 #[.val (.int p0), .val (.int p1), .val (.int p2), .val (.int p3), .val (.int p4), .val (.ref b2), .val (.ref b78), .unset, .unset, .unset, .unset, .unset, .unset, .unset, .unset] [(.ref b118), (.ref b118)])) _
    refine XS.bipush X142.here hx rfl (hb hby at_306) ?_
    show Steps p.tables e below (T142.setTop (mkF m 308 #[.val (.int p0), .val (.int p1), .val (.int p2), .val (.int p3), .val (.int p4), .val (.ref b2), .val (.ref b78), .unset, .unset, .unset, .unset, .unset, .unset, .unset, .unset] [(.int (12 : Int32)), (.ref b118), (.ref b118)])) _
    refine XS.bipush X142.here hx rfl (hb hby at_308) ?_
    exact k
  obtain ⟨T144, h144, X144, e144, W144, A144, st144⟩ := own_stI X142 hx hZ e142 A142 (j := (12 : Int32)) (x := (49 : Int32)) (k := 12) (by decide) (by decide) (by decide) (g := (mkF m 310 #[.val (.int p0), .val (.int p1), .val (.int p2), .val (.int p3), .val (.int p4), .val (.ref b2), .val (.ref b78), .unset, .unset, .unset, .unset, .unset, .unset, .unset, .unset] [(.int (49 : Int32)), (.int (12 : Int32)), (.ref b118), (.ref b118)])) rfl rfl (hb hby at_310)
  obtain ⟨g_310, hg_310⟩ : ∃ z : Nat → Int32, z = (own_upd g_304 12 (49 : Int32)) := ⟨_, rfl⟩
  rw [← hg_310] at A144
  have arr_b2_144 := arr_b2_142.other W144 ne_b2_b118
  have arr_b78_144 := arr_b78_142.other W144 ne_b78_b118
  have K144 := K142.wr W144 (Or.inr sz_b118)
  have Z144 := Nat.le_trans Z142 (Nat.le_of_eq W144.size.symm)
  have N144 := Fr.snoc X144 N142 ge_b118
  have pre145 : ∀ t, Steps p.tables e below (T144.setTop (mkF m 316 #[.val (.int p0), .val (.int p1), .val (.int p2), .val (.int p3), .val (.int p4), .val (.ref b2), .val (.ref b78), .unset, .unset, .unset, .unset, .unset, .unset, .unset, .unset] [(.int (50 : Int32)), (.int (13 : Int32)), (.ref b118), (.ref b118)])) t → Steps p.tables e below (s₁.setTop (entryFrame m #[(.int p0), (.int p1), (.int p2), (.int p3), (.int p4)] maxLocals)) t := by
    intro t k
    refine pre143 t ?_
    show Steps p.tables e below (T142.setTop (mkF m 310 #[.val (.int p0), .val (.int p1), .val (.int p2), .val (.int p3), .val (.int p4), .val (.ref b2), .val (.ref b78), .unset, .unset, .unset, .unset, .unset, .unset, .unset, .unset] [(.int (49 : Int32)), (.int (12 : Int32)), (.ref b118), (.ref b118)])) _
    refine st144 _ ?_
    show Steps p.tables e below (T144.setTop (mkF m 311 #[.val (.int p0), .val (.int p1), .val (.int p2), .val (.int p3), .val (.int p4), .val (.ref b2), .val (.ref b78), .unset, .unset, .unset, .unset, .unset, .unset, .unset, .unset] [(.ref b118)])) _
    refine XS.dup X144.here hx rfl (hb hby at_311) rfl rfl ?_
    show Steps p.tables e below (T144.setTop (mkF m 312 #[.val (.int p0), .val (.int p1), .val (.int p2), .val (.int p3), .val (.int p4), .val (.ref b2), .val (.ref b78), .unset, .unset, .unset, .unset, .unset, .unset, .unset, .unset] [(.ref b118), (.ref b118)])) _
    refine XS.bipush X144.here hx rfl (hb hby at_312) ?_
    show Steps p.tables e below (T144.setTop (mkF m 314 #[.val (.int p0), .val (.int p1), .val (.int p2), .val (.int p3), .val (.int p4), .val (.ref b2), .val (.ref b78), .unset, .unset, .unset, .unset, .unset, .unset, .unset, .unset] [(.int (13 : Int32)), (.ref b118), (.ref b118)])) _
    refine XS.bipush X144.here hx rfl (hb hby at_314) ?_
    exact k
  obtain ⟨T146, h146, X146, e146, W146, A146, st146⟩ := own_stI X144 hx hZ e144 A144 (j := (13 : Int32)) (x := (50 : Int32)) (k := 13) (by decide) (by decide) (by decide) (g := (mkF m 316 #[.val (.int p0), .val (.int p1), .val (.int p2), .val (.int p3), .val (.int p4), .val (.ref b2), .val (.ref b78), .unset, .unset, .unset, .unset, .unset, .unset, .unset, .unset] [(.int (50 : Int32)), (.int (13 : Int32)), (.ref b118), (.ref b118)])) rfl rfl (hb hby at_316)
  obtain ⟨g_316, hg_316⟩ : ∃ z : Nat → Int32, z = (own_upd g_310 13 (50 : Int32)) := ⟨_, rfl⟩
  rw [← hg_316] at A146
  have arr_b2_146 := arr_b2_144.other W146 ne_b2_b118
  have arr_b78_146 := arr_b78_144.other W146 ne_b78_b118
  have K146 := K144.wr W146 (Or.inr sz_b118)
  have Z146 := Nat.le_trans Z144 (Nat.le_of_eq W146.size.symm)
  have N146 := Fr.snoc X146 N144 ge_b118
  have pre147 : ∀ t, Steps p.tables e below (T146.setTop (mkF m 322 #[.val (.int p0), .val (.int p1), .val (.int p2), .val (.int p3), .val (.int p4), .val (.ref b2), .val (.ref b78), .unset, .unset, .unset, .unset, .unset, .unset, .unset, .unset] [(.int (51 : Int32)), (.int (14 : Int32)), (.ref b118), (.ref b118)])) t → Steps p.tables e below (s₁.setTop (entryFrame m #[(.int p0), (.int p1), (.int p2), (.int p3), (.int p4)] maxLocals)) t := by
    intro t k
    refine pre145 t ?_
    show Steps p.tables e below (T144.setTop (mkF m 316 #[.val (.int p0), .val (.int p1), .val (.int p2), .val (.int p3), .val (.int p4), .val (.ref b2), .val (.ref b78), .unset, .unset, .unset, .unset, .unset, .unset, .unset, .unset] [(.int (50 : Int32)), (.int (13 : Int32)), (.ref b118), (.ref b118)])) _
    refine st146 _ ?_
    show Steps p.tables e below (T146.setTop (mkF m 317 #[.val (.int p0), .val (.int p1), .val (.int p2), .val (.int p3), .val (.int p4), .val (.ref b2), .val (.ref b78), .unset, .unset, .unset, .unset, .unset, .unset, .unset, .unset] [(.ref b118)])) _
    refine XS.dup X146.here hx rfl (hb hby at_317) rfl rfl ?_
    show Steps p.tables e below (T146.setTop (mkF m 318 #[.val (.int p0), .val (.int p1), .val (.int p2), .val (.int p3), .val (.int p4), .val (.ref b2), .val (.ref b78), .unset, .unset, .unset, .unset, .unset, .unset, .unset, .unset] [(.ref b118), (.ref b118)])) _
    refine XS.bipush X146.here hx rfl (hb hby at_318) ?_
    show Steps p.tables e below (T146.setTop (mkF m 320 #[.val (.int p0), .val (.int p1), .val (.int p2), .val (.int p3), .val (.int p4), .val (.ref b2), .val (.ref b78), .unset, .unset, .unset, .unset, .unset, .unset, .unset, .unset] [(.int (14 : Int32)), (.ref b118), (.ref b118)])) _
    refine XS.bipush X146.here hx rfl (hb hby at_320) ?_
    exact k
  obtain ⟨T148, h148, X148, e148, W148, A148, st148⟩ := own_stI X146 hx hZ e146 A146 (j := (14 : Int32)) (x := (51 : Int32)) (k := 14) (by decide) (by decide) (by decide) (g := (mkF m 322 #[.val (.int p0), .val (.int p1), .val (.int p2), .val (.int p3), .val (.int p4), .val (.ref b2), .val (.ref b78), .unset, .unset, .unset, .unset, .unset, .unset, .unset, .unset] [(.int (51 : Int32)), (.int (14 : Int32)), (.ref b118), (.ref b118)])) rfl rfl (hb hby at_322)
  obtain ⟨g_322, hg_322⟩ : ∃ z : Nat → Int32, z = (own_upd g_316 14 (51 : Int32)) := ⟨_, rfl⟩
  rw [← hg_322] at A148
  have arr_b2_148 := arr_b2_146.other W148 ne_b2_b118
  have arr_b78_148 := arr_b78_146.other W148 ne_b78_b118
  have K148 := K146.wr W148 (Or.inr sz_b118)
  have Z148 := Nat.le_trans Z146 (Nat.le_of_eq W148.size.symm)
  have N148 := Fr.snoc X148 N146 ge_b118
  have pre149 : ∀ t, Steps p.tables e below (T148.setTop (mkF m 328 #[.val (.int p0), .val (.int p1), .val (.int p2), .val (.int p3), .val (.int p4), .val (.ref b2), .val (.ref b78), .unset, .unset, .unset, .unset, .unset, .unset, .unset, .unset] [(.int (52 : Int32)), (.int (15 : Int32)), (.ref b118), (.ref b118)])) t → Steps p.tables e below (s₁.setTop (entryFrame m #[(.int p0), (.int p1), (.int p2), (.int p3), (.int p4)] maxLocals)) t := by
    intro t k
    refine pre147 t ?_
    show Steps p.tables e below (T146.setTop (mkF m 322 #[.val (.int p0), .val (.int p1), .val (.int p2), .val (.int p3), .val (.int p4), .val (.ref b2), .val (.ref b78), .unset, .unset, .unset, .unset, .unset, .unset, .unset, .unset] [(.int (51 : Int32)), (.int (14 : Int32)), (.ref b118), (.ref b118)])) _
    refine st148 _ ?_
    show Steps p.tables e below (T148.setTop (mkF m 323 #[.val (.int p0), .val (.int p1), .val (.int p2), .val (.int p3), .val (.int p4), .val (.ref b2), .val (.ref b78), .unset, .unset, .unset, .unset, .unset, .unset, .unset, .unset] [(.ref b118)])) _
    refine XS.dup X148.here hx rfl (hb hby at_323) rfl rfl ?_
    show Steps p.tables e below (T148.setTop (mkF m 324 #[.val (.int p0), .val (.int p1), .val (.int p2), .val (.int p3), .val (.int p4), .val (.ref b2), .val (.ref b78), .unset, .unset, .unset, .unset, .unset, .unset, .unset, .unset] [(.ref b118), (.ref b118)])) _
    refine XS.bipush X148.here hx rfl (hb hby at_324) ?_
    show Steps p.tables e below (T148.setTop (mkF m 326 #[.val (.int p0), .val (.int p1), .val (.int p2), .val (.int p3), .val (.int p4), .val (.ref b2), .val (.ref b78), .unset, .unset, .unset, .unset, .unset, .unset, .unset, .unset] [(.int (15 : Int32)), (.ref b118), (.ref b118)])) _
    refine XS.bipush X148.here hx rfl (hb hby at_326) ?_
    exact k
  obtain ⟨T150, h150, X150, e150, W150, A150, st150⟩ := own_stI X148 hx hZ e148 A148 (j := (15 : Int32)) (x := (52 : Int32)) (k := 15) (by decide) (by decide) (by decide) (g := (mkF m 328 #[.val (.int p0), .val (.int p1), .val (.int p2), .val (.int p3), .val (.int p4), .val (.ref b2), .val (.ref b78), .unset, .unset, .unset, .unset, .unset, .unset, .unset, .unset] [(.int (52 : Int32)), (.int (15 : Int32)), (.ref b118), (.ref b118)])) rfl rfl (hb hby at_328)
  obtain ⟨g_328, hg_328⟩ : ∃ z : Nat → Int32, z = (own_upd g_322 15 (52 : Int32)) := ⟨_, rfl⟩
  rw [← hg_328] at A150
  have arr_b2_150 := arr_b2_148.other W150 ne_b2_b118
  have arr_b78_150 := arr_b78_148.other W150 ne_b78_b118
  have K150 := K148.wr W150 (Or.inr sz_b118)
  have Z150 := Nat.le_trans Z148 (Nat.le_of_eq W150.size.symm)
  have N150 := Fr.snoc X150 N148 ge_b118
  have pre151 : ∀ t, Steps p.tables e below (T150.setTop (mkF m 334 #[.val (.int p0), .val (.int p1), .val (.int p2), .val (.int p3), .val (.int p4), .val (.ref b2), .val (.ref b78), .unset, .unset, .unset, .unset, .unset, .unset, .unset, .unset] [(.int (53 : Int32)), (.int (16 : Int32)), (.ref b118), (.ref b118)])) t → Steps p.tables e below (s₁.setTop (entryFrame m #[(.int p0), (.int p1), (.int p2), (.int p3), (.int p4)] maxLocals)) t := by
    intro t k
    refine pre149 t ?_
    show Steps p.tables e below (T148.setTop (mkF m 328 #[.val (.int p0), .val (.int p1), .val (.int p2), .val (.int p3), .val (.int p4), .val (.ref b2), .val (.ref b78), .unset, .unset, .unset, .unset, .unset, .unset, .unset, .unset] [(.int (52 : Int32)), (.int (15 : Int32)), (.ref b118), (.ref b118)])) _
    refine st150 _ ?_
    show Steps p.tables e below (T150.setTop (mkF m 329 #[.val (.int p0), .val (.int p1), .val (.int p2), .val (.int p3), .val (.int p4), .val (.ref b2), .val (.ref b78), .unset, .unset, .unset, .unset, .unset, .unset, .unset, .unset] [(.ref b118)])) _
    refine XS.dup X150.here hx rfl (hb hby at_329) rfl rfl ?_
    show Steps p.tables e below (T150.setTop (mkF m 330 #[.val (.int p0), .val (.int p1), .val (.int p2), .val (.int p3), .val (.int p4), .val (.ref b2), .val (.ref b78), .unset, .unset, .unset, .unset, .unset, .unset, .unset, .unset] [(.ref b118), (.ref b118)])) _
    refine XS.bipush X150.here hx rfl (hb hby at_330) ?_
    show Steps p.tables e below (T150.setTop (mkF m 332 #[.val (.int p0), .val (.int p1), .val (.int p2), .val (.int p3), .val (.int p4), .val (.ref b2), .val (.ref b78), .unset, .unset, .unset, .unset, .unset, .unset, .unset, .unset] [(.int (16 : Int32)), (.ref b118), (.ref b118)])) _
    refine XS.bipush X150.here hx rfl (hb hby at_332) ?_
    exact k
  obtain ⟨T152, h152, X152, e152, W152, A152, st152⟩ := own_stI X150 hx hZ e150 A150 (j := (16 : Int32)) (x := (53 : Int32)) (k := 16) (by decide) (by decide) (by decide) (g := (mkF m 334 #[.val (.int p0), .val (.int p1), .val (.int p2), .val (.int p3), .val (.int p4), .val (.ref b2), .val (.ref b78), .unset, .unset, .unset, .unset, .unset, .unset, .unset, .unset] [(.int (53 : Int32)), (.int (16 : Int32)), (.ref b118), (.ref b118)])) rfl rfl (hb hby at_334)
  obtain ⟨g_334, hg_334⟩ : ∃ z : Nat → Int32, z = (own_upd g_328 16 (53 : Int32)) := ⟨_, rfl⟩
  rw [← hg_334] at A152
  have arr_b2_152 := arr_b2_150.other W152 ne_b2_b118
  have arr_b78_152 := arr_b78_150.other W152 ne_b78_b118
  have K152 := K150.wr W152 (Or.inr sz_b118)
  have Z152 := Nat.le_trans Z150 (Nat.le_of_eq W152.size.symm)
  have N152 := Fr.snoc X152 N150 ge_b118
  have pre153 : ∀ t, Steps p.tables e below (T152.setTop (mkF m 340 #[.val (.int p0), .val (.int p1), .val (.int p2), .val (.int p3), .val (.int p4), .val (.ref b2), .val (.ref b78), .unset, .unset, .unset, .unset, .unset, .unset, .unset, .unset] [(.int (54 : Int32)), (.int (17 : Int32)), (.ref b118), (.ref b118)])) t → Steps p.tables e below (s₁.setTop (entryFrame m #[(.int p0), (.int p1), (.int p2), (.int p3), (.int p4)] maxLocals)) t := by
    intro t k
    refine pre151 t ?_
    show Steps p.tables e below (T150.setTop (mkF m 334 #[.val (.int p0), .val (.int p1), .val (.int p2), .val (.int p3), .val (.int p4), .val (.ref b2), .val (.ref b78), .unset, .unset, .unset, .unset, .unset, .unset, .unset, .unset] [(.int (53 : Int32)), (.int (16 : Int32)), (.ref b118), (.ref b118)])) _
    refine st152 _ ?_
    show Steps p.tables e below (T152.setTop (mkF m 335 #[.val (.int p0), .val (.int p1), .val (.int p2), .val (.int p3), .val (.int p4), .val (.ref b2), .val (.ref b78), .unset, .unset, .unset, .unset, .unset, .unset, .unset, .unset] [(.ref b118)])) _
    refine XS.dup X152.here hx rfl (hb hby at_335) rfl rfl ?_
    show Steps p.tables e below (T152.setTop (mkF m 336 #[.val (.int p0), .val (.int p1), .val (.int p2), .val (.int p3), .val (.int p4), .val (.ref b2), .val (.ref b78), .unset, .unset, .unset, .unset, .unset, .unset, .unset, .unset] [(.ref b118), (.ref b118)])) _
    refine XS.bipush X152.here hx rfl (hb hby at_336) ?_
    show Steps p.tables e below (T152.setTop (mkF m 338 #[.val (.int p0), .val (.int p1), .val (.int p2), .val (.int p3), .val (.int p4), .val (.ref b2), .val (.ref b78), .unset, .unset, .unset, .unset, .unset, .unset, .unset, .unset] [(.int (17 : Int32)), (.ref b118), (.ref b118)])) _
    refine XS.bipush X152.here hx rfl (hb hby at_338) ?_
    exact k
  obtain ⟨T154, h154, X154, e154, W154, A154, st154⟩ := own_stI X152 hx hZ e152 A152 (j := (17 : Int32)) (x := (54 : Int32)) (k := 17) (by decide) (by decide) (by decide) (g := (mkF m 340 #[.val (.int p0), .val (.int p1), .val (.int p2), .val (.int p3), .val (.int p4), .val (.ref b2), .val (.ref b78), .unset, .unset, .unset, .unset, .unset, .unset, .unset, .unset] [(.int (54 : Int32)), (.int (17 : Int32)), (.ref b118), (.ref b118)])) rfl rfl (hb hby at_340)
  obtain ⟨g_340, hg_340⟩ : ∃ z : Nat → Int32, z = (own_upd g_334 17 (54 : Int32)) := ⟨_, rfl⟩
  rw [← hg_340] at A154
  have arr_b2_154 := arr_b2_152.other W154 ne_b2_b118
  have arr_b78_154 := arr_b78_152.other W154 ne_b78_b118
  have K154 := K152.wr W154 (Or.inr sz_b118)
  have Z154 := Nat.le_trans Z152 (Nat.le_of_eq W154.size.symm)
  have N154 := Fr.snoc X154 N152 ge_b118
  have pre155 : ∀ t, Steps p.tables e below (T154.setTop (mkF m 341 #[.val (.int p0), .val (.int p1), .val (.int p2), .val (.int p3), .val (.int p4), .val (.ref b2), .val (.ref b78), .unset, .unset, .unset, .unset, .unset, .unset, .unset, .unset] [(.ref b118)])) t → Steps p.tables e below (s₁.setTop (entryFrame m #[(.int p0), (.int p1), (.int p2), (.int p3), (.int p4)] maxLocals)) t := by
    intro t k
    refine pre153 t ?_
    show Steps p.tables e below (T152.setTop (mkF m 340 #[.val (.int p0), .val (.int p1), .val (.int p2), .val (.int p3), .val (.int p4), .val (.ref b2), .val (.ref b78), .unset, .unset, .unset, .unset, .unset, .unset, .unset, .unset] [(.int (54 : Int32)), (.int (17 : Int32)), (.ref b118), (.ref b118)])) _
    refine st154 _ ?_
    exact k
  have AR156 : own_A Z h154 b118 .int 18 (fun i => .int (own_pm i)) := A154.congr (fun i hi => congrArg Value.int (by rw [hg_340, hg_334, hg_328, hg_322, hg_316, hg_310, hg_304, hg_298, hg_292, hg_286, hg_280, hg_274, hg_268, hg_263, hg_258, hg_253, hg_248, hg_243]; exact own_pm_eq i hi))
  obtain ⟨v8_350, hv8_350⟩ : ∃ z : Int32, z = ((p0 &&& (2147483647 : Int32)) % (18 : Int32)) := ⟨_, rfl⟩
  have pre157 : ∀ t, Steps p.tables e below (T154.setTop (mkF m 355 #[.val (.int p0), .val (.int p1), .val (.int p2), .val (.int p3), .val (.int p4), .val (.ref b2), .val (.ref b78), .val (.ref b118), .val (.int v8_350), .unset, .unset, .unset, .unset, .unset, .unset] [(.int (p3 &&& (1 : Int32)))])) t → Steps p.tables e below (s₁.setTop (entryFrame m #[(.int p0), (.int p1), (.int p2), (.int p3), (.int p4)] maxLocals)) t := by
    intro t k
    refine pre155 t ?_
    show Steps p.tables e below (T154.setTop (mkF m 341 #[.val (.int p0), .val (.int p1), .val (.int p2), .val (.int p3), .val (.int p4), .val (.ref b2), .val (.ref b78), .unset, .unset, .unset, .unset, .unset, .unset, .unset, .unset] [(.ref b118)])) _
    refine XS.astore X154.here hx rfl (hb hby at_341) rfl rfl (l' := #[.val (.int p0), .val (.int p1), .val (.int p2), .val (.int p3), .val (.int p4), .val (.ref b2), .val (.ref b78), .val (.ref b118), .unset, .unset, .unset, .unset, .unset, .unset, .unset]) rfl ?_
    show Steps p.tables e below (T154.setTop (mkF m 343 #[.val (.int p0), .val (.int p1), .val (.int p2), .val (.int p3), .val (.int p4), .val (.ref b2), .val (.ref b78), .val (.ref b118), .unset, .unset, .unset, .unset, .unset, .unset, .unset] [])) _
    refine XS.iloadN X154.here hx rfl (hb hby at_343) rfl  ?_
    show Steps p.tables e below (T154.setTop (mkF m 344 #[.val (.int p0), .val (.int p1), .val (.int p2), .val (.int p3), .val (.int p4), .val (.ref b2), .val (.ref b78), .val (.ref b118), .unset, .unset, .unset, .unset, .unset, .unset, .unset] [(.int p0)])) _
    refine X154.ldcInt hx hown (mvT hZ (hw _ (List.mem_of_getElem? (i := 41) rfl))) (g := (mkF m 344 #[.val (.int p0), .val (.int p1), .val (.int p2), .val (.int p3), .val (.int p4), .val (.ref b2), .val (.ref b78), .val (.ref b118), .unset, .unset, .unset, .unset, .unset, .unset, .unset] [(.int p0)])) rfl (hb hby at_344) _ ?_
    show Steps p.tables e below (T154.setTop (mkF m 346 #[.val (.int p0), .val (.int p1), .val (.int p2), .val (.int p3), .val (.int p4), .val (.ref b2), .val (.ref b78), .val (.ref b118), .unset, .unset, .unset, .unset, .unset, .unset, .unset] [(.int (2147483647 : Int32)), (.int p0)])) _
    refine XS.iand X154.here hx rfl (hb hby at_346) rfl ?_
    show Steps p.tables e below (T154.setTop (mkF m 347 #[.val (.int p0), .val (.int p1), .val (.int p2), .val (.int p3), .val (.int p4), .val (.ref b2), .val (.ref b78), .val (.ref b118), .unset, .unset, .unset, .unset, .unset, .unset, .unset] [(.int (p0 &&& (2147483647 : Int32)))])) _
    refine XS.bipush X154.here hx rfl (hb hby at_347) ?_
    show Steps p.tables e below (T154.setTop (mkF m 349 #[.val (.int p0), .val (.int p1), .val (.int p2), .val (.int p3), .val (.int p4), .val (.ref b2), .val (.ref b78), .val (.ref b118), .unset, .unset, .unset, .unset, .unset, .unset, .unset] [(.int (18 : Int32)), (.int (p0 &&& (2147483647 : Int32)))])) _
    refine iremM X154 hx rfl (hb hby at_349) rfl (by decide) ?_
    show Steps p.tables e below (T154.setTop (mkF m 350 #[.val (.int p0), .val (.int p1), .val (.int p2), .val (.int p3), .val (.int p4), .val (.ref b2), .val (.ref b78), .val (.ref b118), .unset, .unset, .unset, .unset, .unset, .unset, .unset] [(.int ((p0 &&& (2147483647 : Int32)) % (18 : Int32)))])) _
    refine XS.istore X154.here hx rfl (hb hby at_350) rfl (l' := #[.val (.int p0), .val (.int p1), .val (.int p2), .val (.int p3), .val (.int p4), .val (.ref b2), .val (.ref b78), .val (.ref b118), .val (.int v8_350), .unset, .unset, .unset, .unset, .unset, .unset]) (by rw [hv8_350]; rfl) ?_
    show Steps p.tables e below (T154.setTop (mkF m 352 #[.val (.int p0), .val (.int p1), .val (.int p2), .val (.int p3), .val (.int p4), .val (.ref b2), .val (.ref b78), .val (.ref b118), .val (.int v8_350), .unset, .unset, .unset, .unset, .unset, .unset] [])) _
    refine XS.iloadN X154.here hx rfl (hb hby at_352) rfl  ?_
    show Steps p.tables e below (T154.setTop (mkF m 353 #[.val (.int p0), .val (.int p1), .val (.int p2), .val (.int p3), .val (.int p4), .val (.ref b2), .val (.ref b78), .val (.ref b118), .val (.int v8_350), .unset, .unset, .unset, .unset, .unset, .unset] [(.int p3)])) _
    refine XS.iconst X154.here hx rfl (hb hby at_353) ?_
    show Steps p.tables e below (T154.setTop (mkF m 354 #[.val (.int p0), .val (.int p1), .val (.int p2), .val (.int p3), .val (.int p4), .val (.ref b2), .val (.ref b78), .val (.ref b118), .val (.int v8_350), .unset, .unset, .unset, .unset, .unset, .unset] [(.int (1 : Int32)), (.int p3)])) _
    refine XS.iand X154.here hx rfl (hb hby at_354) rfl ?_
    exact k
  obtain ⟨ms0_363, hms0_363⟩ : ∃ z : Int32, z = (if (p3 &&& (1 : Int32)) = (0 : Int32) then (0 : Int32) else (1 : Int32)) := ⟨_, rfl⟩
  have pre158 : ∀ t, Steps p.tables e below (T154.setTop (mkF m 363 #[.val (.int p0), .val (.int p1), .val (.int p2), .val (.int p3), .val (.int p4), .val (.ref b2), .val (.ref b78), .val (.ref b118), .val (.int v8_350), .unset, .unset, .unset, .unset, .unset, .unset] [(.int ms0_363)])) t → Steps p.tables e below (s₁.setTop (entryFrame m #[(.int p0), (.int p1), (.int p2), (.int p3), (.int p4)] maxLocals)) t := by
    intro t k
    refine pre157 t ?_
    by_cases hc355 : (p3 &&& (1 : Int32)) = (0 : Int32)
    · show Steps p.tables e below (T154.setTop (mkF m 355 #[.val (.int p0), .val (.int p1), .val (.int p2), .val (.int p3), .val (.int p4), .val (.ref b2), .val (.ref b78), .val (.ref b118), .val (.int v8_350), .unset, .unset, .unset, .unset, .unset, .unset] [(.int (p3 &&& (1 : Int32)))])) _
      refine XS.ifYes X154.here hx rfl (pc0 := 355) (pc' := 362) rfl (hb hby at_355) rfl ((if0 _ _).trans (teq hc355).1) (by decide) (by decide) ?_
      show Steps p.tables e below (T154.setTop (mkF m 362 #[.val (.int p0), .val (.int p1), .val (.int p2), .val (.int p3), .val (.int p4), .val (.ref b2), .val (.ref b78), .val (.ref b118), .val (.int v8_350), .unset, .unset, .unset, .unset, .unset, .unset] [])) _
      refine XS.iconst X154.here hx rfl (hb hby at_362) ?_
      have qms0_363 : ms0_363 = (0 : Int32) := by rw [hms0_363, if_pos hc355]
      rw [qms0_363] at k
      exact k
    · show Steps p.tables e below (T154.setTop (mkF m 355 #[.val (.int p0), .val (.int p1), .val (.int p2), .val (.int p3), .val (.int p4), .val (.ref b2), .val (.ref b78), .val (.ref b118), .val (.int v8_350), .unset, .unset, .unset, .unset, .unset, .unset] [(.int (p3 &&& (1 : Int32)))])) _
      refine XS.ifNo X154.here hx rfl (hb hby at_355) rfl ((if0 _ _).trans (feq hc355).1) ?_
      show Steps p.tables e below (T154.setTop (mkF m 358 #[.val (.int p0), .val (.int p1), .val (.int p2), .val (.int p3), .val (.int p4), .val (.ref b2), .val (.ref b78), .val (.ref b118), .val (.int v8_350), .unset, .unset, .unset, .unset, .unset, .unset] [])) _
      refine XS.iconst X154.here hx rfl (hb hby at_358) ?_
      show Steps p.tables e below (T154.setTop (mkF m 359 #[.val (.int p0), .val (.int p1), .val (.int p2), .val (.int p3), .val (.int p4), .val (.ref b2), .val (.ref b78), .val (.ref b118), .val (.int v8_350), .unset, .unset, .unset, .unset, .unset, .unset] [(.int (1 : Int32))])) _
      refine XS.goto X154.here hx rfl (pc0 := 359) (pc' := 363) rfl (hb hby at_359) (by decide) (by decide) ?_
      have qms0_363 : ms0_363 = (1 : Int32) := by rw [hms0_363, if_neg hc355]
      rw [qms0_363] at k
      exact k
  have pre159 : ∀ t, Steps p.tables e below (T154.setTop (mkF m 368 #[.val (.int p0), .val (.int p1), .val (.int p2), .val (.int p3), .val (.int p4), .val (.ref b2), .val (.ref b78), .val (.ref b118), .val (.int v8_350), .val (.int ms0_363), .unset, .unset, .unset, .unset, .unset] [(.int (p3 &&& (2 : Int32)))])) t → Steps p.tables e below (s₁.setTop (entryFrame m #[(.int p0), (.int p1), (.int p2), (.int p3), (.int p4)] maxLocals)) t := by
    intro t k
    refine pre158 t ?_
    show Steps p.tables e below (T154.setTop (mkF m 363 #[.val (.int p0), .val (.int p1), .val (.int p2), .val (.int p3), .val (.int p4), .val (.ref b2), .val (.ref b78), .val (.ref b118), .val (.int v8_350), .unset, .unset, .unset, .unset, .unset, .unset] [(.int ms0_363)])) _
    refine XS.istore X154.here hx rfl (hb hby at_363) rfl (l' := #[.val (.int p0), .val (.int p1), .val (.int p2), .val (.int p3), .val (.int p4), .val (.ref b2), .val (.ref b78), .val (.ref b118), .val (.int v8_350), .val (.int ms0_363), .unset, .unset, .unset, .unset, .unset]) rfl ?_
    show Steps p.tables e below (T154.setTop (mkF m 365 #[.val (.int p0), .val (.int p1), .val (.int p2), .val (.int p3), .val (.int p4), .val (.ref b2), .val (.ref b78), .val (.ref b118), .val (.int v8_350), .val (.int ms0_363), .unset, .unset, .unset, .unset, .unset] [])) _
    refine XS.iloadN X154.here hx rfl (hb hby at_365) rfl  ?_
    show Steps p.tables e below (T154.setTop (mkF m 366 #[.val (.int p0), .val (.int p1), .val (.int p2), .val (.int p3), .val (.int p4), .val (.ref b2), .val (.ref b78), .val (.ref b118), .val (.int v8_350), .val (.int ms0_363), .unset, .unset, .unset, .unset, .unset] [(.int p3)])) _
    refine XS.iconst X154.here hx rfl (hb hby at_366) ?_
    show Steps p.tables e below (T154.setTop (mkF m 367 #[.val (.int p0), .val (.int p1), .val (.int p2), .val (.int p3), .val (.int p4), .val (.ref b2), .val (.ref b78), .val (.ref b118), .val (.int v8_350), .val (.int ms0_363), .unset, .unset, .unset, .unset, .unset] [(.int (2 : Int32)), (.int p3)])) _
    refine XS.iand X154.here hx rfl (hb hby at_367) rfl ?_
    exact k
  obtain ⟨ms0_376, hms0_376⟩ : ∃ z : Int32, z = (if (p3 &&& (2 : Int32)) = (0 : Int32) then (0 : Int32) else (1 : Int32)) := ⟨_, rfl⟩
  have pre160 : ∀ t, Steps p.tables e below (T154.setTop (mkF m 376 #[.val (.int p0), .val (.int p1), .val (.int p2), .val (.int p3), .val (.int p4), .val (.ref b2), .val (.ref b78), .val (.ref b118), .val (.int v8_350), .val (.int ms0_363), .unset, .unset, .unset, .unset, .unset] [(.int ms0_376)])) t → Steps p.tables e below (s₁.setTop (entryFrame m #[(.int p0), (.int p1), (.int p2), (.int p3), (.int p4)] maxLocals)) t := by
    intro t k
    refine pre159 t ?_
    by_cases hc368 : (p3 &&& (2 : Int32)) = (0 : Int32)
    · show Steps p.tables e below (T154.setTop (mkF m 368 #[.val (.int p0), .val (.int p1), .val (.int p2), .val (.int p3), .val (.int p4), .val (.ref b2), .val (.ref b78), .val (.ref b118), .val (.int v8_350), .val (.int ms0_363), .unset, .unset, .unset, .unset, .unset] [(.int (p3 &&& (2 : Int32)))])) _
      refine XS.ifYes X154.here hx rfl (pc0 := 368) (pc' := 375) rfl (hb hby at_368) rfl ((if0 _ _).trans (teq hc368).1) (by decide) (by decide) ?_
      show Steps p.tables e below (T154.setTop (mkF m 375 #[.val (.int p0), .val (.int p1), .val (.int p2), .val (.int p3), .val (.int p4), .val (.ref b2), .val (.ref b78), .val (.ref b118), .val (.int v8_350), .val (.int ms0_363), .unset, .unset, .unset, .unset, .unset] [])) _
      refine XS.iconst X154.here hx rfl (hb hby at_375) ?_
      have qms0_376 : ms0_376 = (0 : Int32) := by rw [hms0_376, if_pos hc368]
      rw [qms0_376] at k
      exact k
    · show Steps p.tables e below (T154.setTop (mkF m 368 #[.val (.int p0), .val (.int p1), .val (.int p2), .val (.int p3), .val (.int p4), .val (.ref b2), .val (.ref b78), .val (.ref b118), .val (.int v8_350), .val (.int ms0_363), .unset, .unset, .unset, .unset, .unset] [(.int (p3 &&& (2 : Int32)))])) _
      refine XS.ifNo X154.here hx rfl (hb hby at_368) rfl ((if0 _ _).trans (feq hc368).1) ?_
      show Steps p.tables e below (T154.setTop (mkF m 371 #[.val (.int p0), .val (.int p1), .val (.int p2), .val (.int p3), .val (.int p4), .val (.ref b2), .val (.ref b78), .val (.ref b118), .val (.int v8_350), .val (.int ms0_363), .unset, .unset, .unset, .unset, .unset] [])) _
      refine XS.iconst X154.here hx rfl (hb hby at_371) ?_
      show Steps p.tables e below (T154.setTop (mkF m 372 #[.val (.int p0), .val (.int p1), .val (.int p2), .val (.int p3), .val (.int p4), .val (.ref b2), .val (.ref b78), .val (.ref b118), .val (.int v8_350), .val (.int ms0_363), .unset, .unset, .unset, .unset, .unset] [(.int (1 : Int32))])) _
      refine XS.goto X154.here hx rfl (pc0 := 372) (pc' := 376) rfl (hb hby at_372) (by decide) (by decide) ?_
      have qms0_376 : ms0_376 = (1 : Int32) := by rw [hms0_376, if_neg hc368]
      rw [qms0_376] at k
      exact k
  have pre161 : ∀ t, Steps p.tables e below (T154.setTop (mkF m 379 #[.val (.int p0), .val (.int p1), .val (.int p2), .val (.int p3), .val (.int p4), .val (.ref b2), .val (.ref b78), .val (.ref b118), .val (.int v8_350), .val (.int ms0_363), .val (.int ms0_376), .unset, .unset, .unset, .unset] [(.int (4 : Int32))])) t → Steps p.tables e below (s₁.setTop (entryFrame m #[(.int p0), (.int p1), (.int p2), (.int p3), (.int p4)] maxLocals)) t := by
    intro t k
    refine pre160 t ?_
    show Steps p.tables e below (T154.setTop (mkF m 376 #[.val (.int p0), .val (.int p1), .val (.int p2), .val (.int p3), .val (.int p4), .val (.ref b2), .val (.ref b78), .val (.ref b118), .val (.int v8_350), .val (.int ms0_363), .unset, .unset, .unset, .unset, .unset] [(.int ms0_376)])) _
    refine XS.istore X154.here hx rfl (hb hby at_376) rfl (l' := #[.val (.int p0), .val (.int p1), .val (.int p2), .val (.int p3), .val (.int p4), .val (.ref b2), .val (.ref b78), .val (.ref b118), .val (.int v8_350), .val (.int ms0_363), .val (.int ms0_376), .unset, .unset, .unset, .unset]) rfl ?_
    show Steps p.tables e below (T154.setTop (mkF m 378 #[.val (.int p0), .val (.int p1), .val (.int p2), .val (.int p3), .val (.int p4), .val (.ref b2), .val (.ref b78), .val (.ref b118), .val (.int v8_350), .val (.int ms0_363), .val (.int ms0_376), .unset, .unset, .unset, .unset] [])) _
    refine XS.iconst X154.here hx rfl (hb hby at_378) ?_
    exact k
  obtain ⟨T162, h162, b162, gb162, X162, e162, E162, A162, st162⟩ := own_newP X154 hx hZ (hw _ (List.mem_of_getElem? (i := 42) rfl)) e154 (g := (mkF m 379 #[.val (.int p0), .val (.int p1), .val (.int p2), .val (.int p3), .val (.int p4), .val (.ref b2), .val (.ref b78), .val (.ref b118), .val (.int v8_350), .val (.int ms0_363), .val (.int ms0_376), .unset, .unset, .unset, .unset] [(.int (4 : Int32))])) rfl (hb hby at_379) rfl (by decide) (n := 4) rfl (G := fun i => .int (own_zI i)) (fun _ => rfl) (cap := 4) (by decide) (by decide) (by decide) (by decide)
  have ne_b2_b162 : b2 ≠ b162 := Nat.ne_of_lt (Nat.lt_of_lt_of_le arr_b2_154.lt (Nat.le_of_eq gb162.symm))
  have ne_b78_b162 : b78 ≠ b162 := Nat.ne_of_lt (Nat.lt_of_lt_of_le arr_b78_154.lt (Nat.le_of_eq gb162.symm))
  have ne_b118_b162 : b118 ≠ b162 := Nat.ne_of_lt (Nat.lt_of_lt_of_le AR156.lt (Nat.le_of_eq gb162.symm))
  have sz_b162 : h0.size ≤ b162 := Nat.le_trans K154.1 (Nat.le_of_eq gb162.symm)
  have ge_b162 : n0 ≤ b162 := Nat.le_trans Z154 (Nat.le_of_eq gb162.symm)
  have arr_b2_162 := arr_b2_154.ext E162
  have arr_b78_162 := arr_b78_154.ext E162
  have arr_b118_162 := AR156.ext E162
  have K162 := K154.ext E162
  have Z162 := Nat.le_trans Z154 E162.1
  have pre163 : ∀ t, Steps p.tables e below (T162.setTop (mkF m 388 #[.val (.int p0), .val (.int p1), .val (.int p2), .val (.int p3), .val (.int p4), .val (.ref b2), .val (.ref b78), .val (.ref b118), .val (.int v8_350), .val (.int ms0_363), .val (.int ms0_376), .val (.ref b162), .unset, .unset, .unset] [(.int ms0_363), (.int (0 : Int32)), (.ref b162)])) t → Steps p.tables e below (s₁.setTop (entryFrame m #[(.int p0), (.int p1), (.int p2), (.int p3), (.int p4)] maxLocals)) t := by
    intro t k
    refine pre161 t ?_
    show Steps p.tables e below (T154.setTop (mkF m 379 #[.val (.int p0), .val (.int p1), .val (.int p2), .val (.int p3), .val (.int p4), .val (.ref b2), .val (.ref b78), .val (.ref b118), .val (.int v8_350), .val (.int ms0_363), .val (.int ms0_376), .unset, .unset, .unset, .unset] [(.int (4 : Int32))])) _
    refine st162 _ ?_
    show Steps p.tables e below (T162.setTop (mkF m 381 #[.val (.int p0), .val (.int p1), .val (.int p2), .val (.int p3), .val (.int p4), .val (.ref b2), .val (.ref b78), .val (.ref b118), .val (.int v8_350), .val (.int ms0_363), .val (.int ms0_376), .unset, .unset, .unset, .unset] [(.ref b162)])) _
    refine XS.astore X162.here hx rfl (hb hby at_381) rfl rfl (l' := #[.val (.int p0), .val (.int p1), .val (.int p2), .val (.int p3), .val (.int p4), .val (.ref b2), .val (.ref b78), .val (.ref b118), .val (.int v8_350), .val (.int ms0_363), .val (.int ms0_376), .val (.ref b162), .unset, .unset, .unset]) rfl ?_
    show Steps p.tables e below (T162.setTop (mkF m 383 #[.val (.int p0), .val (.int p1), .val (.int p2), .val (.int p3), .val (.int p4), .val (.ref b2), .val (.ref b78), .val (.ref b118), .val (.int v8_350), .val (.int ms0_363), .val (.int ms0_376), .val (.ref b162), .unset, .unset, .unset] [])) _
    refine XS.aload X162.here hx rfl (hb hby at_383) rfl rfl ?_
    show Steps p.tables e below (T162.setTop (mkF m 385 #[.val (.int p0), .val (.int p1), .val (.int p2), .val (.int p3), .val (.int p4), .val (.ref b2), .val (.ref b78), .val (.ref b118), .val (.int v8_350), .val (.int ms0_363), .val (.int ms0_376), .val (.ref b162), .unset, .unset, .unset] [(.ref b162)])) _
    refine XS.iconst X162.here hx rfl (hb hby at_385) ?_
    show Steps p.tables e below (T162.setTop (mkF m 386 #[.val (.int p0), .val (.int p1), .val (.int p2), .val (.int p3), .val (.int p4), .val (.ref b2), .val (.ref b78), .val (.ref b118), .val (.int v8_350), .val (.int ms0_363), .val (.int ms0_376), .val (.ref b162), .unset, .unset, .unset] [(.int (0 : Int32)), (.ref b162)])) _
    refine XS.iload X162.here hx rfl (hb hby at_386) rfl  ?_
    exact k
  obtain ⟨ms0_402, hms0_402⟩ : ∃ z : Int32, z = (if ms0_363 = (0 : Int32) then (p1.toInt8.toInt32) else ((own_cd v8_350.toNatClampNeg).toInt8.toInt32)) := ⟨_, rfl⟩
  have pre164 : ∀ t, Steps p.tables e below (T162.setTop (mkF m 402 #[.val (.int p0), .val (.int p1), .val (.int p2), .val (.int p3), .val (.int p4), .val (.ref b2), .val (.ref b78), .val (.ref b118), .val (.int v8_350), .val (.int ms0_363), .val (.int ms0_376), .val (.ref b162), .unset, .unset, .unset] [(.int ms0_402), (.int (0 : Int32)), (.ref b162)])) t → Steps p.tables e below (s₁.setTop (entryFrame m #[(.int p0), (.int p1), (.int p2), (.int p3), (.int p4)] maxLocals)) t := by
    intro t k
    refine pre163 t ?_
    by_cases hc388 : ms0_363 = (0 : Int32)
    · show Steps p.tables e below (T162.setTop (mkF m 388 #[.val (.int p0), .val (.int p1), .val (.int p2), .val (.int p3), .val (.int p4), .val (.ref b2), .val (.ref b78), .val (.ref b118), .val (.int v8_350), .val (.int ms0_363), .val (.int ms0_376), .val (.ref b162), .unset, .unset, .unset] [(.int ms0_363), (.int (0 : Int32)), (.ref b162)])) _
      refine XS.ifYes X162.here hx rfl (pc0 := 388) (pc' := 400) rfl (hb hby at_388) rfl ((if0 _ _).trans (teq hc388).1) (by decide) (by decide) ?_
      show Steps p.tables e below (T162.setTop (mkF m 400 #[.val (.int p0), .val (.int p1), .val (.int p2), .val (.int p3), .val (.int p4), .val (.ref b2), .val (.ref b78), .val (.ref b118), .val (.int v8_350), .val (.int ms0_363), .val (.int ms0_376), .val (.ref b162), .unset, .unset, .unset] [(.int (0 : Int32)), (.ref b162)])) _
      refine XS.iloadN X162.here hx rfl (hb hby at_400) rfl  ?_
      show Steps p.tables e below (T162.setTop (mkF m 401 #[.val (.int p0), .val (.int p1), .val (.int p2), .val (.int p3), .val (.int p4), .val (.ref b2), .val (.ref b78), .val (.ref b118), .val (.int v8_350), .val (.int ms0_363), .val (.int ms0_376), .val (.ref b162), .unset, .unset, .unset] [(.int p1), (.int (0 : Int32)), (.ref b162)])) _
      refine XS.i2b X162.here hx rfl (hb hby at_401) rfl ?_
      have qms0_402 : ms0_402 = (p1.toInt8.toInt32) := by rw [hms0_402, if_pos hc388]
      rw [qms0_402] at k
      exact k
    · show Steps p.tables e below (T162.setTop (mkF m 388 #[.val (.int p0), .val (.int p1), .val (.int p2), .val (.int p3), .val (.int p4), .val (.ref b2), .val (.ref b78), .val (.ref b118), .val (.int v8_350), .val (.int ms0_363), .val (.int ms0_376), .val (.ref b162), .unset, .unset, .unset] [(.int ms0_363), (.int (0 : Int32)), (.ref b162)])) _
      refine XS.ifNo X162.here hx rfl (hb hby at_388) rfl ((if0 _ _).trans (feq hc388).1) ?_
      show Steps p.tables e below (T162.setTop (mkF m 391 #[.val (.int p0), .val (.int p1), .val (.int p2), .val (.int p3), .val (.int p4), .val (.ref b2), .val (.ref b78), .val (.ref b118), .val (.int v8_350), .val (.int ms0_363), .val (.int ms0_376), .val (.ref b162), .unset, .unset, .unset] [(.int (0 : Int32)), (.ref b162)])) _
      refine XS.aload X162.here hx rfl (hb hby at_391) rfl rfl ?_
      show Steps p.tables e below (T162.setTop (mkF m 393 #[.val (.int p0), .val (.int p1), .val (.int p2), .val (.int p3), .val (.int p4), .val (.ref b2), .val (.ref b78), .val (.ref b118), .val (.int v8_350), .val (.int ms0_363), .val (.int ms0_376), .val (.ref b162), .unset, .unset, .unset] [(.ref b78), (.int (0 : Int32)), (.ref b162)])) _
      refine XS.iload X162.here hx rfl (hb hby at_393) rfl  ?_
      show Steps p.tables e below (T162.setTop (mkF m 395 #[.val (.int p0), .val (.int p1), .val (.int p2), .val (.int p3), .val (.int p4), .val (.ref b2), .val (.ref b78), .val (.ref b118), .val (.int v8_350), .val (.int ms0_363), .val (.int ms0_376), .val (.ref b162), .unset, .unset, .unset] [(.int v8_350), (.ref b78), (.int (0 : Int32)), (.ref b162)])) _
      refine own_ldI X162 hx hZ e162 arr_b78_162 (j := v8_350) (k := v8_350.toNatClampNeg) (own_i8 hv8_350).1 rfl (own_i8 hv8_350).2 (g := (mkF m 395 #[.val (.int p0), .val (.int p1), .val (.int p2), .val (.int p3), .val (.int p4), .val (.ref b2), .val (.ref b78), .val (.ref b118), .val (.int v8_350), .val (.int ms0_363), .val (.int ms0_376), .val (.ref b162), .unset, .unset, .unset] [(.int v8_350), (.ref b78), (.int (0 : Int32)), (.ref b162)])) rfl rfl (hb hby at_395) ?_
      show Steps p.tables e below (T162.setTop (mkF m 396 #[.val (.int p0), .val (.int p1), .val (.int p2), .val (.int p3), .val (.int p4), .val (.ref b2), .val (.ref b78), .val (.ref b118), .val (.int v8_350), .val (.int ms0_363), .val (.int ms0_376), .val (.ref b162), .unset, .unset, .unset] [(.int (own_cd v8_350.toNatClampNeg)), (.int (0 : Int32)), (.ref b162)])) _
      refine XS.i2b X162.here hx rfl (hb hby at_396) rfl ?_
      show Steps p.tables e below (T162.setTop (mkF m 397 #[.val (.int p0), .val (.int p1), .val (.int p2), .val (.int p3), .val (.int p4), .val (.ref b2), .val (.ref b78), .val (.ref b118), .val (.int v8_350), .val (.int ms0_363), .val (.int ms0_376), .val (.ref b162), .unset, .unset, .unset] [(.int ((own_cd v8_350.toNatClampNeg).toInt8.toInt32)), (.int (0 : Int32)), (.ref b162)])) _
      refine XS.goto X162.here hx rfl (pc0 := 397) (pc' := 402) rfl (hb hby at_397) (by decide) (by decide) ?_
      have qms0_402 : ms0_402 = ((own_cd v8_350.toNatClampNeg).toInt8.toInt32) := by rw [hms0_402, if_neg hc388]
      rw [qms0_402] at k
      exact k
  obtain ⟨T165, h165, X165, e165, W165, A165, st165⟩ := own_stB X162 hx hZ e162 A162 (j := (0 : Int32)) (x := ms0_402) (k := 0) (by decide) (by decide) (by decide) (g := (mkF m 402 #[.val (.int p0), .val (.int p1), .val (.int p2), .val (.int p3), .val (.int p4), .val (.ref b2), .val (.ref b78), .val (.ref b118), .val (.int v8_350), .val (.int ms0_363), .val (.int ms0_376), .val (.ref b162), .unset, .unset, .unset] [(.int ms0_402), (.int (0 : Int32)), (.ref b162)])) rfl rfl (hb hby at_402)
  obtain ⟨g_402, hg_402⟩ : ∃ z : Nat → Int32, z = (own_upd own_zI 0 ms0_402.toInt8.toInt32) := ⟨_, rfl⟩
  rw [← hg_402] at A165
  have arr_b2_165 := arr_b2_162.other W165 ne_b2_b162
  have arr_b78_165 := arr_b78_162.other W165 ne_b78_b162
  have arr_b118_165 := arr_b118_162.other W165 ne_b118_b162
  have K165 := K162.wr W165 (Or.inr sz_b162)
  have Z165 := Nat.le_trans Z162 (Nat.le_of_eq W165.size.symm)
  have N165 := Fr.snoc X165 N154 ge_b162
  have pre166 : ∀ t, Steps p.tables e below (T165.setTop (mkF m 408 #[.val (.int p0), .val (.int p1), .val (.int p2), .val (.int p3), .val (.int p4), .val (.ref b2), .val (.ref b78), .val (.ref b118), .val (.int v8_350), .val (.int ms0_363), .val (.int ms0_376), .val (.ref b162), .unset, .unset, .unset] [(.int ms0_376), (.int (1 : Int32)), (.ref b162)])) t → Steps p.tables e below (s₁.setTop (entryFrame m #[(.int p0), (.int p1), (.int p2), (.int p3), (.int p4)] maxLocals)) t := by
    intro t k
    refine pre164 t ?_
    show Steps p.tables e below (T162.setTop (mkF m 402 #[.val (.int p0), .val (.int p1), .val (.int p2), .val (.int p3), .val (.int p4), .val (.ref b2), .val (.ref b78), .val (.ref b118), .val (.int v8_350), .val (.int ms0_363), .val (.int ms0_376), .val (.ref b162), .unset, .unset, .unset] [(.int ms0_402), (.int (0 : Int32)), (.ref b162)])) _
    refine st165 _ ?_
    show Steps p.tables e below (T165.setTop (mkF m 403 #[.val (.int p0), .val (.int p1), .val (.int p2), .val (.int p3), .val (.int p4), .val (.ref b2), .val (.ref b78), .val (.ref b118), .val (.int v8_350), .val (.int ms0_363), .val (.int ms0_376), .val (.ref b162), .unset, .unset, .unset] [])) _
    refine XS.aload X165.here hx rfl (hb hby at_403) rfl rfl ?_
    show Steps p.tables e below (T165.setTop (mkF m 405 #[.val (.int p0), .val (.int p1), .val (.int p2), .val (.int p3), .val (.int p4), .val (.ref b2), .val (.ref b78), .val (.ref b118), .val (.int v8_350), .val (.int ms0_363), .val (.int ms0_376), .val (.ref b162), .unset, .unset, .unset] [(.ref b162)])) _
    refine XS.iconst X165.here hx rfl (hb hby at_405) ?_
    show Steps p.tables e below (T165.setTop (mkF m 406 #[.val (.int p0), .val (.int p1), .val (.int p2), .val (.int p3), .val (.int p4), .val (.ref b2), .val (.ref b78), .val (.ref b118), .val (.int v8_350), .val (.int ms0_363), .val (.int ms0_376), .val (.ref b162), .unset, .unset, .unset] [(.int (1 : Int32)), (.ref b162)])) _
    refine XS.iload X165.here hx rfl (hb hby at_406) rfl  ?_
    exact k
  obtain ⟨ms0_422, hms0_422⟩ : ∃ z : Int32, z = (if ms0_376 = (0 : Int32) then (p2.toInt8.toInt32) else ((own_pm v8_350.toNatClampNeg).toInt8.toInt32)) := ⟨_, rfl⟩
  have pre167 : ∀ t, Steps p.tables e below (T165.setTop (mkF m 422 #[.val (.int p0), .val (.int p1), .val (.int p2), .val (.int p3), .val (.int p4), .val (.ref b2), .val (.ref b78), .val (.ref b118), .val (.int v8_350), .val (.int ms0_363), .val (.int ms0_376), .val (.ref b162), .unset, .unset, .unset] [(.int ms0_422), (.int (1 : Int32)), (.ref b162)])) t → Steps p.tables e below (s₁.setTop (entryFrame m #[(.int p0), (.int p1), (.int p2), (.int p3), (.int p4)] maxLocals)) t := by
    intro t k
    refine pre166 t ?_
    by_cases hc408 : ms0_376 = (0 : Int32)
    · show Steps p.tables e below (T165.setTop (mkF m 408 #[.val (.int p0), .val (.int p1), .val (.int p2), .val (.int p3), .val (.int p4), .val (.ref b2), .val (.ref b78), .val (.ref b118), .val (.int v8_350), .val (.int ms0_363), .val (.int ms0_376), .val (.ref b162), .unset, .unset, .unset] [(.int ms0_376), (.int (1 : Int32)), (.ref b162)])) _
      refine XS.ifYes X165.here hx rfl (pc0 := 408) (pc' := 420) rfl (hb hby at_408) rfl ((if0 _ _).trans (teq hc408).1) (by decide) (by decide) ?_
      show Steps p.tables e below (T165.setTop (mkF m 420 #[.val (.int p0), .val (.int p1), .val (.int p2), .val (.int p3), .val (.int p4), .val (.ref b2), .val (.ref b78), .val (.ref b118), .val (.int v8_350), .val (.int ms0_363), .val (.int ms0_376), .val (.ref b162), .unset, .unset, .unset] [(.int (1 : Int32)), (.ref b162)])) _
      refine XS.iloadN X165.here hx rfl (hb hby at_420) rfl  ?_
      show Steps p.tables e below (T165.setTop (mkF m 421 #[.val (.int p0), .val (.int p1), .val (.int p2), .val (.int p3), .val (.int p4), .val (.ref b2), .val (.ref b78), .val (.ref b118), .val (.int v8_350), .val (.int ms0_363), .val (.int ms0_376), .val (.ref b162), .unset, .unset, .unset] [(.int p2), (.int (1 : Int32)), (.ref b162)])) _
      refine XS.i2b X165.here hx rfl (hb hby at_421) rfl ?_
      have qms0_422 : ms0_422 = (p2.toInt8.toInt32) := by rw [hms0_422, if_pos hc408]
      rw [qms0_422] at k
      exact k
    · show Steps p.tables e below (T165.setTop (mkF m 408 #[.val (.int p0), .val (.int p1), .val (.int p2), .val (.int p3), .val (.int p4), .val (.ref b2), .val (.ref b78), .val (.ref b118), .val (.int v8_350), .val (.int ms0_363), .val (.int ms0_376), .val (.ref b162), .unset, .unset, .unset] [(.int ms0_376), (.int (1 : Int32)), (.ref b162)])) _
      refine XS.ifNo X165.here hx rfl (hb hby at_408) rfl ((if0 _ _).trans (feq hc408).1) ?_
      show Steps p.tables e below (T165.setTop (mkF m 411 #[.val (.int p0), .val (.int p1), .val (.int p2), .val (.int p3), .val (.int p4), .val (.ref b2), .val (.ref b78), .val (.ref b118), .val (.int v8_350), .val (.int ms0_363), .val (.int ms0_376), .val (.ref b162), .unset, .unset, .unset] [(.int (1 : Int32)), (.ref b162)])) _
      refine XS.aload X165.here hx rfl (hb hby at_411) rfl rfl ?_
      show Steps p.tables e below (T165.setTop (mkF m 413 #[.val (.int p0), .val (.int p1), .val (.int p2), .val (.int p3), .val (.int p4), .val (.ref b2), .val (.ref b78), .val (.ref b118), .val (.int v8_350), .val (.int ms0_363), .val (.int ms0_376), .val (.ref b162), .unset, .unset, .unset] [(.ref b118), (.int (1 : Int32)), (.ref b162)])) _
      refine XS.iload X165.here hx rfl (hb hby at_413) rfl  ?_
      show Steps p.tables e below (T165.setTop (mkF m 415 #[.val (.int p0), .val (.int p1), .val (.int p2), .val (.int p3), .val (.int p4), .val (.ref b2), .val (.ref b78), .val (.ref b118), .val (.int v8_350), .val (.int ms0_363), .val (.int ms0_376), .val (.ref b162), .unset, .unset, .unset] [(.int v8_350), (.ref b118), (.int (1 : Int32)), (.ref b162)])) _
      refine own_ldI X165 hx hZ e165 arr_b118_165 (j := v8_350) (k := v8_350.toNatClampNeg) (own_i8 hv8_350).1 rfl (own_i8 hv8_350).2 (g := (mkF m 415 #[.val (.int p0), .val (.int p1), .val (.int p2), .val (.int p3), .val (.int p4), .val (.ref b2), .val (.ref b78), .val (.ref b118), .val (.int v8_350), .val (.int ms0_363), .val (.int ms0_376), .val (.ref b162), .unset, .unset, .unset] [(.int v8_350), (.ref b118), (.int (1 : Int32)), (.ref b162)])) rfl rfl (hb hby at_415) ?_
      show Steps p.tables e below (T165.setTop (mkF m 416 #[.val (.int p0), .val (.int p1), .val (.int p2), .val (.int p3), .val (.int p4), .val (.ref b2), .val (.ref b78), .val (.ref b118), .val (.int v8_350), .val (.int ms0_363), .val (.int ms0_376), .val (.ref b162), .unset, .unset, .unset] [(.int (own_pm v8_350.toNatClampNeg)), (.int (1 : Int32)), (.ref b162)])) _
      refine XS.i2b X165.here hx rfl (hb hby at_416) rfl ?_
      show Steps p.tables e below (T165.setTop (mkF m 417 #[.val (.int p0), .val (.int p1), .val (.int p2), .val (.int p3), .val (.int p4), .val (.ref b2), .val (.ref b78), .val (.ref b118), .val (.int v8_350), .val (.int ms0_363), .val (.int ms0_376), .val (.ref b162), .unset, .unset, .unset] [(.int ((own_pm v8_350.toNatClampNeg).toInt8.toInt32)), (.int (1 : Int32)), (.ref b162)])) _
      refine XS.goto X165.here hx rfl (pc0 := 417) (pc' := 422) rfl (hb hby at_417) (by decide) (by decide) ?_
      have qms0_422 : ms0_422 = ((own_pm v8_350.toNatClampNeg).toInt8.toInt32) := by rw [hms0_422, if_neg hc408]
      rw [qms0_422] at k
      exact k
  obtain ⟨T168, h168, X168, e168, W168, A168, st168⟩ := own_stB X165 hx hZ e165 A165 (j := (1 : Int32)) (x := ms0_422) (k := 1) (by decide) (by decide) (by decide) (g := (mkF m 422 #[.val (.int p0), .val (.int p1), .val (.int p2), .val (.int p3), .val (.int p4), .val (.ref b2), .val (.ref b78), .val (.ref b118), .val (.int v8_350), .val (.int ms0_363), .val (.int ms0_376), .val (.ref b162), .unset, .unset, .unset] [(.int ms0_422), (.int (1 : Int32)), (.ref b162)])) rfl rfl (hb hby at_422)
  obtain ⟨g_422, hg_422⟩ : ∃ z : Nat → Int32, z = (own_upd g_402 1 ms0_422.toInt8.toInt32) := ⟨_, rfl⟩
  rw [← hg_422] at A168
  have arr_b2_168 := arr_b2_165.other W168 ne_b2_b162
  have arr_b78_168 := arr_b78_165.other W168 ne_b78_b162
  have arr_b118_168 := arr_b118_165.other W168 ne_b118_b162
  have K168 := K165.wr W168 (Or.inr sz_b162)
  have Z168 := Nat.le_trans Z165 (Nat.le_of_eq W168.size.symm)
  have N168 := Fr.snoc X168 N165 ge_b162
  have pre169 : ∀ t, Steps p.tables e below (T168.setTop (mkF m 429 #[.val (.int p0), .val (.int p1), .val (.int p2), .val (.int p3), .val (.int p4), .val (.ref b2), .val (.ref b78), .val (.ref b118), .val (.int v8_350), .val (.int ms0_363), .val (.int ms0_376), .val (.ref b162), .unset, .unset, .unset] [(.int (p4.toInt8.toInt32)), (.int (2 : Int32)), (.ref b162)])) t → Steps p.tables e below (s₁.setTop (entryFrame m #[(.int p0), (.int p1), (.int p2), (.int p3), (.int p4)] maxLocals)) t := by
    intro t k
    refine pre167 t ?_
    show Steps p.tables e below (T165.setTop (mkF m 422 #[.val (.int p0), .val (.int p1), .val (.int p2), .val (.int p3), .val (.int p4), .val (.ref b2), .val (.ref b78), .val (.ref b118), .val (.int v8_350), .val (.int ms0_363), .val (.int ms0_376), .val (.ref b162), .unset, .unset, .unset] [(.int ms0_422), (.int (1 : Int32)), (.ref b162)])) _
    refine st168 _ ?_
    show Steps p.tables e below (T168.setTop (mkF m 423 #[.val (.int p0), .val (.int p1), .val (.int p2), .val (.int p3), .val (.int p4), .val (.ref b2), .val (.ref b78), .val (.ref b118), .val (.int v8_350), .val (.int ms0_363), .val (.int ms0_376), .val (.ref b162), .unset, .unset, .unset] [])) _
    refine XS.aload X168.here hx rfl (hb hby at_423) rfl rfl ?_
    show Steps p.tables e below (T168.setTop (mkF m 425 #[.val (.int p0), .val (.int p1), .val (.int p2), .val (.int p3), .val (.int p4), .val (.ref b2), .val (.ref b78), .val (.ref b118), .val (.int v8_350), .val (.int ms0_363), .val (.int ms0_376), .val (.ref b162), .unset, .unset, .unset] [(.ref b162)])) _
    refine XS.iconst X168.here hx rfl (hb hby at_425) ?_
    show Steps p.tables e below (T168.setTop (mkF m 426 #[.val (.int p0), .val (.int p1), .val (.int p2), .val (.int p3), .val (.int p4), .val (.ref b2), .val (.ref b78), .val (.ref b118), .val (.int v8_350), .val (.int ms0_363), .val (.int ms0_376), .val (.ref b162), .unset, .unset, .unset] [(.int (2 : Int32)), (.ref b162)])) _
    refine XS.iload X168.here hx rfl (hb hby at_426) rfl  ?_
    show Steps p.tables e below (T168.setTop (mkF m 428 #[.val (.int p0), .val (.int p1), .val (.int p2), .val (.int p3), .val (.int p4), .val (.ref b2), .val (.ref b78), .val (.ref b118), .val (.int v8_350), .val (.int ms0_363), .val (.int ms0_376), .val (.ref b162), .unset, .unset, .unset] [(.int p4), (.int (2 : Int32)), (.ref b162)])) _
    refine XS.i2b X168.here hx rfl (hb hby at_428) rfl ?_
    exact k
  obtain ⟨T170, h170, X170, e170, W170, A170, st170⟩ := own_stB X168 hx hZ e168 A168 (j := (2 : Int32)) (x := (p4.toInt8.toInt32)) (k := 2) (by decide) (by decide) (by decide) (g := (mkF m 429 #[.val (.int p0), .val (.int p1), .val (.int p2), .val (.int p3), .val (.int p4), .val (.ref b2), .val (.ref b78), .val (.ref b118), .val (.int v8_350), .val (.int ms0_363), .val (.int ms0_376), .val (.ref b162), .unset, .unset, .unset] [(.int (p4.toInt8.toInt32)), (.int (2 : Int32)), (.ref b162)])) rfl rfl (hb hby at_429)
  obtain ⟨g_429, hg_429⟩ : ∃ z : Nat → Int32, z = (own_upd g_422 2 (p4.toInt8.toInt32).toInt8.toInt32) := ⟨_, rfl⟩
  rw [← hg_429] at A170
  have arr_b2_170 := arr_b2_168.other W170 ne_b2_b162
  have arr_b78_170 := arr_b78_168.other W170 ne_b78_b162
  have arr_b118_170 := arr_b118_168.other W170 ne_b118_b162
  have K170 := K168.wr W170 (Or.inr sz_b162)
  have Z170 := Nat.le_trans Z168 (Nat.le_of_eq W170.size.symm)
  have N170 := Fr.snoc X170 N168 ge_b162
  have pre171 : ∀ t, Steps p.tables e below (T170.setTop (mkF m 439 #[.val (.int p0), .val (.int p1), .val (.int p2), .val (.int p3), .val (.int p4), .val (.ref b2), .val (.ref b78), .val (.ref b118), .val (.int v8_350), .val (.int ms0_363), .val (.int ms0_376), .val (.ref b162), .unset, .unset, .unset] [(.int (((p4.toUInt32 >>> ((8 : Int32) &&& 31).toUInt32).toInt32).toInt8.toInt32)), (.int (3 : Int32)), (.ref b162)])) t → Steps p.tables e below (s₁.setTop (entryFrame m #[(.int p0), (.int p1), (.int p2), (.int p3), (.int p4)] maxLocals)) t := by
    intro t k
    refine pre169 t ?_
    show Steps p.tables e below (T168.setTop (mkF m 429 #[.val (.int p0), .val (.int p1), .val (.int p2), .val (.int p3), .val (.int p4), .val (.ref b2), .val (.ref b78), .val (.ref b118), .val (.int v8_350), .val (.int ms0_363), .val (.int ms0_376), .val (.ref b162), .unset, .unset, .unset] [(.int (p4.toInt8.toInt32)), (.int (2 : Int32)), (.ref b162)])) _
    refine st170 _ ?_
    show Steps p.tables e below (T170.setTop (mkF m 430 #[.val (.int p0), .val (.int p1), .val (.int p2), .val (.int p3), .val (.int p4), .val (.ref b2), .val (.ref b78), .val (.ref b118), .val (.int v8_350), .val (.int ms0_363), .val (.int ms0_376), .val (.ref b162), .unset, .unset, .unset] [])) _
    refine XS.aload X170.here hx rfl (hb hby at_430) rfl rfl ?_
    show Steps p.tables e below (T170.setTop (mkF m 432 #[.val (.int p0), .val (.int p1), .val (.int p2), .val (.int p3), .val (.int p4), .val (.ref b2), .val (.ref b78), .val (.ref b118), .val (.int v8_350), .val (.int ms0_363), .val (.int ms0_376), .val (.ref b162), .unset, .unset, .unset] [(.ref b162)])) _
    refine XS.iconst X170.here hx rfl (hb hby at_432) ?_
    show Steps p.tables e below (T170.setTop (mkF m 433 #[.val (.int p0), .val (.int p1), .val (.int p2), .val (.int p3), .val (.int p4), .val (.ref b2), .val (.ref b78), .val (.ref b118), .val (.int v8_350), .val (.int ms0_363), .val (.int ms0_376), .val (.ref b162), .unset, .unset, .unset] [(.int (3 : Int32)), (.ref b162)])) _
    refine XS.iload X170.here hx rfl (hb hby at_433) rfl  ?_
    show Steps p.tables e below (T170.setTop (mkF m 435 #[.val (.int p0), .val (.int p1), .val (.int p2), .val (.int p3), .val (.int p4), .val (.ref b2), .val (.ref b78), .val (.ref b118), .val (.int v8_350), .val (.int ms0_363), .val (.int ms0_376), .val (.ref b162), .unset, .unset, .unset] [(.int p4), (.int (3 : Int32)), (.ref b162)])) _
    refine XS.bipush X170.here hx rfl (hb hby at_435) ?_
    show Steps p.tables e below (T170.setTop (mkF m 437 #[.val (.int p0), .val (.int p1), .val (.int p2), .val (.int p3), .val (.int p4), .val (.ref b2), .val (.ref b78), .val (.ref b118), .val (.int v8_350), .val (.int ms0_363), .val (.int ms0_376), .val (.ref b162), .unset, .unset, .unset] [(.int (8 : Int32)), (.int p4), (.int (3 : Int32)), (.ref b162)])) _
    refine XS.iushr X170.here hx rfl (hb hby at_437) rfl ?_
    show Steps p.tables e below (T170.setTop (mkF m 438 #[.val (.int p0), .val (.int p1), .val (.int p2), .val (.int p3), .val (.int p4), .val (.ref b2), .val (.ref b78), .val (.ref b118), .val (.int v8_350), .val (.int ms0_363), .val (.int ms0_376), .val (.ref b162), .unset, .unset, .unset] [(.int ((p4.toUInt32 >>> ((8 : Int32) &&& 31).toUInt32).toInt32)), (.int (3 : Int32)), (.ref b162)])) _
    refine XS.i2b X170.here hx rfl (hb hby at_438) rfl ?_
    exact k
  obtain ⟨T172, h172, X172, e172, W172, A172, st172⟩ := own_stB X170 hx hZ e170 A170 (j := (3 : Int32)) (x := (((p4.toUInt32 >>> ((8 : Int32) &&& 31).toUInt32).toInt32).toInt8.toInt32)) (k := 3) (by decide) (by decide) (by decide) (g := (mkF m 439 #[.val (.int p0), .val (.int p1), .val (.int p2), .val (.int p3), .val (.int p4), .val (.ref b2), .val (.ref b78), .val (.ref b118), .val (.int v8_350), .val (.int ms0_363), .val (.int ms0_376), .val (.ref b162), .unset, .unset, .unset] [(.int (((p4.toUInt32 >>> ((8 : Int32) &&& 31).toUInt32).toInt32).toInt8.toInt32)), (.int (3 : Int32)), (.ref b162)])) rfl rfl (hb hby at_439)
  obtain ⟨g_439, hg_439⟩ : ∃ z : Nat → Int32, z = (own_upd g_429 3 (((p4.toUInt32 >>> ((8 : Int32) &&& 31).toUInt32).toInt32).toInt8.toInt32).toInt8.toInt32) := ⟨_, rfl⟩
  rw [← hg_439] at A172
  have arr_b2_172 := arr_b2_170.other W172 ne_b2_b162
  have arr_b78_172 := arr_b78_170.other W172 ne_b78_b162
  have arr_b118_172 := arr_b118_170.other W172 ne_b118_b162
  have K172 := K170.wr W172 (Or.inr sz_b162)
  have Z172 := Nat.le_trans Z170 (Nat.le_of_eq W172.size.symm)
  have N172 := Fr.snoc X172 N170 ge_b162
  have pre173 : ∀ t, Steps p.tables e below (T172.setTop (mkF m 442 #[.val (.int p0), .val (.int p1), .val (.int p2), .val (.int p3), .val (.int p4), .val (.ref b2), .val (.ref b78), .val (.ref b118), .val (.int v8_350), .val (.int ms0_363), .val (.int ms0_376), .val (.ref b162), .unset, .unset, .unset] [(.int ms0_363)])) t → Steps p.tables e below (s₁.setTop (entryFrame m #[(.int p0), (.int p1), (.int p2), (.int p3), (.int p4)] maxLocals)) t := by
    intro t k
    refine pre171 t ?_
    show Steps p.tables e below (T170.setTop (mkF m 439 #[.val (.int p0), .val (.int p1), .val (.int p2), .val (.int p3), .val (.int p4), .val (.ref b2), .val (.ref b78), .val (.ref b118), .val (.int v8_350), .val (.int ms0_363), .val (.int ms0_376), .val (.ref b162), .unset, .unset, .unset] [(.int (((p4.toUInt32 >>> ((8 : Int32) &&& 31).toUInt32).toInt32).toInt8.toInt32)), (.int (3 : Int32)), (.ref b162)])) _
    refine st172 _ ?_
    show Steps p.tables e below (T172.setTop (mkF m 440 #[.val (.int p0), .val (.int p1), .val (.int p2), .val (.int p3), .val (.int p4), .val (.ref b2), .val (.ref b78), .val (.ref b118), .val (.int v8_350), .val (.int ms0_363), .val (.int ms0_376), .val (.ref b162), .unset, .unset, .unset] [])) _
    refine XS.iload X172.here hx rfl (hb hby at_440) rfl  ?_
    exact k
  obtain ⟨ms0_463, hms0_463⟩ : ∃ z : Int32, z = (if ms0_363 = (0 : Int32) then (if (p1 &&& (255 : Int32)) = (own_cd v8_350.toNatClampNeg) then (1 : Int32) else (0 : Int32)) else (1 : Int32)) := ⟨_, rfl⟩
  have pre174 : ∀ t, Steps p.tables e below (T172.setTop (mkF m 463 #[.val (.int p0), .val (.int p1), .val (.int p2), .val (.int p3), .val (.int p4), .val (.ref b2), .val (.ref b78), .val (.ref b118), .val (.int v8_350), .val (.int ms0_363), .val (.int ms0_376), .val (.ref b162), .unset, .unset, .unset] [(.int ms0_463)])) t → Steps p.tables e below (s₁.setTop (entryFrame m #[(.int p0), (.int p1), (.int p2), (.int p3), (.int p4)] maxLocals)) t := by
    intro t k
    refine pre173 t ?_
    by_cases hc442 : ms0_363 = (0 : Int32)
    · show Steps p.tables e below (T172.setTop (mkF m 442 #[.val (.int p0), .val (.int p1), .val (.int p2), .val (.int p3), .val (.int p4), .val (.ref b2), .val (.ref b78), .val (.ref b118), .val (.int v8_350), .val (.int ms0_363), .val (.int ms0_376), .val (.ref b162), .unset, .unset, .unset] [(.int ms0_363)])) _
      refine XS.ifNo X172.here hx rfl (hb hby at_442) rfl ((if0 _ _).trans (teq hc442).2) ?_
      show Steps p.tables e below (T172.setTop (mkF m 445 #[.val (.int p0), .val (.int p1), .val (.int p2), .val (.int p3), .val (.int p4), .val (.ref b2), .val (.ref b78), .val (.ref b118), .val (.int v8_350), .val (.int ms0_363), .val (.int ms0_376), .val (.ref b162), .unset, .unset, .unset] [])) _
      refine XS.iloadN X172.here hx rfl (hb hby at_445) rfl  ?_
      show Steps p.tables e below (T172.setTop (mkF m 446 #[.val (.int p0), .val (.int p1), .val (.int p2), .val (.int p3), .val (.int p4), .val (.ref b2), .val (.ref b78), .val (.ref b118), .val (.int v8_350), .val (.int ms0_363), .val (.int ms0_376), .val (.ref b162), .unset, .unset, .unset] [(.int p1)])) _
      refine XS.sipush X172.here hx rfl (hb hby at_446) ?_
      show Steps p.tables e below (T172.setTop (mkF m 449 #[.val (.int p0), .val (.int p1), .val (.int p2), .val (.int p3), .val (.int p4), .val (.ref b2), .val (.ref b78), .val (.ref b118), .val (.int v8_350), .val (.int ms0_363), .val (.int ms0_376), .val (.ref b162), .unset, .unset, .unset] [(.int (255 : Int32)), (.int p1)])) _
      refine XS.iand X172.here hx rfl (hb hby at_449) rfl ?_
      show Steps p.tables e below (T172.setTop (mkF m 450 #[.val (.int p0), .val (.int p1), .val (.int p2), .val (.int p3), .val (.int p4), .val (.ref b2), .val (.ref b78), .val (.ref b118), .val (.int v8_350), .val (.int ms0_363), .val (.int ms0_376), .val (.ref b162), .unset, .unset, .unset] [(.int (p1 &&& (255 : Int32)))])) _
      refine XS.aload X172.here hx rfl (hb hby at_450) rfl rfl ?_
      show Steps p.tables e below (T172.setTop (mkF m 452 #[.val (.int p0), .val (.int p1), .val (.int p2), .val (.int p3), .val (.int p4), .val (.ref b2), .val (.ref b78), .val (.ref b118), .val (.int v8_350), .val (.int ms0_363), .val (.int ms0_376), .val (.ref b162), .unset, .unset, .unset] [(.ref b78), (.int (p1 &&& (255 : Int32)))])) _
      refine XS.iload X172.here hx rfl (hb hby at_452) rfl  ?_
      show Steps p.tables e below (T172.setTop (mkF m 454 #[.val (.int p0), .val (.int p1), .val (.int p2), .val (.int p3), .val (.int p4), .val (.ref b2), .val (.ref b78), .val (.ref b118), .val (.int v8_350), .val (.int ms0_363), .val (.int ms0_376), .val (.ref b162), .unset, .unset, .unset] [(.int v8_350), (.ref b78), (.int (p1 &&& (255 : Int32)))])) _
      refine own_ldI X172 hx hZ e172 arr_b78_172 (j := v8_350) (k := v8_350.toNatClampNeg) (own_i8 hv8_350).1 rfl (own_i8 hv8_350).2 (g := (mkF m 454 #[.val (.int p0), .val (.int p1), .val (.int p2), .val (.int p3), .val (.int p4), .val (.ref b2), .val (.ref b78), .val (.ref b118), .val (.int v8_350), .val (.int ms0_363), .val (.int ms0_376), .val (.ref b162), .unset, .unset, .unset] [(.int v8_350), (.ref b78), (.int (p1 &&& (255 : Int32)))])) rfl rfl (hb hby at_454) ?_
      by_cases hc455 : (p1 &&& (255 : Int32)) = (own_cd v8_350.toNatClampNeg)
      · show Steps p.tables e below (T172.setTop (mkF m 455 #[.val (.int p0), .val (.int p1), .val (.int p2), .val (.int p3), .val (.int p4), .val (.ref b2), .val (.ref b78), .val (.ref b118), .val (.int v8_350), .val (.int ms0_363), .val (.int ms0_376), .val (.ref b162), .unset, .unset, .unset] [(.int (own_cd v8_350.toNatClampNeg)), (.int (p1 &&& (255 : Int32)))])) _
        refine XS.icmpNo X172.here hx rfl (hb hby at_455) rfl (teq hc455).2 ?_
        show Steps p.tables e below (T172.setTop (mkF m 458 #[.val (.int p0), .val (.int p1), .val (.int p2), .val (.int p3), .val (.int p4), .val (.ref b2), .val (.ref b78), .val (.ref b118), .val (.int v8_350), .val (.int ms0_363), .val (.int ms0_376), .val (.ref b162), .unset, .unset, .unset] [])) _
        refine XS.iconst X172.here hx rfl (hb hby at_458) ?_
        show Steps p.tables e below (T172.setTop (mkF m 459 #[.val (.int p0), .val (.int p1), .val (.int p2), .val (.int p3), .val (.int p4), .val (.ref b2), .val (.ref b78), .val (.ref b118), .val (.int v8_350), .val (.int ms0_363), .val (.int ms0_376), .val (.ref b162), .unset, .unset, .unset] [(.int (1 : Int32))])) _
        refine XS.goto X172.here hx rfl (pc0 := 459) (pc' := 463) rfl (hb hby at_459) (by decide) (by decide) ?_
        have qms0_463 : ms0_463 = (1 : Int32) := by rw [hms0_463, if_pos hc442, if_pos hc455]
        rw [qms0_463] at k
        exact k
      · show Steps p.tables e below (T172.setTop (mkF m 455 #[.val (.int p0), .val (.int p1), .val (.int p2), .val (.int p3), .val (.int p4), .val (.ref b2), .val (.ref b78), .val (.ref b118), .val (.int v8_350), .val (.int ms0_363), .val (.int ms0_376), .val (.ref b162), .unset, .unset, .unset] [(.int (own_cd v8_350.toNatClampNeg)), (.int (p1 &&& (255 : Int32)))])) _
        refine XS.icmpYes X172.here hx rfl (pc0 := 455) (pc' := 462) rfl (hb hby at_455) rfl (feq hc455).2 (by decide) (by decide) ?_
        show Steps p.tables e below (T172.setTop (mkF m 462 #[.val (.int p0), .val (.int p1), .val (.int p2), .val (.int p3), .val (.int p4), .val (.ref b2), .val (.ref b78), .val (.ref b118), .val (.int v8_350), .val (.int ms0_363), .val (.int ms0_376), .val (.ref b162), .unset, .unset, .unset] [])) _
        refine XS.iconst X172.here hx rfl (hb hby at_462) ?_
        have qms0_463 : ms0_463 = (0 : Int32) := by rw [hms0_463, if_pos hc442, if_neg hc455]
        rw [qms0_463] at k
        exact k
    · show Steps p.tables e below (T172.setTop (mkF m 442 #[.val (.int p0), .val (.int p1), .val (.int p2), .val (.int p3), .val (.int p4), .val (.ref b2), .val (.ref b78), .val (.ref b118), .val (.int v8_350), .val (.int ms0_363), .val (.int ms0_376), .val (.ref b162), .unset, .unset, .unset] [(.int ms0_363)])) _
      refine XS.ifYes X172.here hx rfl (pc0 := 442) (pc' := 458) rfl (hb hby at_442) rfl ((if0 _ _).trans (feq hc442).2) (by decide) (by decide) ?_
      show Steps p.tables e below (T172.setTop (mkF m 458 #[.val (.int p0), .val (.int p1), .val (.int p2), .val (.int p3), .val (.int p4), .val (.ref b2), .val (.ref b78), .val (.ref b118), .val (.int v8_350), .val (.int ms0_363), .val (.int ms0_376), .val (.ref b162), .unset, .unset, .unset] [])) _
      refine XS.iconst X172.here hx rfl (hb hby at_458) ?_
      show Steps p.tables e below (T172.setTop (mkF m 459 #[.val (.int p0), .val (.int p1), .val (.int p2), .val (.int p3), .val (.int p4), .val (.ref b2), .val (.ref b78), .val (.ref b118), .val (.int v8_350), .val (.int ms0_363), .val (.int ms0_376), .val (.ref b162), .unset, .unset, .unset] [(.int (1 : Int32))])) _
      refine XS.goto X172.here hx rfl (pc0 := 459) (pc' := 463) rfl (hb hby at_459) (by decide) (by decide) ?_
      have qms0_463 : ms0_463 = (1 : Int32) := by rw [hms0_463, if_neg hc442]
      rw [qms0_463] at k
      exact k
  have pre175 : ∀ t, Steps p.tables e below (T172.setTop (mkF m 467 #[.val (.int p0), .val (.int p1), .val (.int p2), .val (.int p3), .val (.int p4), .val (.ref b2), .val (.ref b78), .val (.ref b118), .val (.int v8_350), .val (.int ms0_363), .val (.int ms0_376), .val (.ref b162), .val (.int ms0_463), .unset, .unset] [(.int ms0_376)])) t → Steps p.tables e below (s₁.setTop (entryFrame m #[(.int p0), (.int p1), (.int p2), (.int p3), (.int p4)] maxLocals)) t := by
    intro t k
    refine pre174 t ?_
    show Steps p.tables e below (T172.setTop (mkF m 463 #[.val (.int p0), .val (.int p1), .val (.int p2), .val (.int p3), .val (.int p4), .val (.ref b2), .val (.ref b78), .val (.ref b118), .val (.int v8_350), .val (.int ms0_363), .val (.int ms0_376), .val (.ref b162), .unset, .unset, .unset] [(.int ms0_463)])) _
    refine XS.istore X172.here hx rfl (hb hby at_463) rfl (l' := #[.val (.int p0), .val (.int p1), .val (.int p2), .val (.int p3), .val (.int p4), .val (.ref b2), .val (.ref b78), .val (.ref b118), .val (.int v8_350), .val (.int ms0_363), .val (.int ms0_376), .val (.ref b162), .val (.int ms0_463), .unset, .unset]) rfl ?_
    show Steps p.tables e below (T172.setTop (mkF m 465 #[.val (.int p0), .val (.int p1), .val (.int p2), .val (.int p3), .val (.int p4), .val (.ref b2), .val (.ref b78), .val (.ref b118), .val (.int v8_350), .val (.int ms0_363), .val (.int ms0_376), .val (.ref b162), .val (.int ms0_463), .unset, .unset] [])) _
    refine XS.iload X172.here hx rfl (hb hby at_465) rfl  ?_
    exact k
  obtain ⟨ms0_488, hms0_488⟩ : ∃ z : Int32, z = (if ms0_376 = (0 : Int32) then (if (p2 &&& (255 : Int32)) = (own_pm v8_350.toNatClampNeg) then (1 : Int32) else (0 : Int32)) else (1 : Int32)) := ⟨_, rfl⟩
  have pre176 : ∀ t, Steps p.tables e below (T172.setTop (mkF m 488 #[.val (.int p0), .val (.int p1), .val (.int p2), .val (.int p3), .val (.int p4), .val (.ref b2), .val (.ref b78), .val (.ref b118), .val (.int v8_350), .val (.int ms0_363), .val (.int ms0_376), .val (.ref b162), .val (.int ms0_463), .unset, .unset] [(.int ms0_488)])) t → Steps p.tables e below (s₁.setTop (entryFrame m #[(.int p0), (.int p1), (.int p2), (.int p3), (.int p4)] maxLocals)) t := by
    intro t k
    refine pre175 t ?_
    by_cases hc467 : ms0_376 = (0 : Int32)
    · show Steps p.tables e below (T172.setTop (mkF m 467 #[.val (.int p0), .val (.int p1), .val (.int p2), .val (.int p3), .val (.int p4), .val (.ref b2), .val (.ref b78), .val (.ref b118), .val (.int v8_350), .val (.int ms0_363), .val (.int ms0_376), .val (.ref b162), .val (.int ms0_463), .unset, .unset] [(.int ms0_376)])) _
      refine XS.ifNo X172.here hx rfl (hb hby at_467) rfl ((if0 _ _).trans (teq hc467).2) ?_
      show Steps p.tables e below (T172.setTop (mkF m 470 #[.val (.int p0), .val (.int p1), .val (.int p2), .val (.int p3), .val (.int p4), .val (.ref b2), .val (.ref b78), .val (.ref b118), .val (.int v8_350), .val (.int ms0_363), .val (.int ms0_376), .val (.ref b162), .val (.int ms0_463), .unset, .unset] [])) _
      refine XS.iloadN X172.here hx rfl (hb hby at_470) rfl  ?_
      show Steps p.tables e below (T172.setTop (mkF m 471 #[.val (.int p0), .val (.int p1), .val (.int p2), .val (.int p3), .val (.int p4), .val (.ref b2), .val (.ref b78), .val (.ref b118), .val (.int v8_350), .val (.int ms0_363), .val (.int ms0_376), .val (.ref b162), .val (.int ms0_463), .unset, .unset] [(.int p2)])) _
      refine XS.sipush X172.here hx rfl (hb hby at_471) ?_
      show Steps p.tables e below (T172.setTop (mkF m 474 #[.val (.int p0), .val (.int p1), .val (.int p2), .val (.int p3), .val (.int p4), .val (.ref b2), .val (.ref b78), .val (.ref b118), .val (.int v8_350), .val (.int ms0_363), .val (.int ms0_376), .val (.ref b162), .val (.int ms0_463), .unset, .unset] [(.int (255 : Int32)), (.int p2)])) _
      refine XS.iand X172.here hx rfl (hb hby at_474) rfl ?_
      show Steps p.tables e below (T172.setTop (mkF m 475 #[.val (.int p0), .val (.int p1), .val (.int p2), .val (.int p3), .val (.int p4), .val (.ref b2), .val (.ref b78), .val (.ref b118), .val (.int v8_350), .val (.int ms0_363), .val (.int ms0_376), .val (.ref b162), .val (.int ms0_463), .unset, .unset] [(.int (p2 &&& (255 : Int32)))])) _
      refine XS.aload X172.here hx rfl (hb hby at_475) rfl rfl ?_
      show Steps p.tables e below (T172.setTop (mkF m 477 #[.val (.int p0), .val (.int p1), .val (.int p2), .val (.int p3), .val (.int p4), .val (.ref b2), .val (.ref b78), .val (.ref b118), .val (.int v8_350), .val (.int ms0_363), .val (.int ms0_376), .val (.ref b162), .val (.int ms0_463), .unset, .unset] [(.ref b118), (.int (p2 &&& (255 : Int32)))])) _
      refine XS.iload X172.here hx rfl (hb hby at_477) rfl  ?_
      show Steps p.tables e below (T172.setTop (mkF m 479 #[.val (.int p0), .val (.int p1), .val (.int p2), .val (.int p3), .val (.int p4), .val (.ref b2), .val (.ref b78), .val (.ref b118), .val (.int v8_350), .val (.int ms0_363), .val (.int ms0_376), .val (.ref b162), .val (.int ms0_463), .unset, .unset] [(.int v8_350), (.ref b118), (.int (p2 &&& (255 : Int32)))])) _
      refine own_ldI X172 hx hZ e172 arr_b118_172 (j := v8_350) (k := v8_350.toNatClampNeg) (own_i8 hv8_350).1 rfl (own_i8 hv8_350).2 (g := (mkF m 479 #[.val (.int p0), .val (.int p1), .val (.int p2), .val (.int p3), .val (.int p4), .val (.ref b2), .val (.ref b78), .val (.ref b118), .val (.int v8_350), .val (.int ms0_363), .val (.int ms0_376), .val (.ref b162), .val (.int ms0_463), .unset, .unset] [(.int v8_350), (.ref b118), (.int (p2 &&& (255 : Int32)))])) rfl rfl (hb hby at_479) ?_
      by_cases hc480 : (p2 &&& (255 : Int32)) = (own_pm v8_350.toNatClampNeg)
      · show Steps p.tables e below (T172.setTop (mkF m 480 #[.val (.int p0), .val (.int p1), .val (.int p2), .val (.int p3), .val (.int p4), .val (.ref b2), .val (.ref b78), .val (.ref b118), .val (.int v8_350), .val (.int ms0_363), .val (.int ms0_376), .val (.ref b162), .val (.int ms0_463), .unset, .unset] [(.int (own_pm v8_350.toNatClampNeg)), (.int (p2 &&& (255 : Int32)))])) _
        refine XS.icmpNo X172.here hx rfl (hb hby at_480) rfl (teq hc480).2 ?_
        show Steps p.tables e below (T172.setTop (mkF m 483 #[.val (.int p0), .val (.int p1), .val (.int p2), .val (.int p3), .val (.int p4), .val (.ref b2), .val (.ref b78), .val (.ref b118), .val (.int v8_350), .val (.int ms0_363), .val (.int ms0_376), .val (.ref b162), .val (.int ms0_463), .unset, .unset] [])) _
        refine XS.iconst X172.here hx rfl (hb hby at_483) ?_
        show Steps p.tables e below (T172.setTop (mkF m 484 #[.val (.int p0), .val (.int p1), .val (.int p2), .val (.int p3), .val (.int p4), .val (.ref b2), .val (.ref b78), .val (.ref b118), .val (.int v8_350), .val (.int ms0_363), .val (.int ms0_376), .val (.ref b162), .val (.int ms0_463), .unset, .unset] [(.int (1 : Int32))])) _
        refine XS.goto X172.here hx rfl (pc0 := 484) (pc' := 488) rfl (hb hby at_484) (by decide) (by decide) ?_
        have qms0_488 : ms0_488 = (1 : Int32) := by rw [hms0_488, if_pos hc467, if_pos hc480]
        rw [qms0_488] at k
        exact k
      · show Steps p.tables e below (T172.setTop (mkF m 480 #[.val (.int p0), .val (.int p1), .val (.int p2), .val (.int p3), .val (.int p4), .val (.ref b2), .val (.ref b78), .val (.ref b118), .val (.int v8_350), .val (.int ms0_363), .val (.int ms0_376), .val (.ref b162), .val (.int ms0_463), .unset, .unset] [(.int (own_pm v8_350.toNatClampNeg)), (.int (p2 &&& (255 : Int32)))])) _
        refine XS.icmpYes X172.here hx rfl (pc0 := 480) (pc' := 487) rfl (hb hby at_480) rfl (feq hc480).2 (by decide) (by decide) ?_
        show Steps p.tables e below (T172.setTop (mkF m 487 #[.val (.int p0), .val (.int p1), .val (.int p2), .val (.int p3), .val (.int p4), .val (.ref b2), .val (.ref b78), .val (.ref b118), .val (.int v8_350), .val (.int ms0_363), .val (.int ms0_376), .val (.ref b162), .val (.int ms0_463), .unset, .unset] [])) _
        refine XS.iconst X172.here hx rfl (hb hby at_487) ?_
        have qms0_488 : ms0_488 = (0 : Int32) := by rw [hms0_488, if_pos hc467, if_neg hc480]
        rw [qms0_488] at k
        exact k
    · show Steps p.tables e below (T172.setTop (mkF m 467 #[.val (.int p0), .val (.int p1), .val (.int p2), .val (.int p3), .val (.int p4), .val (.ref b2), .val (.ref b78), .val (.ref b118), .val (.int v8_350), .val (.int ms0_363), .val (.int ms0_376), .val (.ref b162), .val (.int ms0_463), .unset, .unset] [(.int ms0_376)])) _
      refine XS.ifYes X172.here hx rfl (pc0 := 467) (pc' := 483) rfl (hb hby at_467) rfl ((if0 _ _).trans (feq hc467).2) (by decide) (by decide) ?_
      show Steps p.tables e below (T172.setTop (mkF m 483 #[.val (.int p0), .val (.int p1), .val (.int p2), .val (.int p3), .val (.int p4), .val (.ref b2), .val (.ref b78), .val (.ref b118), .val (.int v8_350), .val (.int ms0_363), .val (.int ms0_376), .val (.ref b162), .val (.int ms0_463), .unset, .unset] [])) _
      refine XS.iconst X172.here hx rfl (hb hby at_483) ?_
      show Steps p.tables e below (T172.setTop (mkF m 484 #[.val (.int p0), .val (.int p1), .val (.int p2), .val (.int p3), .val (.int p4), .val (.ref b2), .val (.ref b78), .val (.ref b118), .val (.int v8_350), .val (.int ms0_363), .val (.int ms0_376), .val (.ref b162), .val (.int ms0_463), .unset, .unset] [(.int (1 : Int32))])) _
      refine XS.goto X172.here hx rfl (pc0 := 484) (pc' := 488) rfl (hb hby at_484) (by decide) (by decide) ?_
      have qms0_488 : ms0_488 = (1 : Int32) := by rw [hms0_488, if_neg hc467]
      rw [qms0_488] at k
      exact k
  have pre177 : ∀ t, Steps p.tables e below (T172.setTop (mkF m 492 #[.val (.int p0), .val (.int p1), .val (.int p2), .val (.int p3), .val (.int p4), .val (.ref b2), .val (.ref b78), .val (.ref b118), .val (.int v8_350), .val (.int ms0_363), .val (.int ms0_376), .val (.ref b162), .val (.int ms0_463), .val (.int ms0_488), .unset] [(.int ms0_463)])) t → Steps p.tables e below (s₁.setTop (entryFrame m #[(.int p0), (.int p1), (.int p2), (.int p3), (.int p4)] maxLocals)) t := by
    intro t k
    refine pre176 t ?_
    show Steps p.tables e below (T172.setTop (mkF m 488 #[.val (.int p0), .val (.int p1), .val (.int p2), .val (.int p3), .val (.int p4), .val (.ref b2), .val (.ref b78), .val (.ref b118), .val (.int v8_350), .val (.int ms0_363), .val (.int ms0_376), .val (.ref b162), .val (.int ms0_463), .unset, .unset] [(.int ms0_488)])) _
    refine XS.istore X172.here hx rfl (hb hby at_488) rfl (l' := #[.val (.int p0), .val (.int p1), .val (.int p2), .val (.int p3), .val (.int p4), .val (.ref b2), .val (.ref b78), .val (.ref b118), .val (.int v8_350), .val (.int ms0_363), .val (.int ms0_376), .val (.ref b162), .val (.int ms0_463), .val (.int ms0_488), .unset]) rfl ?_
    show Steps p.tables e below (T172.setTop (mkF m 490 #[.val (.int p0), .val (.int p1), .val (.int p2), .val (.int p3), .val (.int p4), .val (.ref b2), .val (.ref b78), .val (.ref b118), .val (.int v8_350), .val (.int ms0_363), .val (.int ms0_376), .val (.ref b162), .val (.int ms0_463), .val (.int ms0_488), .unset] [])) _
    refine XS.iload X172.here hx rfl (hb hby at_490) rfl  ?_
    exact k
  obtain ⟨ms0_505, hms0_505⟩ : ∃ z : Int32, z = (if ms0_463 = (0 : Int32) then (0 : Int32) else (if ms0_488 = (0 : Int32) then (0 : Int32) else (1 : Int32))) := ⟨_, rfl⟩
  have pre178 : ∀ t, Steps p.tables e below (T172.setTop (mkF m 505 #[.val (.int p0), .val (.int p1), .val (.int p2), .val (.int p3), .val (.int p4), .val (.ref b2), .val (.ref b78), .val (.ref b118), .val (.int v8_350), .val (.int ms0_363), .val (.int ms0_376), .val (.ref b162), .val (.int ms0_463), .val (.int ms0_488), .unset] [(.int ms0_505)])) t → Steps p.tables e below (s₁.setTop (entryFrame m #[(.int p0), (.int p1), (.int p2), (.int p3), (.int p4)] maxLocals)) t := by
    intro t k
    refine pre177 t ?_
    by_cases hc492 : ms0_463 = (0 : Int32)
    · show Steps p.tables e below (T172.setTop (mkF m 492 #[.val (.int p0), .val (.int p1), .val (.int p2), .val (.int p3), .val (.int p4), .val (.ref b2), .val (.ref b78), .val (.ref b118), .val (.int v8_350), .val (.int ms0_363), .val (.int ms0_376), .val (.ref b162), .val (.int ms0_463), .val (.int ms0_488), .unset] [(.int ms0_463)])) _
      refine XS.ifYes X172.here hx rfl (pc0 := 492) (pc' := 504) rfl (hb hby at_492) rfl ((if0 _ _).trans (teq hc492).1) (by decide) (by decide) ?_
      show Steps p.tables e below (T172.setTop (mkF m 504 #[.val (.int p0), .val (.int p1), .val (.int p2), .val (.int p3), .val (.int p4), .val (.ref b2), .val (.ref b78), .val (.ref b118), .val (.int v8_350), .val (.int ms0_363), .val (.int ms0_376), .val (.ref b162), .val (.int ms0_463), .val (.int ms0_488), .unset] [])) _
      refine XS.iconst X172.here hx rfl (hb hby at_504) ?_
      have qms0_505 : ms0_505 = (0 : Int32) := by rw [hms0_505, if_pos hc492]
      rw [qms0_505] at k
      exact k
    · show Steps p.tables e below (T172.setTop (mkF m 492 #[.val (.int p0), .val (.int p1), .val (.int p2), .val (.int p3), .val (.int p4), .val (.ref b2), .val (.ref b78), .val (.ref b118), .val (.int v8_350), .val (.int ms0_363), .val (.int ms0_376), .val (.ref b162), .val (.int ms0_463), .val (.int ms0_488), .unset] [(.int ms0_463)])) _
      refine XS.ifNo X172.here hx rfl (hb hby at_492) rfl ((if0 _ _).trans (feq hc492).1) ?_
      show Steps p.tables e below (T172.setTop (mkF m 495 #[.val (.int p0), .val (.int p1), .val (.int p2), .val (.int p3), .val (.int p4), .val (.ref b2), .val (.ref b78), .val (.ref b118), .val (.int v8_350), .val (.int ms0_363), .val (.int ms0_376), .val (.ref b162), .val (.int ms0_463), .val (.int ms0_488), .unset] [])) _
      refine XS.iload X172.here hx rfl (hb hby at_495) rfl  ?_
      by_cases hc497 : ms0_488 = (0 : Int32)
      · show Steps p.tables e below (T172.setTop (mkF m 497 #[.val (.int p0), .val (.int p1), .val (.int p2), .val (.int p3), .val (.int p4), .val (.ref b2), .val (.ref b78), .val (.ref b118), .val (.int v8_350), .val (.int ms0_363), .val (.int ms0_376), .val (.ref b162), .val (.int ms0_463), .val (.int ms0_488), .unset] [(.int ms0_488)])) _
        refine XS.ifYes X172.here hx rfl (pc0 := 497) (pc' := 504) rfl (hb hby at_497) rfl ((if0 _ _).trans (teq hc497).1) (by decide) (by decide) ?_
        show Steps p.tables e below (T172.setTop (mkF m 504 #[.val (.int p0), .val (.int p1), .val (.int p2), .val (.int p3), .val (.int p4), .val (.ref b2), .val (.ref b78), .val (.ref b118), .val (.int v8_350), .val (.int ms0_363), .val (.int ms0_376), .val (.ref b162), .val (.int ms0_463), .val (.int ms0_488), .unset] [])) _
        refine XS.iconst X172.here hx rfl (hb hby at_504) ?_
        have qms0_505 : ms0_505 = (0 : Int32) := by rw [hms0_505, if_neg hc492, if_pos hc497]
        rw [qms0_505] at k
        exact k
      · show Steps p.tables e below (T172.setTop (mkF m 497 #[.val (.int p0), .val (.int p1), .val (.int p2), .val (.int p3), .val (.int p4), .val (.ref b2), .val (.ref b78), .val (.ref b118), .val (.int v8_350), .val (.int ms0_363), .val (.int ms0_376), .val (.ref b162), .val (.int ms0_463), .val (.int ms0_488), .unset] [(.int ms0_488)])) _
        refine XS.ifNo X172.here hx rfl (hb hby at_497) rfl ((if0 _ _).trans (feq hc497).1) ?_
        show Steps p.tables e below (T172.setTop (mkF m 500 #[.val (.int p0), .val (.int p1), .val (.int p2), .val (.int p3), .val (.int p4), .val (.ref b2), .val (.ref b78), .val (.ref b118), .val (.int v8_350), .val (.int ms0_363), .val (.int ms0_376), .val (.ref b162), .val (.int ms0_463), .val (.int ms0_488), .unset] [])) _
        refine XS.iconst X172.here hx rfl (hb hby at_500) ?_
        show Steps p.tables e below (T172.setTop (mkF m 501 #[.val (.int p0), .val (.int p1), .val (.int p2), .val (.int p3), .val (.int p4), .val (.ref b2), .val (.ref b78), .val (.ref b118), .val (.int v8_350), .val (.int ms0_363), .val (.int ms0_376), .val (.ref b162), .val (.int ms0_463), .val (.int ms0_488), .unset] [(.int (1 : Int32))])) _
        refine XS.goto X172.here hx rfl (pc0 := 501) (pc' := 505) rfl (hb hby at_501) (by decide) (by decide) ?_
        have qms0_505 : ms0_505 = (1 : Int32) := by rw [hms0_505, if_neg hc492, if_neg hc497]
        rw [qms0_505] at k
        exact k
  have pre179 : ∀ t, Steps p.tables e below (T172.setTop (mkF m 512 #[.val (.int p0), .val (.int p1), .val (.int p2), .val (.int p3), .val (.int p4), .val (.ref b2), .val (.ref b78), .val (.ref b118), .val (.int v8_350), .val (.int ms0_363), .val (.int ms0_376), .val (.ref b162), .val (.int ms0_463), .val (.int ms0_488), .val (.int ms0_505)] [(.ref (en v8_350.toNatClampNeg))])) t → Steps p.tables e below (s₁.setTop (entryFrame m #[(.int p0), (.int p1), (.int p2), (.int p3), (.int p4)] maxLocals)) t := by
    intro t k
    refine pre178 t ?_
    show Steps p.tables e below (T172.setTop (mkF m 505 #[.val (.int p0), .val (.int p1), .val (.int p2), .val (.int p3), .val (.int p4), .val (.ref b2), .val (.ref b78), .val (.ref b118), .val (.int v8_350), .val (.int ms0_363), .val (.int ms0_376), .val (.ref b162), .val (.int ms0_463), .val (.int ms0_488), .unset] [(.int ms0_505)])) _
    refine XS.istore X172.here hx rfl (hb hby at_505) rfl (l' := #[.val (.int p0), .val (.int p1), .val (.int p2), .val (.int p3), .val (.int p4), .val (.ref b2), .val (.ref b78), .val (.ref b118), .val (.int v8_350), .val (.int ms0_363), .val (.int ms0_376), .val (.ref b162), .val (.int ms0_463), .val (.int ms0_488), .val (.int ms0_505)]) rfl ?_
    show Steps p.tables e below (T172.setTop (mkF m 507 #[.val (.int p0), .val (.int p1), .val (.int p2), .val (.int p3), .val (.int p4), .val (.ref b2), .val (.ref b78), .val (.ref b118), .val (.int v8_350), .val (.int ms0_363), .val (.int ms0_376), .val (.ref b162), .val (.int ms0_463), .val (.int ms0_488), .val (.int ms0_505)] [])) _
    refine XS.aload X172.here hx rfl (hb hby at_507) rfl rfl ?_
    show Steps p.tables e below (T172.setTop (mkF m 509 #[.val (.int p0), .val (.int p1), .val (.int p2), .val (.int p3), .val (.int p4), .val (.ref b2), .val (.ref b78), .val (.ref b118), .val (.int v8_350), .val (.int ms0_363), .val (.int ms0_376), .val (.ref b162), .val (.int ms0_463), .val (.int ms0_488), .val (.int ms0_505)] [(.ref b2)])) _
    refine XS.iload X172.here hx rfl (hb hby at_509) rfl  ?_
    show Steps p.tables e below (T172.setTop (mkF m 511 #[.val (.int p0), .val (.int p1), .val (.int p2), .val (.int p3), .val (.int p4), .val (.ref b2), .val (.ref b78), .val (.ref b118), .val (.int v8_350), .val (.int ms0_363), .val (.int ms0_376), .val (.ref b162), .val (.int ms0_463), .val (.int ms0_488), .val (.int ms0_505)] [(.int v8_350), (.ref b2)])) _
    refine own_ldR X172 hx hZ e172 arr_b2_172 rfl (j := v8_350) (k := v8_350.toNatClampNeg) (v := .ref (en v8_350.toNatClampNeg)) rfl (own_i8 hv8_350).1 rfl (own_i8 hv8_350).2 (g := (mkF m 511 #[.val (.int p0), .val (.int p1), .val (.int p2), .val (.int p3), .val (.int p4), .val (.ref b2), .val (.ref b78), .val (.ref b118), .val (.int v8_350), .val (.int ms0_363), .val (.int ms0_376), .val (.ref b162), .val (.int ms0_463), .val (.int ms0_488), .val (.int ms0_505)] [(.int v8_350), (.ref b2)])) rfl rfl (hb hby at_511) ?_
    exact k
  obtain ⟨oo, hoo⟩ : ∃ z : Addr, z = (en v8_350.toNatClampNeg) := ⟨_, rfl⟩
  have pre180 : ∀ t, Steps p.tables e below (T172.setTop (mkF m 512 #[.val (.int p0), .val (.int p1), .val (.int p2), .val (.int p3), .val (.int p4), .val (.ref b2), .val (.ref b78), .val (.ref b118), .val (.int v8_350), .val (.int ms0_363), .val (.int ms0_376), .val (.ref b162), .val (.int ms0_463), .val (.int ms0_488), .val (.int ms0_505)] [(.ref oo)])) t → Steps p.tables e below (s₁.setTop (entryFrame m #[(.int p0), (.int p1), (.int p2), (.int p3), (.int p4)] maxLocals)) t := by
    intro t k
    rw [hoo] at k
    exact pre179 t k
  have OE : Exa Z h172 oo "com/example/cardwire/cardwire/f6/F6Command" := by rw [hoo]; exact (hE _ (own_i8 hv8_350).2).keep K172
  have OF_code : Fld Z h172 oo "com/example/cardwire/cardwire/f6/F6Command" "code" "I" (.int (own_cd v8_350.toNatClampNeg)) := by rw [hoo]; exact (hC _ (own_i8 hv8_350).2).keep K172 nin0
  have OF_parameter : Fld Z h172 oo "com/example/cardwire/cardwire/f6/F6Command" "parameter" "I" (.int (own_pm v8_350.toNatClampNeg)) := by rw [hoo]; exact (hP _ (own_i8 hv8_350).2).keep K172 nin0
  have pre182 : ∀ t, Steps p.tables e below (T172.setTop (mkF m 514 #[.val (.int p0), .val (.int p1), .val (.int p2), .val (.int p3), .val (.int p4), .val (.ref b2), .val (.ref b78), .val (.ref b118), .val (.int v8_350), .val (.int ms0_363), .val (.int ms0_376), .val (.ref b162), .val (.int ms0_463), .val (.int ms0_488), .val (.int ms0_505)] [(.ref b162), (.ref oo)])) t → Steps p.tables e below (s₁.setTop (entryFrame m #[(.int p0), (.int p1), (.int p2), (.int p3), (.int p4)] maxLocals)) t := by
    intro t k
    refine pre180 t ?_
    show Steps p.tables e below (T172.setTop (mkF m 512 #[.val (.int p0), .val (.int p1), .val (.int p2), .val (.int p3), .val (.int p4), .val (.ref b2), .val (.ref b78), .val (.ref b118), .val (.int v8_350), .val (.int ms0_363), .val (.int ms0_376), .val (.ref b162), .val (.int ms0_463), .val (.int ms0_488), .val (.int ms0_505)] [(.ref oo)])) _
    refine XS.aload X172.here hx rfl (hb hby at_512) rfl rfl ?_
    exact k
  obtain ⟨cq181, kq181, q181a, q181b, q181c⟩ := isOf hZ e172 OE
  obtain ⟨_, _, ⟨T181, L181, k181, n181⟩, -, X181, ⟨Lc181, hQ181, l181, y181, z181⟩, st181⟩ := X172.virtualBack hx (y := (⟨"com/example/cardwire/cardwire/f6/F6Command", "startsBody", "([B)Z"⟩ : MethodName)) (z := (⟨"com/example/cardwire/cardwire/f6/F6Command", "startsBody", "([B)Z"⟩ : MethodName)) hown (mvT hZ (hw _ (List.mem_of_getElem? (i := 43) rfl))) (mvT hZ (hw _ (List.mem_of_getElem? (i := 44) rfl))) (notFace_of_selects (args := #[]) (mvT hZ (hw _ (List.mem_of_getElem? (i := 46) rfl)))) (mvT hZ (hw _ (List.mem_of_getElem? (i := 46) rfl))) (mvT hZ (hw _ (List.mem_of_getElem? (i := 45) rfl))) (by decide) (backOf (W := 0) (rm_1 l Z a0 hw [] oo b162 (own_cd v8_350.toNatClampNeg) (own_pm v8_350.toNatClampNeg) g_439 h172 n0 Z172 OF_code OF_parameter A172) hZ (hw _ (List.mem_of_getElem? (i := 47) rfl)) (hw _ (List.mem_of_getElem? (i := 3) rfl)) (by decide) (by decide)) q181a q181c (g := (mkF m 514 #[.val (.int p0), .val (.int p1), .val (.int p2), .val (.int p3), .val (.int p4), .val (.ref b2), .val (.ref b78), .val (.ref b118), .val (.int v8_350), .val (.int ms0_363), .val (.int ms0_376), .val (.ref b162), .val (.int ms0_463), .val (.int ms0_488), .val (.int ms0_505)] [(.ref b162), (.ref oo)])) rfl (by rw [hml]; rfl) (Steps.refl _) (argsL := [(.ref b162)]) (rest := []) (lenOf pd_0 rfl) rfl (by show 2 * 0 + _ ≤ _; exact Nat.le_of_eq rfl) (hb hby at_514) (fun _ _ => ⟨rfl, e172, (by decide : 4 + 0 ≤ _), (by decide : 58 + 0 ≤ _)⟩)
  dsimp only [Pt.U, Pt.locs, Pt.cells, Pt.slots] at X181 l181 y181 z181 st181 hQ181
  rw [l181, y181, z181] at X181
  obtain ⟨rfl, N181q, e181⟩ := hQ181
  have N181 := Fr.app N172 N181q
  have pre183 : ∀ t, Steps p.tables e below (T181.setTop (mkF m 519 #[.val (.int p0), .val (.int p1), .val (.int p2), .val (.int p3), .val (.int p4), .val (.ref b2), .val (.ref b78), .val (.ref b118), .val (.int v8_350), .val (.int ms0_363), .val (.int ms0_376), .val (.ref b162), .val (.int ms0_463), .val (.int ms0_488), .val (.int ms0_505)] [(.int ms0_505), (.int (f_1 (own_cd v8_350.toNatClampNeg) (own_pm v8_350.toNatClampNeg) g_439))])) t → Steps p.tables e below (s₁.setTop (entryFrame m #[(.int p0), (.int p1), (.int p2), (.int p3), (.int p4)] maxLocals)) t := by
    intro t k
    refine pre182 t ?_
    show Steps p.tables e below (T172.setTop (mkF m 514 #[.val (.int p0), .val (.int p1), .val (.int p2), .val (.int p3), .val (.int p4), .val (.ref b2), .val (.ref b78), .val (.ref b118), .val (.int v8_350), .val (.int ms0_363), .val (.int ms0_376), .val (.ref b162), .val (.int ms0_463), .val (.int ms0_488), .val (.int ms0_505)] [(.ref b162), (.ref oo)])) _
    refine st181.trans ?_
    show Steps p.tables e below (T181.setTop (mkF m 517 #[.val (.int p0), .val (.int p1), .val (.int p2), .val (.int p3), .val (.int p4), .val (.ref b2), .val (.ref b78), .val (.ref b118), .val (.int v8_350), .val (.int ms0_363), .val (.int ms0_376), .val (.ref b162), .val (.int ms0_463), .val (.int ms0_488), .val (.int ms0_505)] [(.int (f_1 (own_cd v8_350.toNatClampNeg) (own_pm v8_350.toNatClampNeg) g_439))])) _
    refine XS.iload X181.here hx rfl (hb hby at_517) rfl  ?_
    exact k
  obtain ⟨ms0_527, hms0_527⟩ : ∃ z : Int32, z = (if (f_1 (own_cd v8_350.toNatClampNeg) (own_pm v8_350.toNatClampNeg) g_439) = ms0_505 then (1 : Int32) else (0 : Int32)) := ⟨_, rfl⟩
  have pre184 : ∀ t, Steps p.tables e below (T181.setTop (mkF m 527 #[.val (.int p0), .val (.int p1), .val (.int p2), .val (.int p3), .val (.int p4), .val (.ref b2), .val (.ref b78), .val (.ref b118), .val (.int v8_350), .val (.int ms0_363), .val (.int ms0_376), .val (.ref b162), .val (.int ms0_463), .val (.int ms0_488), .val (.int ms0_505)] [(.int ms0_527)])) t → Steps p.tables e below (s₁.setTop (entryFrame m #[(.int p0), (.int p1), (.int p2), (.int p3), (.int p4)] maxLocals)) t := by
    intro t k
    refine pre183 t ?_
    by_cases hc519 : (f_1 (own_cd v8_350.toNatClampNeg) (own_pm v8_350.toNatClampNeg) g_439) = ms0_505
    · show Steps p.tables e below (T181.setTop (mkF m 519 #[.val (.int p0), .val (.int p1), .val (.int p2), .val (.int p3), .val (.int p4), .val (.ref b2), .val (.ref b78), .val (.ref b118), .val (.int v8_350), .val (.int ms0_363), .val (.int ms0_376), .val (.ref b162), .val (.int ms0_463), .val (.int ms0_488), .val (.int ms0_505)] [(.int ms0_505), (.int (f_1 (own_cd v8_350.toNatClampNeg) (own_pm v8_350.toNatClampNeg) g_439))])) _
      refine XS.icmpNo X181.here hx rfl (hb hby at_519) rfl (teq hc519).2 ?_
      show Steps p.tables e below (T181.setTop (mkF m 522 #[.val (.int p0), .val (.int p1), .val (.int p2), .val (.int p3), .val (.int p4), .val (.ref b2), .val (.ref b78), .val (.ref b118), .val (.int v8_350), .val (.int ms0_363), .val (.int ms0_376), .val (.ref b162), .val (.int ms0_463), .val (.int ms0_488), .val (.int ms0_505)] [])) _
      refine XS.iconst X181.here hx rfl (hb hby at_522) ?_
      show Steps p.tables e below (T181.setTop (mkF m 523 #[.val (.int p0), .val (.int p1), .val (.int p2), .val (.int p3), .val (.int p4), .val (.ref b2), .val (.ref b78), .val (.ref b118), .val (.int v8_350), .val (.int ms0_363), .val (.int ms0_376), .val (.ref b162), .val (.int ms0_463), .val (.int ms0_488), .val (.int ms0_505)] [(.int (1 : Int32))])) _
      refine XS.goto X181.here hx rfl (pc0 := 523) (pc' := 527) rfl (hb hby at_523) (by decide) (by decide) ?_
      have qms0_527 : ms0_527 = (1 : Int32) := by rw [hms0_527, if_pos hc519]
      rw [qms0_527] at k
      exact k
    · show Steps p.tables e below (T181.setTop (mkF m 519 #[.val (.int p0), .val (.int p1), .val (.int p2), .val (.int p3), .val (.int p4), .val (.ref b2), .val (.ref b78), .val (.ref b118), .val (.int v8_350), .val (.int ms0_363), .val (.int ms0_376), .val (.ref b162), .val (.int ms0_463), .val (.int ms0_488), .val (.int ms0_505)] [(.int ms0_505), (.int (f_1 (own_cd v8_350.toNatClampNeg) (own_pm v8_350.toNatClampNeg) g_439))])) _
      refine XS.icmpYes X181.here hx rfl (pc0 := 519) (pc' := 526) rfl (hb hby at_519) rfl (feq hc519).2 (by decide) (by decide) ?_
      show Steps p.tables e below (T181.setTop (mkF m 526 #[.val (.int p0), .val (.int p1), .val (.int p2), .val (.int p3), .val (.int p4), .val (.ref b2), .val (.ref b78), .val (.ref b118), .val (.int v8_350), .val (.int ms0_363), .val (.int ms0_376), .val (.ref b162), .val (.int ms0_463), .val (.int ms0_488), .val (.int ms0_505)] [])) _
      refine XS.iconst X181.here hx rfl (hb hby at_526) ?_
      have qms0_527 : ms0_527 = (0 : Int32) := by rw [hms0_527, if_neg hc519]
      rw [qms0_527] at k
      exact k
  have hnar : nar .boolean ms0_527 = ms0_527 := by rw [hms0_527]; (repeat' split) <;> rfl
  obtain ⟨fs, hr, hrun, hended, hW, hsame⟩ := X181.leave (v := some (.int ms0_527)) (fun h => by rw [Bd.returns] at h; cases h) (BodyLoose.notSynchronized Bd)
  refine ⟨_, _, pre184 _ ?_, hrun, hended, _, _, rfl, ?_, ⟨_, rfl⟩, hW, hsame.mono (by decide) (by decide)⟩
  · show Steps p.tables e below (T181.setTop (mkF m 527 #[.val (.int p0), .val (.int p1), .val (.int p2), .val (.int p3), .val (.int p4), .val (.ref b2), .val (.ref b78), .val (.ref b118), .val (.int v8_350), .val (.int ms0_363), .val (.int ms0_376), .val (.ref b162), .val (.int ms0_463), .val (.int ms0_488), .val (.int ms0_505)] [(.int ms0_527)])) _
    exact retN X181 hx (t := .boolean) Bd.returns (by simp) (hb hby at_527) (by rw [hnar]; exact hr)
  · show Q_0 Z p0 p1 p2 p3 p4 en h0 n0 _ T181.heap _
    rw [e181]
    exact ⟨congrArg (fun z => some (Value.int z)) (by subst hg_10 hg_16 hg_22 hg_28 hg_34 hg_40 hg_47 hg_54 hg_61 hg_68 hg_75 hg_82 hg_89 hg_96 hg_103 hg_110 hg_117 hg_124 hg_135 hg_140 hg_145 hg_150 hg_155 hg_160 hg_166 hg_172 hg_178 hg_184 hg_190 hg_196 hg_202 hg_208 hg_214 hg_220 hg_226 hg_232 hg_243 hg_248 hg_253 hg_258 hg_263 hg_268 hg_274 hg_280 hg_286 hg_292 hg_298 hg_304 hg_310 hg_316 hg_322 hg_328 hg_334 hg_340 hv8_350 hms0_363 hms0_376 hms0_402 hg_402 hms0_422 hg_422 hg_429 hg_439 hms0_463 hms0_488 hms0_505 hms0_527; rfl : ms0_527 = f_0 p0 p1 p2 p3 p4 en), N181, trivial⟩
theorem own_m (x : Int32) : (x.toInt8.toInt32.toInt8.toInt32 &&& (255 : Int32)) = x &&& (255 : Int32) := by
  have a := c_i2b x
  have b := c_i2b x.toInt8.toInt32
  have m1 := c_mask x.toInt8.toInt32.toInt8.toInt32 255 8 (by decide) (by decide)
  have m2 := c_mask x 255 8 (by decide) (by decide)
  apply Int32.toInt_inj.mp
  omega
theorem own_cm (k : Nat) : k < 18 → (own_cd k &&& (255 : Int32)) = own_cd k ∧ (own_pm k &&& (255 : Int32)) = own_pm k := by
  revert k
  decide +kernel
theorem own_fin (a b p q c m : Int32) (z w : Int32) (g : Nat → Int32) (hc : (c &&& (255 : Int32)) = c) (hm : (m &&& (255 : Int32)) = m)
    (h0 : g 0 = (if z = (0 : Int32) then (a.toInt8.toInt32) else (c.toInt8.toInt32)).toInt8.toInt32) (h1 : g 1 = (if w = (0 : Int32) then (b.toInt8.toInt32) else (m.toInt8.toInt32)).toInt8.toInt32) :
    (if (f_1 c m g) = (if (if z = (0 : Int32) then (if (a &&& (255 : Int32)) = c then (1 : Int32) else (0 : Int32)) else (1 : Int32)) = (0 : Int32) then (0 : Int32) else (if (if w = (0 : Int32) then (if (b &&& (255 : Int32)) = m then (1 : Int32) else (0 : Int32)) else (1 : Int32)) = (0 : Int32) then (0 : Int32) else (1 : Int32))) then (1 : Int32) else (0 : Int32)) = 1 := by
  have e0 : (g 0 &&& (255 : Int32)) = if z = (0 : Int32) then a &&& (255 : Int32) else c := by
    rw [h0]
    by_cases hz : z = 0
    · rw [if_pos hz, if_pos hz]; exact own_m a
    · rw [if_neg hz, if_neg hz]; exact (own_m c).trans hc
  have e1 : (g 1 &&& (255 : Int32)) = if w = (0 : Int32) then b &&& (255 : Int32) else m := by
    rw [h1]
    by_cases hz : w = 0
    · rw [if_pos hz, if_pos hz]; exact own_m b
    · rw [if_neg hz, if_neg hz]; exact (own_m m).trans hm
  simp only [f_1, e0, e1]
  by_cases hz : z = 0
  · by_cases hw : w = 0
    · by_cases k1 : (a &&& 255) = c <;> by_cases k2 : (b &&& 255) = m <;> simp [hz, hw, k1, k2]
    · by_cases k1 : (a &&& 255) = c <;> simp [hz, hw, k1]
  · by_cases hw : w = 0
    · by_cases k2 : (b &&& 255) = m <;> simp [hz, hw, k2]
    · simp [hz, hw]
theorem own_law (p0 p1 p2 p3 p4 : Int32) (en : Nat → Addr) : f_0 p0 p1 p2 p3 p4 en = 1 := by
  have k := own_cm _ (own_i8 (x := p0) rfl).2
  exact own_fin p1 p2 0 0 _ _ _ _ _ k.1 k.2 rfl rfl
set_option maxRecDepth 65536 in
set_option maxHeartbeats 40000000 in
theorem comes_1 {Post : Tables → Env → Array Value → State → Outcome → State → Prop} (hpost : ∀ tb e args s v u, (limb_1_1.after args s (.returned v) u = true ∧ limb_1_2.after args s (.returned v) u = true ∧ True) → FrameEnd s (.returned v) u (Jvm.fieldLocs frame_1_writes args s ++ Jvm.arrayLocs frame_1_arrays args s ++ Jvm.staticLocs frame_1_statics s) 16 192 → Post tb e args s (.returned v) u) :
    ArmFor flags0 classFile x code maxLocals ret World_1 tables_1 room_1 Calls_1 rest_1 Pre_1 Post := by
  intro l hfl _ _ p e ha hc hk s m args below hf hA hF happ hP
  obtain ⟨hcalls, hrest, hpre⟩ := hP
  obtain ⟨-, -, -, hnamed, -, -, -, hat⟩ := (Spec.applies_iff hf).mp happ
  obtain ⟨hg, hn⟩ := and_e (Cond.before_iff.mp (show (Jvm.Cond.and given_1 narrow_1).before args s = true from hpre))
  obtain ⟨g0, gt0⟩ := and_e hg
  obtain ⟨ga0, gt1⟩ := and_e gt0
  obtain ⟨ga1, gt2⟩ := and_e gt1
  obtain ⟨ga2, gt3⟩ := and_e gt2
  obtain ⟨ga3, gt4⟩ := and_e gt3
  obtain ⟨w0, w1, w2, w3, w4, rfl⟩ : ∃ w0 w1 w2 w3 w4 : Value, args = #[w0, w1, w2, w3, w4] := by
    have hs : args.size = 5 := by simpa [Cond.value, given_1] using g0
    obtain ⟨L⟩ := args
    match L, hs with
    | [w0, w1, w2, w3, w4], _ => exact ⟨w0, w1, w2, w3, w4, rfl⟩
  have hw := fun d (hd : d ∈ tables_1) => atoms_spec (ws := Jvm.Cond.code x code maxLocals ret :: tables_1) hat d (List.mem_cons_of_mem _ hd)
  have hfit : Fit s := fun {y c} hc i hi => by
    obtain ⟨ha, rfl⟩ := Array.getElem?_eq_some_iff.mp hc
    have q := List.all_eq_true.mp ((Array.all_eq_true_iff_forall_mem.mp hF) _ (Array.getElem_mem ha)) i (List.mem_range.mpr hi)
    simpa [Array.getElem?_eq_getElem hi] using q
  obtain ⟨i0, ei0⟩ := is_v ga0
  obtain rfl : w0 = (.int i0) := Option.some.inj ei0
  obtain ⟨i1, ei1⟩ := is_v ga1
  obtain rfl : w1 = (.int i1) := Option.some.inj ei1
  obtain ⟨i2, ei2⟩ := is_v ga2
  obtain rfl : w2 = (.int i2) := Option.some.inj ei2
  obtain ⟨i3, ei3⟩ := is_v ga3
  obtain rfl : w3 = (.int i3) := Option.some.inj ei3
  obtain ⟨i4, ei4⟩ := is_v gt4
  obtain rfl : w4 = (.int i4) := Option.some.inj ei4
  obtain ⟨c0, d0⟩ := and_e hn
  obtain ⟨c1, d1⟩ := and_e d0
  obtain ⟨c2, d2⟩ := and_e d1
  obtain ⟨c3, d3⟩ := and_e d2
  obtain ⟨c4, d4⟩ := and_e d3
  obtain ⟨c5, d5⟩ := and_e d4
  obtain ⟨c6, d6⟩ := and_e d5
  obtain ⟨c7, d7⟩ := and_e d6
  obtain ⟨c8, d8⟩ := and_e d7
  obtain ⟨c9, d9⟩ := and_e d8
  obtain ⟨c10, d10⟩ := and_e d9
  obtain ⟨c11, d11⟩ := and_e d10
  obtain ⟨c12, d12⟩ := and_e d11
  obtain ⟨c13, d13⟩ := and_e d12
  obtain ⟨c14, d14⟩ := and_e d13
  obtain ⟨c15, d15⟩ := and_e d14
  obtain ⟨c16, d16⟩ := and_e d15
  obtain ⟨c17, d17⟩ := and_e d16
  obtain ⟨c18, d18⟩ := and_e d17
  obtain ⟨c19, d19⟩ := and_e d18
  obtain ⟨c20, d20⟩ := and_e d19
  obtain ⟨c21, d21⟩ := and_e d20
  obtain ⟨c22, d22⟩ := and_e d21
  obtain ⟨c23, d23⟩ := and_e d22
  obtain ⟨c24, d24⟩ := and_e d23
  obtain ⟨c25, d25⟩ := and_e d24
  obtain ⟨c26, d26⟩ := and_e d25
  obtain ⟨c27, d27⟩ := and_e d26
  obtain ⟨c28, d28⟩ := and_e d27
  obtain ⟨c29, d29⟩ := and_e d28
  obtain ⟨c30, d30⟩ := and_e d29
  obtain ⟨c31, d31⟩ := and_e d30
  obtain ⟨c32, d32⟩ := and_e d31
  obtain ⟨c33, d33⟩ := and_e d32
  obtain ⟨c34, d34⟩ := and_e d33
  obtain ⟨c35, d35⟩ := and_e d34
  obtain ⟨c36, d36⟩ := and_e d35
  obtain ⟨c37, d37⟩ := and_e d36
  obtain ⟨c38, d38⟩ := and_e d37
  obtain ⟨c39, d39⟩ := and_e d38
  obtain ⟨c40, d40⟩ := and_e d39
  obtain ⟨c41, d41⟩ := and_e d40
  obtain ⟨c42, d42⟩ := and_e d41
  obtain ⟨c43, d43⟩ := and_e d42
  obtain ⟨c44, d44⟩ := and_e d43
  obtain ⟨c45, d45⟩ := and_e d44
  obtain ⟨c46, d46⟩ := and_e d45
  obtain ⟨c47, d47⟩ := and_e d46
  obtain ⟨c48, d48⟩ := and_e d47
  obtain ⟨c49, d49⟩ := and_e d48
  obtain ⟨c50, d50⟩ := and_e d49
  obtain ⟨c51, d51⟩ := and_e d50
  obtain ⟨c52, d52⟩ := and_e d51
  obtain ⟨q0, ev0⟩ := exa_v c0
  have S0 : Sta s s.heap "com/example/cardwire/cardwire/f6/F6Command" "RESET" "Lcom/example/cardwire/cardwire/f6/F6Command;" (.ref q0) := Sta.start ev0 (Or.inr ⟨hw _ (List.mem_of_getElem? (i := 3) rfl), hw _ (List.mem_of_getElem? (i := 4) rfl)⟩)
  have E0 : Exa s s.heap q0 "com/example/cardwire/cardwire/f6/F6Command" := Exa.start ev0 c0
  have C0 : Fld s s.heap q0 "com/example/cardwire/cardwire/f6/F6Command" "code" "I" (.int (48 : Int32)) := Fld.start ((fld_at ev0).symm.trans (own_eqi c18))
  have P0 : Fld s s.heap q0 "com/example/cardwire/cardwire/f6/F6Command" "parameter" "I" (.int (48 : Int32)) := Fld.start ((fld_at ev0).symm.trans (own_eqi c19))
  obtain ⟨q1, ev1⟩ := exa_v c1
  have S1 : Sta s s.heap "com/example/cardwire/cardwire/f6/F6Command" "CARD_POSITION" "Lcom/example/cardwire/cardwire/f6/F6Command;" (.ref q1) := Sta.start ev1 (Or.inr ⟨hw _ (List.mem_of_getElem? (i := 3) rfl), hw _ (List.mem_of_getElem? (i := 7) rfl)⟩)
  have E1 : Exa s s.heap q1 "com/example/cardwire/cardwire/f6/F6Command" := Exa.start ev1 c1
  have C1 : Fld s s.heap q1 "com/example/cardwire/cardwire/f6/F6Command" "code" "I" (.int (49 : Int32)) := Fld.start ((fld_at ev1).symm.trans (own_eqi c30))
  have P1 : Fld s s.heap q1 "com/example/cardwire/cardwire/f6/F6Command" "parameter" "I" (.int (48 : Int32)) := Fld.start ((fld_at ev1).symm.trans (own_eqi c41))
  obtain ⟨q2, ev2⟩ := exa_v c2
  have S2 : Sta s s.heap "com/example/cardwire/cardwire/f6/F6Command" "ALLOW_ENTRY" "Lcom/example/cardwire/cardwire/f6/F6Command;" (.ref q2) := Sta.start ev2 (Or.inr ⟨hw _ (List.mem_of_getElem? (i := 3) rfl), hw _ (List.mem_of_getElem? (i := 9) rfl)⟩)
  have E2 : Exa s s.heap q2 "com/example/cardwire/cardwire/f6/F6Command" := Exa.start ev2 c2
  have C2 : Fld s s.heap q2 "com/example/cardwire/cardwire/f6/F6Command" "code" "I" (.int (50 : Int32)) := Fld.start ((fld_at ev2).symm.trans (own_eqi c34))
  have P2 : Fld s s.heap q2 "com/example/cardwire/cardwire/f6/F6Command" "parameter" "I" (.int (48 : Int32)) := Fld.start ((fld_at ev2).symm.trans (own_eqi c35))
  obtain ⟨q3, ev3⟩ := exa_v c3
  have S3 : Sta s s.heap "com/example/cardwire/cardwire/f6/F6Command" "DISPENSE" "Lcom/example/cardwire/cardwire/f6/F6Command;" (.ref q3) := Sta.start ev3 (Or.inr ⟨hw _ (List.mem_of_getElem? (i := 3) rfl), hw _ (List.mem_of_getElem? (i := 11) rfl)⟩)
  have E3 : Exa s s.heap q3 "com/example/cardwire/cardwire/f6/F6Command" := Exa.start ev3 c3
  have C3 : Fld s s.heap q3 "com/example/cardwire/cardwire/f6/F6Command" "code" "I" (.int (50 : Int32)) := Fld.start ((fld_at ev3).symm.trans (own_eqi c20))
  have P3 : Fld s s.heap q3 "com/example/cardwire/cardwire/f6/F6Command" "parameter" "I" (.int (50 : Int32)) := Fld.start ((fld_at ev3).symm.trans (own_eqi c21))
  obtain ⟨q4, ev4⟩ := exa_v c4
  have S4 : Sta s s.heap "com/example/cardwire/cardwire/f6/F6Command" "MOVE_INSIDE" "Lcom/example/cardwire/cardwire/f6/F6Command;" (.ref q4) := Sta.start ev4 (Or.inr ⟨hw _ (List.mem_of_getElem? (i := 3) rfl), hw _ (List.mem_of_getElem? (i := 13) rfl)⟩)
  have E4 : Exa s s.heap q4 "com/example/cardwire/cardwire/f6/F6Command" := Exa.start ev4 c4
  have C4 : Fld s s.heap q4 "com/example/cardwire/cardwire/f6/F6Command" "code" "I" (.int (51 : Int32)) := Fld.start ((fld_at ev4).symm.trans (own_eqi c24))
  have P4 : Fld s s.heap q4 "com/example/cardwire/cardwire/f6/F6Command" "parameter" "I" (.int (48 : Int32)) := Fld.start ((fld_at ev4).symm.trans (own_eqi c44))
  obtain ⟨q5, ev5⟩ := exa_v c5
  have S5 : Sta s s.heap "com/example/cardwire/cardwire/f6/F6Command" "MOVE_TO_IC" "Lcom/example/cardwire/cardwire/f6/F6Command;" (.ref q5) := Sta.start ev5 (Or.inr ⟨hw _ (List.mem_of_getElem? (i := 3) rfl), hw _ (List.mem_of_getElem? (i := 15) rfl)⟩)
  have E5 : Exa s s.heap q5 "com/example/cardwire/cardwire/f6/F6Command" := Exa.start ev5 c5
  have C5 : Fld s s.heap q5 "com/example/cardwire/cardwire/f6/F6Command" "code" "I" (.int (51 : Int32)) := Fld.start ((fld_at ev5).symm.trans (own_eqi c42))
  have P5 : Fld s s.heap q5 "com/example/cardwire/cardwire/f6/F6Command" "parameter" "I" (.int (49 : Int32)) := Fld.start ((fld_at ev5).symm.trans (own_eqi c43))
  obtain ⟨q6, ev6⟩ := exa_v c6
  have S6 : Sta s s.heap "com/example/cardwire/cardwire/f6/F6Command" "MOVE_TO_FRONT" "Lcom/example/cardwire/cardwire/f6/F6Command;" (.ref q6) := Sta.start ev6 (Or.inr ⟨hw _ (List.mem_of_getElem? (i := 3) rfl), hw _ (List.mem_of_getElem? (i := 17) rfl)⟩)
  have E6 : Exa s s.heap q6 "com/example/cardwire/cardwire/f6/F6Command" := Exa.start ev6 c6
  have C6 : Fld s s.heap q6 "com/example/cardwire/cardwire/f6/F6Command" "code" "I" (.int (51 : Int32)) := Fld.start ((fld_at ev6).symm.trans (own_eqi c31))
  have P6 : Fld s s.heap q6 "com/example/cardwire/cardwire/f6/F6Command" "parameter" "I" (.int (50 : Int32)) := Fld.start ((fld_at ev6).symm.trans (own_eqi c32))
  obtain ⟨q7, ev7⟩ := exa_v c7
  have S7 : Sta s s.heap "com/example/cardwire/cardwire/f6/F6Command" "MOVE_TO_REAR" "Lcom/example/cardwire/cardwire/f6/F6Command;" (.ref q7) := Sta.start ev7 (Or.inr ⟨hw _ (List.mem_of_getElem? (i := 3) rfl), hw _ (List.mem_of_getElem? (i := 19) rfl)⟩)
  have E7 : Exa s s.heap q7 "com/example/cardwire/cardwire/f6/F6Command" := Exa.start ev7 c7
  have C7 : Fld s s.heap q7 "com/example/cardwire/cardwire/f6/F6Command" "code" "I" (.int (51 : Int32)) := Fld.start ((fld_at ev7).symm.trans (own_eqi c26))
  have P7 : Fld s s.heap q7 "com/example/cardwire/cardwire/f6/F6Command" "parameter" "I" (.int (51 : Int32)) := Fld.start ((fld_at ev7).symm.trans (own_eqi c46))
  obtain ⟨q8, ev8⟩ := exa_v c8
  have S8 : Sta s s.heap "com/example/cardwire/cardwire/f6/F6Command" "EJECT_FRONT" "Lcom/example/cardwire/cardwire/f6/F6Command;" (.ref q8) := Sta.start ev8 (Or.inr ⟨hw _ (List.mem_of_getElem? (i := 3) rfl), hw _ (List.mem_of_getElem? (i := 21) rfl)⟩)
  have E8 : Exa s s.heap q8 "com/example/cardwire/cardwire/f6/F6Command" := Exa.start ev8 c8
  have C8 : Fld s s.heap q8 "com/example/cardwire/cardwire/f6/F6Command" "code" "I" (.int (51 : Int32)) := Fld.start ((fld_at ev8).symm.trans (own_eqi c22))
  have P8 : Fld s s.heap q8 "com/example/cardwire/cardwire/f6/F6Command" "parameter" "I" (.int (52 : Int32)) := Fld.start ((fld_at ev8).symm.trans (own_eqi c23))
  obtain ⟨q9, ev9⟩ := exa_v c9
  have S9 : Sta s s.heap "com/example/cardwire/cardwire/f6/F6Command" "EJECT_REAR" "Lcom/example/cardwire/cardwire/f6/F6Command;" (.ref q9) := Sta.start ev9 (Or.inr ⟨hw _ (List.mem_of_getElem? (i := 3) rfl), hw _ (List.mem_of_getElem? (i := 23) rfl)⟩)
  have E9 : Exa s s.heap q9 "com/example/cardwire/cardwire/f6/F6Command" := Exa.start ev9 c9
  have C9 : Fld s s.heap q9 "com/example/cardwire/cardwire/f6/F6Command" "code" "I" (.int (51 : Int32)) := Fld.start ((fld_at ev9).symm.trans (own_eqi c39))
  have P9 : Fld s s.heap q9 "com/example/cardwire/cardwire/f6/F6Command" "parameter" "I" (.int (53 : Int32)) := Fld.start ((fld_at ev9).symm.trans (own_eqi c40))
  obtain ⟨q10, ev10⟩ := exa_v c10
  have S10 : Sta s s.heap "com/example/cardwire/cardwire/f6/F6Command" "MOVE_TO_REREAD" "Lcom/example/cardwire/cardwire/f6/F6Command;" (.ref q10) := Sta.start ev10 (Or.inr ⟨hw _ (List.mem_of_getElem? (i := 3) rfl), hw _ (List.mem_of_getElem? (i := 25) rfl)⟩)
  have E10 : Exa s s.heap q10 "com/example/cardwire/cardwire/f6/F6Command" := Exa.start ev10 c10
  have C10 : Fld s s.heap q10 "com/example/cardwire/cardwire/f6/F6Command" "code" "I" (.int (51 : Int32)) := Fld.start ((fld_at ev10).symm.trans (own_eqi c28))
  have P10 : Fld s s.heap q10 "com/example/cardwire/cardwire/f6/F6Command" "parameter" "I" (.int (54 : Int32)) := Fld.start ((fld_at ev10).symm.trans (own_eqi c29))
  obtain ⟨q11, ev11⟩ := exa_v c11
  have S11 : Sta s s.heap "com/example/cardwire/cardwire/f6/F6Command" "READ_TRACK_1" "Lcom/example/cardwire/cardwire/f6/F6Command;" (.ref q11) := Sta.start ev11 (Or.inr ⟨hw _ (List.mem_of_getElem? (i := 3) rfl), hw _ (List.mem_of_getElem? (i := 27) rfl)⟩)
  have E11 : Exa s s.heap q11 "com/example/cardwire/cardwire/f6/F6Command" := Exa.start ev11 c11
  have C11 : Fld s s.heap q11 "com/example/cardwire/cardwire/f6/F6Command" "code" "I" (.int (55 : Int32)) := Fld.start ((fld_at ev11).symm.trans (own_eqi c51))
  have P11 : Fld s s.heap q11 "com/example/cardwire/cardwire/f6/F6Command" "parameter" "I" (.int (48 : Int32)) := Fld.start ((fld_at ev11).symm.trans (own_eqi c52))
  obtain ⟨q12, ev12⟩ := exa_v c12
  have S12 : Sta s s.heap "com/example/cardwire/cardwire/f6/F6Command" "READ_TRACK_2" "Lcom/example/cardwire/cardwire/f6/F6Command;" (.ref q12) := Sta.start ev12 (Or.inr ⟨hw _ (List.mem_of_getElem? (i := 3) rfl), hw _ (List.mem_of_getElem? (i := 29) rfl)⟩)
  have E12 : Exa s s.heap q12 "com/example/cardwire/cardwire/f6/F6Command" := Exa.start ev12 c12
  have C12 : Fld s s.heap q12 "com/example/cardwire/cardwire/f6/F6Command" "code" "I" (.int (55 : Int32)) := Fld.start ((fld_at ev12).symm.trans (own_eqi c45))
  have P12 : Fld s s.heap q12 "com/example/cardwire/cardwire/f6/F6Command" "parameter" "I" (.int (49 : Int32)) := Fld.start ((fld_at ev12).symm.trans (own_eqi c49))
  obtain ⟨q13, ev13⟩ := exa_v c13
  have S13 : Sta s s.heap "com/example/cardwire/cardwire/f6/F6Command" "READ_TRACK_3" "Lcom/example/cardwire/cardwire/f6/F6Command;" (.ref q13) := Sta.start ev13 (Or.inr ⟨hw _ (List.mem_of_getElem? (i := 3) rfl), hw _ (List.mem_of_getElem? (i := 31) rfl)⟩)
  have E13 : Exa s s.heap q13 "com/example/cardwire/cardwire/f6/F6Command" := Exa.start ev13 c13
  have C13 : Fld s s.heap q13 "com/example/cardwire/cardwire/f6/F6Command" "code" "I" (.int (55 : Int32)) := Fld.start ((fld_at ev13).symm.trans (own_eqi c33))
  have P13 : Fld s s.heap q13 "com/example/cardwire/cardwire/f6/F6Command" "parameter" "I" (.int (50 : Int32)) := Fld.start ((fld_at ev13).symm.trans (own_eqi c50))
  obtain ⟨q14, ev14⟩ := exa_v c14
  have S14 : Sta s s.heap "com/example/cardwire/cardwire/f6/F6Command" "READ_TRACKS_1_2" "Lcom/example/cardwire/cardwire/f6/F6Command;" (.ref q14) := Sta.start ev14 (Or.inr ⟨hw _ (List.mem_of_getElem? (i := 3) rfl), hw _ (List.mem_of_getElem? (i := 33) rfl)⟩)
  have E14 : Exa s s.heap q14 "com/example/cardwire/cardwire/f6/F6Command" := Exa.start ev14 c14
  have C14 : Fld s s.heap q14 "com/example/cardwire/cardwire/f6/F6Command" "code" "I" (.int (55 : Int32)) := Fld.start ((fld_at ev14).symm.trans (own_eqi c37))
  have P14 : Fld s s.heap q14 "com/example/cardwire/cardwire/f6/F6Command" "parameter" "I" (.int (51 : Int32)) := Fld.start ((fld_at ev14).symm.trans (own_eqi c38))
  obtain ⟨q15, ev15⟩ := exa_v c15
  have S15 : Sta s s.heap "com/example/cardwire/cardwire/f6/F6Command" "READ_TRACKS_1_3" "Lcom/example/cardwire/cardwire/f6/F6Command;" (.ref q15) := Sta.start ev15 (Or.inr ⟨hw _ (List.mem_of_getElem? (i := 3) rfl), hw _ (List.mem_of_getElem? (i := 35) rfl)⟩)
  have E15 : Exa s s.heap q15 "com/example/cardwire/cardwire/f6/F6Command" := Exa.start ev15 c15
  have C15 : Fld s s.heap q15 "com/example/cardwire/cardwire/f6/F6Command" "code" "I" (.int (55 : Int32)) := Fld.start ((fld_at ev15).symm.trans (own_eqi c25))
  have P15 : Fld s s.heap q15 "com/example/cardwire/cardwire/f6/F6Command" "parameter" "I" (.int (52 : Int32)) := Fld.start ((fld_at ev15).symm.trans (own_eqi c36))
  obtain ⟨q16, ev16⟩ := exa_v c16
  have S16 : Sta s s.heap "com/example/cardwire/cardwire/f6/F6Command" "READ_TRACKS_2_3" "Lcom/example/cardwire/cardwire/f6/F6Command;" (.ref q16) := Sta.start ev16 (Or.inr ⟨hw _ (List.mem_of_getElem? (i := 3) rfl), hw _ (List.mem_of_getElem? (i := 37) rfl)⟩)
  have E16 : Exa s s.heap q16 "com/example/cardwire/cardwire/f6/F6Command" := Exa.start ev16 c16
  have C16 : Fld s s.heap q16 "com/example/cardwire/cardwire/f6/F6Command" "code" "I" (.int (55 : Int32)) := Fld.start ((fld_at ev16).symm.trans (own_eqi c27))
  have P16 : Fld s s.heap q16 "com/example/cardwire/cardwire/f6/F6Command" "parameter" "I" (.int (53 : Int32)) := Fld.start ((fld_at ev16).symm.trans (own_eqi d52))
  obtain ⟨q17, ev17⟩ := exa_v c17
  have S17 : Sta s s.heap "com/example/cardwire/cardwire/f6/F6Command" "READ_TRACKS_1_2_3" "Lcom/example/cardwire/cardwire/f6/F6Command;" (.ref q17) := Sta.start ev17 (Or.inr ⟨hw _ (List.mem_of_getElem? (i := 3) rfl), hw _ (List.mem_of_getElem? (i := 39) rfl)⟩)
  have E17 : Exa s s.heap q17 "com/example/cardwire/cardwire/f6/F6Command" := Exa.start ev17 c17
  have C17 : Fld s s.heap q17 "com/example/cardwire/cardwire/f6/F6Command" "code" "I" (.int (55 : Int32)) := Fld.start ((fld_at ev17).symm.trans (own_eqi c47))
  have P17 : Fld s s.heap q17 "com/example/cardwire/cardwire/f6/F6Command" "parameter" "I" (.int (54 : Int32)) := Fld.start ((fld_at ev17).symm.trans (own_eqi c48))
  have hE : ∀ i, i < 18 → Exa s s.heap (([q0, q1, q2, q3, q4, q5, q6, q7, q8, q9, q10, q11, q12, q13, q14, q15, q16, q17] : List Addr).getD i 0) "com/example/cardwire/cardwire/f6/F6Command" := by
    intro i hi
    rcases (by omega : i = 0 ∨ i = 1 ∨ i = 2 ∨ i = 3 ∨ i = 4 ∨ i = 5 ∨ i = 6 ∨ i = 7 ∨ i = 8 ∨ i = 9 ∨ i = 10 ∨ i = 11 ∨ i = 12 ∨ i = 13 ∨ i = 14 ∨ i = 15 ∨ i = 16 ∨ i = 17) with rfl | rfl | rfl | rfl | rfl | rfl | rfl | rfl | rfl | rfl | rfl | rfl | rfl | rfl | rfl | rfl | rfl | rfl
    · exact E0
    · exact E1
    · exact E2
    · exact E3
    · exact E4
    · exact E5
    · exact E6
    · exact E7
    · exact E8
    · exact E9
    · exact E10
    · exact E11
    · exact E12
    · exact E13
    · exact E14
    · exact E15
    · exact E16
    · exact E17
  have hC : ∀ i, i < 18 → Fld s s.heap (([q0, q1, q2, q3, q4, q5, q6, q7, q8, q9, q10, q11, q12, q13, q14, q15, q16, q17] : List Addr).getD i 0) "com/example/cardwire/cardwire/f6/F6Command" "code" "I" (.int (own_cd i)) := by
    intro i hi
    rcases (by omega : i = 0 ∨ i = 1 ∨ i = 2 ∨ i = 3 ∨ i = 4 ∨ i = 5 ∨ i = 6 ∨ i = 7 ∨ i = 8 ∨ i = 9 ∨ i = 10 ∨ i = 11 ∨ i = 12 ∨ i = 13 ∨ i = 14 ∨ i = 15 ∨ i = 16 ∨ i = 17) with rfl | rfl | rfl | rfl | rfl | rfl | rfl | rfl | rfl | rfl | rfl | rfl | rfl | rfl | rfl | rfl | rfl | rfl
    · exact C0
    · exact C1
    · exact C2
    · exact C3
    · exact C4
    · exact C5
    · exact C6
    · exact C7
    · exact C8
    · exact C9
    · exact C10
    · exact C11
    · exact C12
    · exact C13
    · exact C14
    · exact C15
    · exact C16
    · exact C17
  have hP : ∀ i, i < 18 → Fld s s.heap (([q0, q1, q2, q3, q4, q5, q6, q7, q8, q9, q10, q11, q12, q13, q14, q15, q16, q17] : List Addr).getD i 0) "com/example/cardwire/cardwire/f6/F6Command" "parameter" "I" (.int (own_pm i)) := by
    intro i hi
    rcases (by omega : i = 0 ∨ i = 1 ∨ i = 2 ∨ i = 3 ∨ i = 4 ∨ i = 5 ∨ i = 6 ∨ i = 7 ∨ i = 8 ∨ i = 9 ∨ i = 10 ∨ i = 11 ∨ i = 12 ∨ i = 13 ∨ i = 14 ∨ i = 15 ∨ i = 16 ∨ i = 17) with rfl | rfl | rfl | rfl | rfl | rfl | rfl | rfl | rfl | rfl | rfl | rfl | rfl | rfl | rfl | rfl | rfl | rfl
    · exact P0
    · exact P1
    · exact P2
    · exact P3
    · exact P4
    · exact P5
    · exact P6
    · exact P7
    · exact P8
    · exact P9
    · exact P10
    · exact P11
    · exact P12
    · exact P13
    · exact P14
    · exact P15
    · exact P16
    · exact P17
  obtain ⟨n, o, h1, h2, h3, _, L, rfl, ⟨rfl, N⟩, hq⟩ := rm_0 l s _ hw tables_1 i0 i1 i2 i3 i4 (fun i => ([q0, q1, q2, q3, q4, q5, q6, q7, q8, q9, q10, q11, q12, q13, q14, q15, q16, q17] : List Addr).getD i 0) s.heap s.heap.size (Nat.le_refl _) S0 S1 S2 S3 S4 S5 S6 S7 S8 S9 S10 S11 S12 S13 S14 S15 S16 S17 hE hC hP p e ha hc hk s m _ below hf ((Spec.applies_iff_loose hf).mp happ).1 ⟨rfl, State.Warmed39.refl s, rfl⟩ trivial
  refine ⟨n, _, h1, h2, h3, hpost _ _ _ _ _ _ ⟨Cond.after_iff.mpr rfl, Cond.after_iff.mpr (eq_i res_at (Term.int_eval (1)) (congrArg Value.int (own_law _ _ _ _ _ _))), trivial⟩ ⟨hq.1, hq.2.1, (hq.2.2.sift fun y hy => Or.inr (N.1 y hy)).mono (by decide) (by decide)⟩⟩
theorem main_1_1 : Claimed_1_1 := comes_1 fun _ _ _ _ _ _ h hF => ⟨h.1, hF⟩
theorem main_1_2 : Claimed_1_2 := comes_1 fun _ _ _ _ _ _ h hF => ⟨h.2.1, hF⟩
end Jvm.Pilot.@@N@@
namespace Jvm.Pilot.@@N@@
open Jvm Jvm.ClassFile Sem Op Lib Jvm.Free Jvm.Stand Jvm.Pilot.@@N@@.Jvm.D
/-! MADE BY PROGRAM (witnessworld.py) out of the Statement's table words and the real class files: 13 classes; the members and pool entries that the words name. The judged class is class 1, her method 1. -/
namespace start1
open Jvm.ClassFile
def u (s : String) : CpInfo := .utf8 (stringToUtf16 s)
/-- a pool by its gaps: so many unusable entries, then the entry; so many at the end -/
def gap : Nat → List CpInfo → List CpInfo
  | 0, r => r
  | n + 1, r => .unusable :: gap n r
def poolList (es : List (Nat × CpInfo)) (last : Nat) : List CpInfo := es.foldr (fun e r => gap e.1 (e.2 :: r)) (gap last [])
def pool (es : List (Nat × CpInfo)) (last : Nat) : Array CpInfo := ⟨poolList es last⟩
def fileOf (pool : Array CpInfo) (this : Nat) (attrs : Array Attribute := #[]) (ms : Array MethodInfo := #[]) (fl : Nat := 33) (sup : Nat := 0) (ifs : Array Nat := #[]) (fds : Array FieldInfo := #[]) : ClassFile where
  minorVersion := 0
  majorVersion := 65
  constantPool := pool
  accessFlags := fl
  thisClass := this
  superClass := sup
  interfaces := ifs
  fields := fds
  methods := ms
  attributes := attrs
def plain (name : String) (sup : Option ClassId) : Class where
  name := name
  kind := .ordinary
  loader := none
  accessFlags := 33
  super := sup
  interfaces := #[]
  cf := none
  fields := #[]
  methods := #[]
  instanceTypes := #[]
  staticTypes := #[]
  resolved := #[]
  callSites := []
  init := .initialized
  statics := none
  mirror := none

def pool0 : Array CpInfo := pool [(5, u "<init>"), (0, u "()V"), (1, .class_ 10), (1, u "java/lang/Object")] 113

def k0m0 : Method := { name := "<init>", desc := "()V", sig := { parameters := [], returnType := none }, accessFlags := 1, code := none }
/-- java/lang/Object -/
def k0 : Class := { plain "java/lang/Object" none with
  accessFlags := 33
  interfaces := #[]
  cf := some (fileOf pool0 8 #[] #[{ accessFlags := 1, nameIndex := 5, descriptorIndex := 6, attributes := #[] }] 33 0 #[] #[])
  fields := #[]
  methods := #[k0m0]
  instanceTypes := #[]
  staticTypes := #[]
  resolved := Array.replicate 124 none
  statics := none }

def pool1 : Array CpInfo := pool [(2, .class_ 4), (1, u "java/lang/Object"), (0, u "<init>"), (0, u "()V"), (0, .class_ 8), (0, u "com/example/cardwire/cardwire/f6/F6Command"), (0, .fieldref 7 10), (0, .nameAndType 11 12), (0, u "RESET"), (0, u "Lcom/example/cardwire/cardwire/f6/F6Command;"), (0, .fieldref 7 14), (0, .nameAndType 15 12), (0, u "CARD_POSITION"), (0, .fieldref 7 17), (0, .nameAndType 18 12), (0, u "ALLOW_ENTRY"), (0, .fieldref 7 20), (0, .nameAndType 21 12), (0, u "DISPENSE"), (0, .fieldref 7 23), (0, .nameAndType 24 12), (0, u "MOVE_INSIDE"), (0, .fieldref 7 26), (0, .nameAndType 27 12), (0, u "MOVE_TO_IC"), (0, .fieldref 7 29), (0, .nameAndType 30 12), (0, u "MOVE_TO_FRONT"), (0, .fieldref 7 32), (0, .nameAndType 33 12), (0, u "MOVE_TO_REAR"), (0, .fieldref 7 35), (0, .nameAndType 36 12), (0, u "EJECT_FRONT"), (0, .fieldref 7 38), (0, .nameAndType 39 12), (0, u "EJECT_REAR"), (0, .fieldref 7 41), (0, .nameAndType 42 12), (0, u "MOVE_TO_REREAD"), (0, .fieldref 7 44), (0, .nameAndType 45 12), (0, u "READ_TRACK_1"), (0, .fieldref 7 47), (0, .nameAndType 48 12), (0, u "READ_TRACK_2"), (0, .fieldref 7 50), (0, .nameAndType 51 12), (0, u "READ_TRACK_3"), (0, .fieldref 7 53), (0, .nameAndType 54 12), (0, u "READ_TRACKS_1_2"), (0, .fieldref 7 56), (0, .nameAndType 57 12), (0, u "READ_TRACKS_1_3"), (0, .fieldref 7 59), (0, .nameAndType 60 12), (0, u "READ_TRACKS_2_3"), (0, .fieldref 7 62), (0, .nameAndType 63 12), (0, u "READ_TRACKS_1_2_3"), (0, .integer 2147483647), (0, .methodref 7 66), (0, .nameAndType 67 68), (0, u "startsBody"), (0, u "([B)Z"), (0, .class_ 70), (0, u "com/example/cardwire/cardwire/f6/F6CommandStartsBodyPinLaw"), (2, u "law"), (0, u "(IIIII)Z")] 9

def k1m0 : Method := { name := "<init>", desc := "()V", sig := { parameters := [], returnType := none }, accessFlags := 1, code := none }
def k1c1 : Code := { maxStack := 4, maxLocals := 15, code := code, exceptionTable := #[], attributes := #[] }
def k1m1 : Method := { name := "law", desc := "(IIIII)Z", sig := { parameters := [.int, .int, .int, .int, .int], returnType := some .boolean }, accessFlags := 9, code := some k1c1 }
/-- com/example/cardwire/cardwire/f6/F6CommandStartsBodyPinLaw -/
def k1 : Class := { plain "com/example/cardwire/cardwire/f6/F6CommandStartsBodyPinLaw" (some 0) with
  accessFlags := 49
  interfaces := #[]
  cf := some (fileOf pool1 69 #[] #[{ accessFlags := 1, nameIndex := 5, descriptorIndex := 6, attributes := #[] }, { accessFlags := 9, nameIndex := 73, descriptorIndex := 74, attributes := #[] }] 49 2 #[] #[])
  fields := #[]
  methods := #[k1m0, k1m1]
  instanceTypes := #[]
  staticTypes := #[]
  resolved := Array.replicate 84 none
  statics := none }

def pool2 : Array CpInfo := pool [(1, .class_ 2), (0, u "java/lang/constant/Constable"), (0, .class_ 4), (0, u "java/lang/Object")] 6

/-- java/lang/constant/Constable -/
def k2 : Class := { plain "java/lang/constant/Constable" (some 0) with
  accessFlags := 1537
  interfaces := #[]
  cf := some (fileOf pool2 1 #[] #[] 1537 3 #[] #[])
  fields := #[]
  methods := #[]
  instanceTypes := #[]
  staticTypes := #[]
  resolved := Array.replicate 11 none
  statics := none }

def pool3 : Array CpInfo := pool [(1, .class_ 2), (0, u "java/lang/Comparable"), (0, .class_ 4), (0, u "java/lang/Object")] 7

/-- java/lang/Comparable -/
def k3 : Class := { plain "java/lang/Comparable" (some 0) with
  accessFlags := 1537
  interfaces := #[]
  cf := some (fileOf pool3 1 #[] #[] 1537 3 #[] #[])
  fields := #[]
  methods := #[]
  instanceTypes := #[]
  staticTypes := #[]
  resolved := Array.replicate 12 none
  statics := none }

def pool4 : Array CpInfo := pool [(1, .class_ 2), (0, u "java/io/Serializable"), (0, .class_ 4), (0, u "java/lang/Object")] 2

/-- java/io/Serializable -/
def k4 : Class := { plain "java/io/Serializable" (some 0) with
  accessFlags := 1537
  interfaces := #[]
  cf := some (fileOf pool4 1 #[] #[] 1537 3 #[] #[])
  fields := #[]
  methods := #[]
  instanceTypes := #[]
  staticTypes := #[]
  resolved := Array.replicate 7 none
  statics := none }

def pool5 : Array CpInfo := pool [(2, .class_ 4), (1, u "java/lang/Enum"), (0, u "name"), (0, u "Ljava/lang/String;"), (2, u "ordinal"), (0, u "I"), (1, .class_ 14), (1, u "java/lang/Object"), (4, u "hash"), (86, .class_ 108), (1, u "java/lang/Enum$EnumDesc"), (2, .class_ 112), (0, u "java/lang/constant/Constable"), (0, .class_ 114), (0, u "java/lang/Comparable"), (0, .class_ 116), (0, u "java/io/Serializable")] 87

/-- java/lang/Enum -/
def k5 : Class := { plain "java/lang/Enum" (some 0) with
  accessFlags := 1057
  interfaces := #[2, 3, 4]
  cf := some (fileOf pool5 2 #[.nestMembers #[106]] #[] 1057 12 #[111, 113, 115] #[{ accessFlags := 18, nameIndex := 5, descriptorIndex := 6, attributes := #[] }, { accessFlags := 18, nameIndex := 9, descriptorIndex := 10, attributes := #[] }, { accessFlags := 2, nameIndex := 19, descriptorIndex := 10, attributes := #[] }])
  fields := #[{ name := "name", type := (.object "java/lang/String"), accessFlags := 18, slot := 0, constantValue := 0 }, { name := "ordinal", type := .int, accessFlags := 18, slot := 1, constantValue := 0 }, { name := "hash", type := .int, accessFlags := 2, slot := 2, constantValue := 0 }]
  methods := #[]
  instanceTypes := #[(.object "java/lang/String"), .int, .int]
  staticTypes := #[]
  resolved := Array.replicate 204 none
  statics := none }

def pool6 : Array CpInfo := pool [(1, .class_ 2), (0, u "com/example/cardwire/cardwire/f6/F6Command"), (2, u "RESET"), (0, u "Lcom/example/cardwire/cardwire/f6/F6Command;"), (2, u "CARD_POSITION"), (2, u "ALLOW_ENTRY"), (2, u "DISPENSE"), (2, u "MOVE_INSIDE"), (2, u "MOVE_TO_IC"), (2, u "MOVE_TO_FRONT"), (2, u "MOVE_TO_REAR"), (2, u "EJECT_FRONT"), (2, u "EJECT_REAR"), (2, u "MOVE_TO_REREAD"), (2, u "READ_TRACK_1"), (2, u "READ_TRACK_2"), (2, u "READ_TRACK_3"), (2, u "READ_TRACKS_1_2"), (2, u "READ_TRACKS_1_3"), (2, u "READ_TRACKS_2_3"), (2, u "READ_TRACKS_1_2_3"), (2, u "$VALUES"), (0, u "[Lcom/example/cardwire/cardwire/f6/F6Command;"), (6, .class_ 70), (1, u "java/lang/Enum"), (6, .fieldref 1 78), (0, .nameAndType 79 80), (0, u "code"), (0, u "I"), (0, .fieldref 1 82), (0, .nameAndType 83 80), (0, u "parameter"), (12, u "startsBody"), (0, u "([B)Z")] 50

def k6c0 : Code := { maxStack := 2, maxLocals := 2, code := prog_30_method_6_code, exceptionTable := #[], attributes := #[] }
def k6m0 : Method := { name := "startsBody", desc := "([B)Z", sig := { parameters := [(.array .byte)], returnType := some .boolean }, accessFlags := 0, code := some k6c0 }
/-- com/example/cardwire/cardwire/f6/F6Command -/
def k6 : Class := { plain "com/example/cardwire/cardwire/f6/F6Command" (some 5) with
  accessFlags := 16432
  interfaces := #[]
  cf := some (fileOf pool6 1 #[] #[{ accessFlags := 0, nameIndex := 96, descriptorIndex := 97, attributes := #[] }] 16432 68 #[] #[{ accessFlags := 16409, nameIndex := 5, descriptorIndex := 6, attributes := #[] }, { accessFlags := 16409, nameIndex := 9, descriptorIndex := 6, attributes := #[] }, { accessFlags := 16409, nameIndex := 12, descriptorIndex := 6, attributes := #[] }, { accessFlags := 16409, nameIndex := 15, descriptorIndex := 6, attributes := #[] }, { accessFlags := 16409, nameIndex := 18, descriptorIndex := 6, attributes := #[] }, { accessFlags := 16409, nameIndex := 21, descriptorIndex := 6, attributes := #[] }, { accessFlags := 16409, nameIndex := 24, descriptorIndex := 6, attributes := #[] }, { accessFlags := 16409, nameIndex := 27, descriptorIndex := 6, attributes := #[] }, { accessFlags := 16409, nameIndex := 30, descriptorIndex := 6, attributes := #[] }, { accessFlags := 16409, nameIndex := 33, descriptorIndex := 6, attributes := #[] }, { accessFlags := 16409, nameIndex := 36, descriptorIndex := 6, attributes := #[] }, { accessFlags := 16409, nameIndex := 39, descriptorIndex := 6, attributes := #[] }, { accessFlags := 16409, nameIndex := 42, descriptorIndex := 6, attributes := #[] }, { accessFlags := 16409, nameIndex := 45, descriptorIndex := 6, attributes := #[] }, { accessFlags := 16409, nameIndex := 48, descriptorIndex := 6, attributes := #[] }, { accessFlags := 16409, nameIndex := 51, descriptorIndex := 6, attributes := #[] }, { accessFlags := 16409, nameIndex := 54, descriptorIndex := 6, attributes := #[] }, { accessFlags := 16409, nameIndex := 57, descriptorIndex := 6, attributes := #[] }, { accessFlags := 18, nameIndex := 79, descriptorIndex := 80, attributes := #[] }, { accessFlags := 18, nameIndex := 83, descriptorIndex := 80, attributes := #[] }, { accessFlags := 4122, nameIndex := 60, descriptorIndex := 61, attributes := #[] }])
  fields := #[{ name := "RESET", type := (.object "com/example/cardwire/cardwire/f6/F6Command"), accessFlags := 16409, slot := 0, constantValue := 0 }, { name := "CARD_POSITION", type := (.object "com/example/cardwire/cardwire/f6/F6Command"), accessFlags := 16409, slot := 1, constantValue := 0 }, { name := "ALLOW_ENTRY", type := (.object "com/example/cardwire/cardwire/f6/F6Command"), accessFlags := 16409, slot := 2, constantValue := 0 }, { name := "DISPENSE", type := (.object "com/example/cardwire/cardwire/f6/F6Command"), accessFlags := 16409, slot := 3, constantValue := 0 }, { name := "MOVE_INSIDE", type := (.object "com/example/cardwire/cardwire/f6/F6Command"), accessFlags := 16409, slot := 4, constantValue := 0 }, { name := "MOVE_TO_IC", type := (.object "com/example/cardwire/cardwire/f6/F6Command"), accessFlags := 16409, slot := 5, constantValue := 0 }, { name := "MOVE_TO_FRONT", type := (.object "com/example/cardwire/cardwire/f6/F6Command"), accessFlags := 16409, slot := 6, constantValue := 0 }, { name := "MOVE_TO_REAR", type := (.object "com/example/cardwire/cardwire/f6/F6Command"), accessFlags := 16409, slot := 7, constantValue := 0 }, { name := "EJECT_FRONT", type := (.object "com/example/cardwire/cardwire/f6/F6Command"), accessFlags := 16409, slot := 8, constantValue := 0 }, { name := "EJECT_REAR", type := (.object "com/example/cardwire/cardwire/f6/F6Command"), accessFlags := 16409, slot := 9, constantValue := 0 }, { name := "MOVE_TO_REREAD", type := (.object "com/example/cardwire/cardwire/f6/F6Command"), accessFlags := 16409, slot := 10, constantValue := 0 }, { name := "READ_TRACK_1", type := (.object "com/example/cardwire/cardwire/f6/F6Command"), accessFlags := 16409, slot := 11, constantValue := 0 }, { name := "READ_TRACK_2", type := (.object "com/example/cardwire/cardwire/f6/F6Command"), accessFlags := 16409, slot := 12, constantValue := 0 }, { name := "READ_TRACK_3", type := (.object "com/example/cardwire/cardwire/f6/F6Command"), accessFlags := 16409, slot := 13, constantValue := 0 }, { name := "READ_TRACKS_1_2", type := (.object "com/example/cardwire/cardwire/f6/F6Command"), accessFlags := 16409, slot := 14, constantValue := 0 }, { name := "READ_TRACKS_1_3", type := (.object "com/example/cardwire/cardwire/f6/F6Command"), accessFlags := 16409, slot := 15, constantValue := 0 }, { name := "READ_TRACKS_2_3", type := (.object "com/example/cardwire/cardwire/f6/F6Command"), accessFlags := 16409, slot := 16, constantValue := 0 }, { name := "READ_TRACKS_1_2_3", type := (.object "com/example/cardwire/cardwire/f6/F6Command"), accessFlags := 16409, slot := 17, constantValue := 0 }, { name := "code", type := .int, accessFlags := 18, slot := 3, constantValue := 0 }, { name := "parameter", type := .int, accessFlags := 18, slot := 4, constantValue := 0 }, { name := "$VALUES", type := (.array (.object "com/example/cardwire/cardwire/f6/F6Command")), accessFlags := 4122, slot := 18, constantValue := 0 }]
  methods := #[k6m0]
  instanceTypes := #[(.object "java/lang/String"), .int, .int, .int, .int]
  staticTypes := #[(.object "com/example/cardwire/cardwire/f6/F6Command"), (.object "com/example/cardwire/cardwire/f6/F6Command"), (.object "com/example/cardwire/cardwire/f6/F6Command"), (.object "com/example/cardwire/cardwire/f6/F6Command"), (.object "com/example/cardwire/cardwire/f6/F6Command"), (.object "com/example/cardwire/cardwire/f6/F6Command"), (.object "com/example/cardwire/cardwire/f6/F6Command"), (.object "com/example/cardwire/cardwire/f6/F6Command"), (.object "com/example/cardwire/cardwire/f6/F6Command"), (.object "com/example/cardwire/cardwire/f6/F6Command"), (.object "com/example/cardwire/cardwire/f6/F6Command"), (.object "com/example/cardwire/cardwire/f6/F6Command"), (.object "com/example/cardwire/cardwire/f6/F6Command"), (.object "com/example/cardwire/cardwire/f6/F6Command"), (.object "com/example/cardwire/cardwire/f6/F6Command"), (.object "com/example/cardwire/cardwire/f6/F6Command"), (.object "com/example/cardwire/cardwire/f6/F6Command"), (.object "com/example/cardwire/cardwire/f6/F6Command"), (.array (.object "com/example/cardwire/cardwire/f6/F6Command"))]
  resolved := Array.replicate 148 none
  statics := some 0 }

def pool7 : Array CpInfo := pool [(1, u "java/lang/Cloneable"), (0, .class_ 1), (0, u "java/lang/Object"), (0, .class_ 3)] 3

/-- java/lang/Cloneable -/
def k7 : Class := { plain "java/lang/Cloneable" (some 0) with
  accessFlags := 1537
  interfaces := #[]
  cf := some (fileOf pool7 2 #[] #[] 1537 4 #[] #[])
  fields := #[]
  methods := #[]
  instanceTypes := #[]
  staticTypes := #[]
  resolved := Array.replicate 8 none
  statics := none }

/-- the primitive byte -/
def k8 : Class := { plain "byte" none with kind := .primitive 'B', accessFlags := 0x411 }
/-- [B -/
def k9 : Class := { plain "[B" (some 0) with kind := .array 8 .byte, interfaces := #[7, 4], accessFlags := 1041 }

/-- the primitive int -/
def k10 : Class := { plain "int" none with kind := .primitive 'I', accessFlags := 0x411 }
/-- [I -/
def k11 : Class := { plain "[I" (some 0) with kind := .array 10 .int, interfaces := #[7, 4], accessFlags := 1041 }

/-- [Lcom/example/cardwire/cardwire/f6/F6Command; -/
def k12 : Class := { plain "[Lcom/example/cardwire/cardwire/f6/F6Command;" (some 0) with kind := .array 6 (.object "com/example/cardwire/cardwire/f6/F6Command"), interfaces := #[7, 4], accessFlags := 1041 }

def heap : Heap := #[{ cls := 6, slots := #[.ref 1, .ref 2, .ref 3, .ref 4, .ref 5, .ref 6, .ref 7, .ref 8, .ref 9, .ref 10, .ref 11, .ref 12, .ref 13, .ref 14, .ref 15, .ref 16, .ref 17, .ref 18, .null], vm := .statics 6 },
  { cls := 6, slots := #[.null, .int 0, .int 0, .int 48, .int 48], vm := .none },
  { cls := 6, slots := #[.null, .int 0, .int 0, .int 49, .int 48], vm := .none },
  { cls := 6, slots := #[.null, .int 0, .int 0, .int 50, .int 48], vm := .none },
  { cls := 6, slots := #[.null, .int 0, .int 0, .int 50, .int 50], vm := .none },
  { cls := 6, slots := #[.null, .int 0, .int 0, .int 51, .int 48], vm := .none },
  { cls := 6, slots := #[.null, .int 0, .int 0, .int 51, .int 49], vm := .none },
  { cls := 6, slots := #[.null, .int 0, .int 0, .int 51, .int 50], vm := .none },
  { cls := 6, slots := #[.null, .int 0, .int 0, .int 51, .int 51], vm := .none },
  { cls := 6, slots := #[.null, .int 0, .int 0, .int 51, .int 52], vm := .none },
  { cls := 6, slots := #[.null, .int 0, .int 0, .int 51, .int 53], vm := .none },
  { cls := 6, slots := #[.null, .int 0, .int 0, .int 51, .int 54], vm := .none },
  { cls := 6, slots := #[.null, .int 0, .int 0, .int 55, .int 48], vm := .none },
  { cls := 6, slots := #[.null, .int 0, .int 0, .int 55, .int 49], vm := .none },
  { cls := 6, slots := #[.null, .int 0, .int 0, .int 55, .int 50], vm := .none },
  { cls := 6, slots := #[.null, .int 0, .int 0, .int 55, .int 51], vm := .none },
  { cls := 6, slots := #[.null, .int 0, .int 0, .int 55, .int 52], vm := .none },
  { cls := 6, slots := #[.null, .int 0, .int 0, .int 55, .int 53], vm := .none },
  { cls := 6, slots := #[.null, .int 0, .int 0, .int 55, .int 54], vm := .none }]
def classes : Array Class := #[k0, k1, k2, k3, k4, k5, k6, k7, k8, k9, k10, k11, k12]
def interned : List (Array UInt16 × Addr) := []
def slotsUsed : Nat := 109
def theMethod : MethodId := ⟨1, 1⟩
def args0 : Array Value := #[.int 5, .int 7, .int 9, .int 3, .int 2]
def aboutOver (below : List Frame) : State where
  vm := { classes := classes, interned := interned.toArray }
  heap := heap
  slotsUsed := slotsUsed
  threads := #[{ frames := .invoking theMethod args0 :: below }]
def below0 : List Frame := [.native { method := ⟨0, 0⟩, args := #[] }]
def about1 : State := aboutOver below0
def p0 : Program := .bare "" "" ""
def e0 : Env := launch0.env 0 0 0
theorem w_frames : about1.frames = Frame.invoking theMethod args0 :: below0 := rfl
set_option maxRecDepth 65536 in
theorem w_args : argsFit about1.vm theMethod args0 = true := by decide +kernel
set_option maxRecDepth 65536 in
theorem w_heap : heapFits about1 = true := by decide +kernel
set_option maxRecDepth 65536 in
theorem w_runnable : about1.curStatus? = some .runnable := by decide +kernel
set_option maxRecDepth 65536 in
theorem w_alone : about1.alone = true := by decide +kernel
set_option maxRecDepth 65536 in
theorem w_named : about1.methodNamed? x = some theMethod := by decide +kernel
set_option maxRecDepth 65536 in
theorem w_hears : about1.hears theMethod below0 = true := by decide +kernel
set_option maxRecDepth 65536 in
theorem w_ripe : about1.ripe theMethod args0 below0 = true := by decide +kernel
theorem w_running : about1.status = .running := rfl
set_option maxRecDepth 65536 in
theorem w_room : about1.hasRoom e0.platform room_1 = true :=
  launch0.hasRoom_least _ room_1 (by decide +kernel) (by decide +kernel) (by decide +kernel) (by decide +kernel) (by decide +kernel) (by decide +kernel)
theorem allAtoms_all (ts : List Jvm.Cond) (a : Array Jvm.Value) (st : Jvm.State) : (allAtoms ts).before a st = ts.all (fun c => c.before a st) := by
  induction ts with
  | nil => rfl
  | cons c t ih =>
    show (Jvm.Cond.and c (allAtoms t)).before a st = _
    rw [Jvm.Cond.before_and, ih, List.all_cons]
def words1 : List Jvm.Cond := Jvm.Cond.code x code maxLocals ret :: tables_1
/-- a 'code' word, met by the world's own term for the bytes: nothing is compared byte by byte -/
theorem code_word {y : MethodName} {bytes : ByteArray} {mx : Nat} {rt : Option FieldType} {a : Array Value} {s : State} {m : MethodId} {meth : Method} {c : Code} (h1 : s.methodNamed? y = some m) (h2 : s.vm.method? m = some meth) (h3 : meth.code = some c) (h4 : c.code = bytes)
    (h5 : (c.maxLocals == mx && c.exceptionTable.isEmpty && decide (c.maxStack ≤ mostOperands) && decide (meth.sig.returnType = rt) && !meth.locks && decide (parseMethodDescriptor y.desc = some meth.sig)) = true) : (Jvm.Cond.code y bytes mx rt).before a s = true := by
  simp only [Bool.and_eq_true, beq_iff_eq, Bool.not_eq_true', decide_eq_true_eq] at h5
  obtain ⟨⟨⟨⟨⟨g1, g2⟩, g3⟩, g4⟩, g5⟩, g6⟩ := h5
  simp [Cond.before, Cond.holds, Cond.value, h1, h2, h3, h4, g1, g2, g3, g4, g5, g6]
def isCode : Jvm.Cond → Bool
  | .code _ _ _ _ => true
  | _ => false
theorem all_split {L : List Jvm.Cond} {P : Jvm.Cond → Bool} (h1 : L.all (fun c => isCode c || P c) = true) (h2 : ∀ c ∈ L.filter isCode, P c = true) : L.all P = true := by
  refine List.all_eq_true.mpr fun c hc => ?_
  have h := List.all_eq_true.mp h1 c hc
  rcases Bool.eq_false_or_eq_true (isCode c) with hi | hi
  · exact h2 c (List.mem_filter.mpr ⟨hc, hi⟩)
  · simpa [hi] using h
set_option maxRecDepth 65536 in
theorem w_c0 : (Jvm.Cond.code x code maxLocals ret).before args0 about1 = true := code_word (m := ⟨1, 1⟩) (meth := k1m1) (c := k1c1) (by decide +kernel) rfl rfl rfl (by decide +kernel)
set_option maxRecDepth 65536 in
theorem w_c1 : (Jvm.Cond.code ({ cls := "com/example/cardwire/cardwire/f6/F6Command", name := "startsBody", desc := "([B)Z" } : Jvm.MethodName) prog_30_method_6_code (2 : Nat) (Option.some Jvm.ClassFile.FieldType.boolean)).before args0 about1 = true := code_word (m := ⟨6, 0⟩) (meth := k6m0) (c := k6c0) (by decide +kernel) rfl rfl rfl (by decide +kernel)
def codes1 : List Jvm.Cond := [Jvm.Cond.code x code maxLocals ret, Jvm.Cond.code ({ cls := "com/example/cardwire/cardwire/f6/F6Command", name := "startsBody", desc := "([B)Z" } : Jvm.MethodName) prog_30_method_6_code (2 : Nat) (Option.some Jvm.ClassFile.FieldType.boolean)]
set_option maxRecDepth 65536 in
theorem codes_eq : words1.filter isCode = codes1 := rfl
theorem w_codes : ∀ c ∈ words1.filter isCode, c.before args0 about1 = true := by
  rw [codes_eq]
  intro c hc
  simp only [codes1, List.mem_cons, List.not_mem_nil, or_false] at hc
  rcases hc with rfl | rfl
  · exact w_c0
  · exact w_c1
set_option maxRecDepth 65536 in
theorem w_t1 : (words1.take 24).all (fun c => isCode c || c.before args0 about1) = true := by decide +kernel
set_option maxRecDepth 65536 in
theorem w_t2 : ((words1.drop 24).take 24).all (fun c => isCode c || c.before args0 about1) = true := by decide +kernel
set_option maxRecDepth 65536 in
theorem w_t3 : ((words1.drop 24).drop 24).all (fun c => isCode c || c.before args0 about1) = true := by decide +kernel
theorem w_tables : (allAtoms (Jvm.Cond.code x code maxLocals ret :: tables_1)).before args0 about1 = true := by
  rw [allAtoms_all]
  show words1.all (fun c => c.before args0 about1) = true
  refine all_split ?_ w_codes
  rw [← List.take_append_drop 24 words1, List.all_append, w_t1, ← List.take_append_drop 24 (words1.drop 24), List.all_append, w_t2, w_t3]
  rfl
set_option maxRecDepth 65536 in
theorem w_case : (Jvm.Cond.and given_1 narrow_1).before args0 about1 = true := by decide +kernel
theorem w_applies : (headSpec (Jvm.Cond.code x code maxLocals ret :: tables_1) room_1).applies x e0.platform about1 = true :=
  (Spec.applies_iff w_frames).mpr ⟨w_running, w_runnable, w_alone, w_named, w_hears, w_ripe, w_room, w_tables⟩
theorem atStart : AtStart classFile x code maxLocals ret World_1 tables_1 room_1 Calls_1 rest_1 Pre_1 launch0 p0 e0 about1 theMethod args0 below0 :=
  ⟨lists_1, trivial, launch0.admits_env _ _ _, launch0.least_env, fairChoices_fair.cas, fairChoices_fair.clock, w_frames, w_args, w_heap, w_applies, trivial, trivial, w_case⟩
end start1
theorem witness_1 : WitnessClaimed_1 := ⟨start1.p0, start1.e0, start1.about1, start1.theMethod, start1.args0, start1.below0, start1.atStart⟩
end Jvm.Pilot.@@N@@
