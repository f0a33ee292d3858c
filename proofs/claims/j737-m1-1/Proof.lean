import JvmDerived
import JvmDerived.Pilot.@@N@@Statement
import JvmDerived.Pilot.@@N@@Code
set_option linter.unusedVariables false
set_option linter.unusedSimpArgs false
namespace Jvm.RoadKit
open Sem ClassFile Op Lib Jvm.Stand Jvm.Free Jvm.LawKit
section New
variable {p : Program} {l : Launch} {e : Env} {R : Room} {s : State} {m : MethodId} {args : Array Value} {below : List Frame} {meth : Method} {c : Code} {T : State} {locs : List Loc} {cells slots : Nat}
theorem retI (X : Stand p l e R s m args below meth c T locs cells slots) (hx : p.tables.exec = Jvm.exec) {pc : Nat} {Ls : Array Slot} {z : Int32} {rest : List Value} (hret : meth.sig.returnType = some .int) (hd : decode c.code pc = .ok (.ireturn, 1)) {fs : List Frame}
    (hl : ∀ (f : JFrame) (acts : List Action), f.method = m → f.locked = none → f.entered = [] → (doReturn e (T.setTop f) acts (some (.int z))).1 = T.setFrames fs) : Steps p.tables e below (T.setTop (mkF m pc Ls (.int z :: rest))) (T.setFrames fs) := by
  have hm' : T.vm.method? m = some meth := X.method'
  have hn : narrow .int (.int z) = .int z := rfl
  show Steps p.tables e below (T.setTop { method := m, pc := pc, locals := Ls, stack := _ :: rest, locked := none }) _
  jvm_step X.here [X.here.top, hx, hd, hm', hret, hn]
  first | (intro acts; rw [hl _ acts rfl rfl rfl]) | rw [hl _ _ rfl rfl rfl]
  exact Steps.refl _
theorem own_lremM {g : JFrame} {target : State} (X : Stand p l e R s m args below meth c T locs cells slots) (hx : p.tables.exec = Jvm.exec) (hg : g.method = m) {x y : Int64} {rest : List Value} (hd : decode c.code g.pc = .ok (.lrem, 1)) (hs : g.stack = .long y :: .long x :: rest) (hy : y ≠ 0)
    (hr : Steps p.tables e below (T.setTop { g with pc := g.pc + 1, stack := .long (x % y) :: rest }) target) : Steps p.tables e below (T.setTop g) target := by
  have q : x - x / y * y = x % y := lrem_mod x y
  exact XS.lrem X.here hx hg hd hs hy (by rw [q]; exact hr)
end New
end Jvm.RoadKit
namespace Jvm.RoadKit
open Sem ClassFile Op Lib Jvm.Stand Jvm.Free Jvm.LawKit
section OwnA
variable {p : Program} {l : Launch} {e : Env} {R : Room} {s : State} {m : MethodId} {args : Array Value} {below : List Frame} {meth : Method} {c : Code} {T : State} {locs : List Loc} {cells slots : Nat} {Z : State} {a0 : Array Value} {h h' : Heap} {a b : Addr} {ty : FieldType} {n : Nat} {G : Nat → Value}
def own_upd {α : Type} (g : Nat → α) (k : Nat) (x : α) (i : Nat) : α := if i = k then x else g i
def own_zI (_ : Nat) : Int32 := 0
def own_zJ (_ : Nat) : Int64 := 0
def own_A (Z : State) (h : Heap) (a : Addr) (ty : FieldType) (n : Nat) (G : Nat → Value) : Prop := ∃ c : Cell, Arr Z h a c ty ∧ c.slots.size = n ∧ ∀ i, i < n → c.slots[i]? = some (G i) ∧ fits ty (G i) = true
theorem own_A.lt (F : own_A Z h a ty n G) : a < h.size := by obtain ⟨c, A, -⟩ := F; exact A.lt
theorem own_A.ext (F : own_A Z h a ty n G) (E : Ext h h') : own_A Z h' a ty n G := by obtain ⟨c, A, r⟩ := F; exact ⟨c, A.ext E, r⟩
theorem own_A.other {sl : Nat} {v : Value} (F : own_A Z h b ty n G) (W : Wr h h' a sl v) (q : b ≠ a) : own_A Z h' b ty n G := by obtain ⟨c, A, r⟩ := F; exact ⟨c, A.other W q, r⟩
theorem own_A.keep {ws : List Addr} (F : own_A Z h a ty n G) (K : Keep h h' ws) (q : a ∉ ws) : own_A Z h' a ty n G := by obtain ⟨c, A, r⟩ := F; exact ⟨c, ⟨K.2.1 a c A.1 q, A.2⟩, r⟩
theorem own_A.new {k : ClassId} {z : Int32} (A : Arr Z h a (newA k ty z) ty) (q : z.toNatClampNeg = n) (hG : ∀ i, G i = defaultValue ty) : own_A Z h a ty n G :=
  ⟨_, A, by rw [sz_new, q], fun i hi => ⟨by rw [hG]; rw [← q] at hi; simp [newA, hi], by rw [hG]; cases ty <;> rfl⟩⟩
theorem own_A.set {k : Nat} {v : Value} (F : own_A Z h a ty n G) (W : Wr h h' a k v) (hk : k < n) (hf : fits ty v = true) : own_A Z h' a ty n (own_upd G k v) := by
  obtain ⟨c, A, q, r⟩ := F
  refine ⟨c.setSlot k v, A.same W, by rw [sz_set, q], fun i hi => ?_⟩
  by_cases e : i = k
  · subst e
    exact ⟨by simp [Cell.setSlot, own_upd, q, hk], by simpa [own_upd] using hf⟩
  · have r1 := r i hi
    have r2 : (c.setSlot k v).slots[i]? = c.slots[i]? := Array.getElem?_setIfInBounds_ne (Ne.symm e)
    have r3 : own_upd G k v i = G i := if_neg e
    rw [r2, r3]; exact r1
theorem own_upd_int (g : Nat → Int32) (k : Nat) (x : Int32) : own_upd (fun i => Value.int (g i)) k (.int x) = fun i => Value.int (own_upd g k x i) := by funext i; unfold own_upd; split <;> rfl
theorem own_upd_long (g : Nat → Int64) (k : Nat) (x : Int64) : own_upd (fun i => Value.long (g i)) k (.long x) = fun i => Value.long (own_upd g k x i) := by funext i; unfold own_upd; split <;> rfl
theorem own_inb {c : Cell} {j : Int32} {k : Nat} (q : c.slots.size = n) (hj0 : ¬ j < 0) (hk : j.toNatClampNeg = k) (hkn : k < n) : ¬ (j < 0 ∨ c.slots.size ≤ j.toNatClampNeg) := fun y => y.elim hj0 fun z => by rw [q, hk] at z; exact absurd hkn (Nat.not_lt.mpr z)
theorem own_stI {g0 : Nat → Int32} (X : Stand p l e R s m args below meth c T locs cells slots) (hx : p.tables.exec = Jvm.exec) (hZ : Z.Warmed39 s.vm) (eT : T.heap = h) (F : own_A Z h a .int n (fun i => .int (g0 i))) {j x : Int32} {k : Nat} (hj0 : ¬ j < 0) (hk : j.toNatClampNeg = k) (hkn : k < n) {g : JFrame} (hg : g.method = m) {rest : List Value} (hs : g.stack = .int x :: .int j :: .ref a :: rest) (hd : decode c.code g.pc = .ok (.iastore, 1)) :
    ∃ T' h', Stand p l e R s m args below meth c T' (locs ++ [⟨a, j.toNatClampNeg⟩]) cells slots ∧ T'.heap = h' ∧ Wr h h' a j.toNatClampNeg (.int x) ∧ own_A Z h' a .int n (fun i => .int (own_upd g0 k x i)) ∧ ∀ target, Steps p.tables e below (T'.setTop { g with pc := g.pc + 1, stack := rest }) target → Steps p.tables e below (T.setTop g) target := by
  obtain ⟨cl, A, q, r⟩ := id F
  obtain ⟨T', h', X', e', W, st⟩ := stI X hx hZ eT A (j := j) (x := x) (own_inb q hj0 hk hkn) hg hs hd
  exact ⟨T', h', X', e', W, own_upd_int g0 k x ▸ hk ▸ F.set W (by rw [hk]; exact hkn) rfl, st⟩
theorem own_stJ {g0 : Nat → Int64} (X : Stand p l e R s m args below meth c T locs cells slots) (hx : p.tables.exec = Jvm.exec) (hZ : Z.Warmed39 s.vm) (eT : T.heap = h) (F : own_A Z h a .long n (fun i => .long (g0 i))) {j : Int32} {x : Int64} {k : Nat} (hj0 : ¬ j < 0) (hk : j.toNatClampNeg = k) (hkn : k < n) {g : JFrame} (hg : g.method = m) {rest : List Value} (hs : g.stack = .long x :: .int j :: .ref a :: rest) (hd : decode c.code g.pc = .ok (.lastore, 1)) :
    ∃ T' h', Stand p l e R s m args below meth c T' (locs ++ [⟨a, j.toNatClampNeg⟩]) cells slots ∧ T'.heap = h' ∧ Wr h h' a j.toNatClampNeg (.long x) ∧ own_A Z h' a .long n (fun i => .long (own_upd g0 k x i)) ∧ ∀ target, Steps p.tables e below (T'.setTop { g with pc := g.pc + 1, stack := rest }) target → Steps p.tables e below (T.setTop g) target := by
  obtain ⟨cl, A, q, r⟩ := id F
  obtain ⟨T', h', X', e', W, st⟩ := stJ X hx hZ eT A (j := j) (x := x) (own_inb q hj0 hk hkn) hg hs hd
  exact ⟨T', h', X', e', W, own_upd_long g0 k x ▸ hk ▸ F.set W (by rw [hk]; exact hkn) rfl, st⟩
theorem own_stB {g0 : Nat → Int32} (X : Stand p l e R s m args below meth c T locs cells slots) (hx : p.tables.exec = Jvm.exec) (hZ : Z.Warmed39 s.vm) (eT : T.heap = h) (F : own_A Z h a .byte n (fun i => .int (g0 i))) {j x : Int32} {k : Nat} (hj0 : ¬ j < 0) (hk : j.toNatClampNeg = k) (hkn : k < n) {g : JFrame} (hg : g.method = m) {rest : List Value} (hs : g.stack = .int x :: .int j :: .ref a :: rest) (hd : decode c.code g.pc = .ok (.bastore, 1)) :
    ∃ T' h', Stand p l e R s m args below meth c T' (locs ++ [⟨a, j.toNatClampNeg⟩]) cells slots ∧ T'.heap = h' ∧ Wr h h' a j.toNatClampNeg (.int x.toInt8.toInt32) ∧ own_A Z h' a .byte n (fun i => .int (own_upd g0 k x.toInt8.toInt32 i)) ∧ ∀ target, Steps p.tables e below (T'.setTop { g with pc := g.pc + 1, stack := rest }) target → Steps p.tables e below (T.setTop g) target := by
  obtain ⟨cl, A, q, r⟩ := id F
  obtain ⟨T', h', X', e', W, st⟩ := stB X hx hZ eT A (j := j) (x := x) (own_inb q hj0 hk hkn) hg hs hd
  have hfb : fits .byte (.int (nar .byte x)) = true := fits_nar_byte x
  exact ⟨T', h', X', e', W, own_upd_int g0 k _ ▸ hk ▸ F.set W (by rw [hk]; exact hkn) hfb, st⟩
theorem own_ldI {g0 : Nat → Int32} (X : Stand p l e R s m args below meth c T locs cells slots) (hx : p.tables.exec = Jvm.exec) (hZ : Z.Warmed39 s.vm) (eT : T.heap = h) (F : own_A Z h a .int n (fun i => .int (g0 i))) {j : Int32} {k : Nat} (hj0 : ¬ j < 0) (hk : j.toNatClampNeg = k) (hkn : k < n) {g : JFrame} (hg : g.method = m) {rest : List Value} (hs : g.stack = .int j :: .ref a :: rest) (hd : decode c.code g.pc = .ok (.iaload, 1)) {target : State}
    (hr : Steps p.tables e below (T.setTop { g with pc := g.pc + 1, stack := .int (g0 k) :: rest }) target) : Steps p.tables e below (T.setTop g) target := by
  obtain ⟨cl, A, q, r⟩ := F
  exact X.iaload hx (j := j) (v := .int (g0 k)) (by rw [eT]; exact A.1) (State.isArrayOf_alike hZ.alike A.2.1) A.2.2 (own_inb q hj0 hk hkn) (by rw [hk]; exact (r k hkn).1) hg hs hd _ hr
theorem own_ldJ {g0 : Nat → Int64} (X : Stand p l e R s m args below meth c T locs cells slots) (hx : p.tables.exec = Jvm.exec) (hZ : Z.Warmed39 s.vm) (eT : T.heap = h) (F : own_A Z h a .long n (fun i => .long (g0 i))) {j : Int32} {k : Nat} (hj0 : ¬ j < 0) (hk : j.toNatClampNeg = k) (hkn : k < n) {g : JFrame} (hg : g.method = m) {rest : List Value} (hs : g.stack = .int j :: .ref a :: rest) (hd : decode c.code g.pc = .ok (.laload, 1)) {target : State}
    (hr : Steps p.tables e below (T.setTop { g with pc := g.pc + 1, stack := .long (g0 k) :: rest }) target) : Steps p.tables e below (T.setTop g) target := by
  obtain ⟨cl, A, q, r⟩ := F
  exact X.laload hx (j := j) (v := .long (g0 k)) (by rw [eT]; exact A.1) (State.isArrayOf_alike hZ.alike A.2.1) A.2.2 (own_inb q hj0 hk hkn) (by rw [hk]; exact (r k hkn).1) hg hs hd _ hr
theorem own_ldB {g0 : Nat → Int32} (X : Stand p l e R s m args below meth c T locs cells slots) (hx : p.tables.exec = Jvm.exec) (hZ : Z.Warmed39 s.vm) (eT : T.heap = h) (F : own_A Z h a .byte n (fun i => .int (g0 i))) {j : Int32} {k : Nat} (hj0 : ¬ j < 0) (hk : j.toNatClampNeg = k) (hkn : k < n) {g : JFrame} (hg : g.method = m) {rest : List Value} (hs : g.stack = .int j :: .ref a :: rest) (hd : decode c.code g.pc = .ok (.baload, 1)) {target : State}
    (hr : Steps p.tables e below (T.setTop { g with pc := g.pc + 1, stack := .int (g0 k) :: rest }) target) : Steps p.tables e below (T.setTop g) target := by
  obtain ⟨cl, A, q, r⟩ := F
  exact X.baloadBytes hx (j := j) (v := .int (g0 k)) (by rw [eT]; exact A.1) (State.isArrayOf_alike hZ.alike A.2.1) A.2.2 (own_inb q hj0 hk hkn) (by rw [hk]; exact (r k hkn).1) hg hs hd _ hr
theorem own_ldR {G : Nat → Value} (X : Stand p l e R s m args below meth c T locs cells slots) (hx : p.tables.exec = Jvm.exec) (hZ : Z.Warmed39 s.vm) (eT : T.heap = h) (F : own_A Z h a ty n G) (hty : ty.isReference = true) {j : Int32} {k : Nat} {v : Value} (hv : G k = v) (hj0 : ¬ j < 0) (hk : j.toNatClampNeg = k) (hkn : k < n) {g : JFrame} (hg : g.method = m) {rest : List Value} (hs : g.stack = .int j :: .ref a :: rest) (hd : decode c.code g.pc = .ok (.aaload, 1)) {target : State}
    (hr : Steps p.tables e below (T.setTop { g with pc := g.pc + 1, stack := v :: rest }) target) : Steps p.tables e below (T.setTop g) target := by
  obtain ⟨cl, A, q, r⟩ := F
  exact X.aaload hx (j := j) (v := v) (by rw [eT]; exact A.1) (State.isArrayOf_alike hZ.alike A.2.1) hty A.2.2 (own_inb q hj0 hk hkn) (by rw [hk, ← hv]; exact (r k hkn).1) hg hs hd _ hr
theorem own_len (X : Stand p l e R s m args below meth c T locs cells slots) (hx : p.tables.exec = Jvm.exec) (hZ : Z.Warmed39 s.vm) (eT : T.heap = h) (F : own_A Z h a ty n G) {z : Int32} (hz : n.toInt32 = z) {g : JFrame} (hg : g.method = m) {rest : List Value} (hs : g.stack = .ref a :: rest) (hd : decode c.code g.pc = .ok (.arraylength, 1)) {target : State}
    (hr : Steps p.tables e below (T.setTop { g with pc := g.pc + 1, stack := .int z :: rest }) target) : Steps p.tables e below (T.setTop g) target := by
  obtain ⟨cl, A, q, r⟩ := F
  exact X.arraylength hx (by rw [eT]; exact A.1) (State.isArrayOf_alike hZ.alike A.2.1) hg hs hd _ (by rw [q, hz]; exact hr)
theorem own_newP {aty : ArrayType} (X : Stand p l e R s m args below meth c T locs cells slots) (hx : p.tables.exec = Jvm.exec) (hZ : Z.Warmed39 s.vm) (w : (Cond.arrayClass (newarray.typeOf aty)).before a0 Z = true) (eT : T.heap = h) {g : JFrame} (hg : g.method = m) (hd : decode c.code g.pc = .ok (.newarray aty, 2)) {z : Int32} {rest : List Value} (hs : g.stack = .int z :: rest)
    (hn : ¬ z < 0) (hzn : z.toNatClampNeg = n) {G : Nat → Value} (hG : ∀ i, G i = defaultValue (newarray.typeOf aty)) {cap : Nat} (hcap : n ≤ cap) (hb : cap * 8 ≤ 536870912) (hc : cells + 1 ≤ R.cells) (hl : slots + cap ≤ R.slots) :
    ∃ (T' : State) (h' : Heap) (b : Addr), b = h.size ∧ Stand p l e R s m args below meth c T' locs (cells + 1) (slots + cap) ∧ T'.heap = h' ∧ Ext h h' ∧ own_A Z h' b (newarray.typeOf aty) n G ∧
      ∀ target, Steps p.tables e below (T'.setTop { g with pc := g.pc + 2, stack := .ref b :: rest }) target → Steps p.tables e below (T.setTop g) target := by
  obtain ⟨T', h', cA, X', e', E', A', st⟩ := newP X hx hZ w eT hg hd hs hn (cap := cap) (by rw [hzn]; exact hcap) hb hc hl
  exact ⟨T', h', _, rfl, X', e', E', own_A.new A' hzn hG, st⟩
theorem own_newPE {aty : ArrayType} (X : Stand p l e R s m args below meth c T locs cells slots) (hx : p.tables.exec = Jvm.exec) (hZ : Z.Warmed39 s.vm) (w : (Cond.arrayClass (newarray.typeOf aty)).before a0 Z = true) (eT : T.heap = h) {g : JFrame} (hg : g.method = m) (hd : decode c.code g.pc = .ok (.newarray aty, 2)) {z : Int32} {rest : List Value} (hs : g.stack = .int z :: rest)
    (hn : ¬ z < 0) (hzn : z.toNatClampNeg = n) {G : Nat → Value} (hG : ∀ i, G i = defaultValue (newarray.typeOf aty)) {cap : Nat} (hcap : n ≤ cap) (hb : cap * 8 ≤ 536870912) (hc : cells + 1 ≤ R.cells) (hl : slots + cap ≤ R.slots) {ad : String} (had : "[" ++ (newarray.typeOf aty).toString = ad) :
    ∃ (T' : State) (h' : Heap) (b : Addr), b = h.size ∧ Stand p l e R s m args below meth c T' locs (cells + 1) (slots + cap) ∧ T'.heap = h' ∧ Ext h h' ∧ own_A Z h' b (newarray.typeOf aty) n G ∧ Exa Z h' b ad ∧
      ∀ target, Steps p.tables e below (T'.setTop { g with pc := g.pc + 2, stack := .ref b :: rest }) target → Steps p.tables e below (T.setTop g) target := by
  obtain ⟨T', h', cA, X', e', E', A', B', st⟩ := newPE X hx hZ w eT hg hd hs hn (cap := cap) (by rw [hzn]; exact hcap) hb hc hl had
  exact ⟨T', h', _, rfl, X', e', E', own_A.new A' hzn hG, B', st⟩
theorem own_clone (X : Stand p l e R s m args below meth c T locs cells slots) (hx : p.tables.exec = Jvm.exec) (hZ : Z.Warmed39 s.vm) {own ad : String} {index : Nat} (hown : s.vm.findClass own = some m.cls)
    (w1 : (Cond.methodLink own index ⟨ad, "clone", "()Ljava/lang/Object;"⟩).before a0 Z = true) (w2 : (Cond.sameMethod ad "java/lang/Object" "clone" "()Ljava/lang/Object;").before a0 Z = true) (w3 : (Cond.native ⟨"java/lang/Object", "clone", "()Ljava/lang/Object;"⟩).before a0 Z = true)
    (w4 : (Cond.instanceMethod ⟨"java/lang/Object", "clone", "()Ljava/lang/Object;"⟩).before a0 Z = true) (w5 : (Cond.selects ad ⟨ad, "clone", "()Ljava/lang/Object;"⟩ ⟨"java/lang/Object", "clone", "()Ljava/lang/Object;"⟩).before a0 Z = true) (w6 : (Cond.castable ad "java/lang/Cloneable").before a0 Z = true)
    (eT : T.heap = h) (F : own_A Z h a ty n G) (E : Exa Z h a ad) {g : JFrame} (hg : g.method = m) (hsize : g.locals.size = c.maxLocals) {rest : List Value} (hs : g.stack = .ref a :: rest) (hd : decode c.code g.pc = .ok (.invokevirtual index, 3))
    (hf : 1 ≤ R.frames) {W cap : Nat} (hW : 2 * g.monitorRoom + (rest.map fun v => v.category).sum ≤ W) (hl : W + 14 ≤ R.locals) (hcap : n ≤ cap) (hc : cells + 1 ≤ R.cells) (hsl : slots + cap ≤ R.slots) :
    ∃ (T' : State) (h' : Heap) (b : Addr), b = h.size ∧ Stand p l e R s m args below meth c T' locs (cells + 1) (slots + cap) ∧ T'.heap = h' ∧ Ext h h' ∧ own_A Z h' b ty n G ∧ Exa Z h' b ad ∧
      ∀ target, Steps p.tables e below (T'.setTop { g with pc := g.pc + 3, stack := .ref b :: rest }) target → Steps p.tables e below (T.setTop g) target := by
  obtain ⟨cl, A, q, r⟩ := F
  have FC : FitC Z cl := fitC_of A fun i hi v hv => by
    have r1 := r i (by rw [← q]; exact hi)
    rw [r1.1] at hv; cases hv; exact r1.2
  obtain ⟨T', h', X', e', ex, A', E', st⟩ := cloneA X hx hZ hown w1 w2 w3 w4 w5 w6 eT A E FC hg hsize hs hd hf hW hl (by rw [q]; exact hcap) hc hsl
  exact ⟨T', h', _, rfl, X', e', ex, ⟨cloneOf cl, A', q, r⟩, E', st⟩
theorem own_A.congr {G' : Nat → Value} (F : own_A Z h a ty n G) (q : ∀ i, i < n → G i = G' i) : own_A Z h a ty n G' := by
  obtain ⟨c, A, s, r⟩ := F
  exact ⟨c, A, s, fun i hi => by rw [← q i hi]; exact r i hi⟩
theorem own_A_plain (F : own_A Z h a ty n G) : ∀ c : Cell, h[a]? = some c → c.vm.isStatics = false := fun c hc => by
  obtain ⟨cl, A, -⟩ := F
  cases hc.symm.trans A.1
  exact A.plain
theorem own_E_plain {C : String} (F : Exa Z h a C) : ∀ c : Cell, h[a]? = some c → c.vm.isStatics = false := fun c hc => by
  obtain ⟨cl, k, h1, -, -, h4, -⟩ := F
  cases hc.symm.trans h1
  exact h4
theorem own_sta_keep {C f d : String} {v : Value} {ws : List Addr} (F : Sta Z h C f d v) (K : Keep h h' ws) (q : ∀ x ∈ ws, ∀ c : Cell, h[x]? = some c → c.vm.isStatics = false) : Sta Z h' C f d v := by
  obtain ⟨cf, i, k, f, st, cell, h1, h2, h3, h4, h5, h6, h7⟩ := F
  exact ⟨cf, i, k, f, st, cell, h1, h2, h3, h4, K.2.1 st cell h5 (fun z => by rw [q st z cell h5] at h6; cases h6), h6, h7⟩
end OwnA
end Jvm.RoadKit
namespace Jvm.RoadKit
open Sem ClassFile Op Lib Jvm.Stand Jvm.Free Jvm.LawKit
section OwnS
variable {Z : State} {a0 : Array Value}
theorem own_root {O K : String} {n : Nat} (w : (Cond.noSuperclass O).before a0 Z = true) (wk : (Cond.instantiable K n).before a0 Z = true) (hn : O ≠ K) : NS Z O K := by
  obtain ⟨c, k, h1, h2, h3, -, -⟩ := Cond.noSuperclass_spec w
  obtain ⟨t, k', g1, -⟩ := Cond.instantiable_spec wk
  have ne := ids_ne h1 g1 hn
  refine ⟨c, t, h1, g1, fun fuel => ?_⟩
  cases fuel with
  | zero => rfl
  | succ f => simp [Vm.isSubclassAux, ne, h2, h3]
theorem own_no {C S K : String} {n : Nat} (w : (Cond.superclass C S).before a0 Z = true) (wk : (Cond.instantiable K n).before a0 Z = true) (N : NS Z C K) (hn : C ≠ K) : ∃ c t, Z.vm.findClass C = some c ∧ Z.vm.findClass K = some t ∧ Z.vm.assignable c t = false := by
  obtain ⟨c, t, h0, g0, n3⟩ := N
  obtain ⟨p, k, kp, h1, h2, h3, h4, h5, -, h7⟩ := Cond.superclass_spec h0 w
  obtain ⟨t', k', g1, g2, g5, g7, -⟩ := Cond.instantiable_spec wk
  cases g0.symm.trans g1
  have ne := ids_ne h0 g0 hn
  have g8 : k'.isInterface = false := (Bool.or_eq_false_iff.mp g7).1
  refine ⟨c, t, h0, g0, ?_⟩
  show Z.vm.assignableAux (255 + 1) c t = false
  simp [Vm.assignableAux, ne, h2, g2, h5, g5, g8, Vm.isSubclass, n3]
end OwnS
end Jvm.RoadKit
namespace Jvm.RoadKit
open Sem ClassFile Op Lib Jvm.Stand Jvm.Free Jvm.LawKit
section OwnStart
variable {Z s : State} {args : Array Value} {t : Term} {a : Addr}
theorem own_eqi {t : Term} {n : Int32} {args : Array Value} {s : State} (h : (Cond.eq t (.int n)).value args s none s [] = some true) : t.eval args s none [] s = some (.int n) := Jvm.Free.NT.SwA.eq_int (Cond.before_iff.mpr h)
theorem own_eqr {t u : Term} {x : Addr} {args : Array Value} {s : State} (hu : u.eval args s none [] s = some (.ref x)) (h : (Cond.eq t u).value args s none s [] = some true) : t.eval args s none [] s = some (.ref x) := by
  simp only [Cond.value, hu] at h
  cases ht : t.eval args s none [] s with
  | none => simp [ht] at h
  | some v => cases v <;> simp_all
def own_HL (args : Array Value) (s : State) (t : Term) : Nat → List Int32 → Prop
  | _, [] => True
  | k, v :: vs => (Term.elem t (.int (Int32.ofNat k))).eval args s none [] s = some (.int v) ∧ own_HL args s t (k + 1) vs
theorem own_HL_at : ∀ (vs : List Int32) (k : Nat), own_HL args s t k vs → ∀ i, i < vs.length → (Term.elem t (.int (Int32.ofNat (k + i)))).eval args s none [] s = some (.int (vs.getD i 0))
  | [], _, _, i, hi => absurd hi (Nat.not_lt_zero i)
  | v :: vs, k, h, i, hi => by
    cases i with
    | zero => exact h.1
    | succ i =>
      have q := own_HL_at vs (k + 1) h.2 i (by simpa using hi)
      rw [show k + (i + 1) = k + 1 + i by omega]
      simpa using q
def own_HV (args : Array Value) (s : State) (t : Term) : Nat → List Value → Prop
  | _, [] => True
  | k, v :: vs => (Term.elem t (.int (Int32.ofNat k))).eval args s none [] s = some v ∧ own_HV args s t (k + 1) vs
theorem own_HV_at : ∀ (vs : List Value) (k : Nat), own_HV args s t k vs → ∀ i, i < vs.length → (Term.elem t (.int (Int32.ofNat (k + i)))).eval args s none [] s = some (vs.getD i .null)
  | [], _, _, i, hi => absurd hi (Nat.not_lt_zero i)
  | v :: vs, k, h, i, hi => by
    cases i with
    | zero => exact h.1
    | succ i =>
      have q := own_HV_at vs (k + 1) h.2 i (by simpa using hi)
      rw [show k + (i + 1) = k + 1 + i by omega]
      simpa using q
theorem own_arr {ty : FieldType} {n : Nat} {z : Int32} (ev : t.eval args s none [] s = some (.ref a)) (hx : (Cond.arrayOf t ty).value args s none s [] = some true) (hl : (Term.length t).eval args s none [] s = some (.int z)) (hz : z.toNatClampNeg = n ∧ ¬ z < 0) : ∃ cl, Arr s s.heap a cl ty ∧ s.arrayAt? a = some cl ∧ cl.slots.size = n ∧ cl.slots.size < 2 ^ 31 := by
  obtain ⟨cl, A⟩ := Arr.start ev hx
  have ha : s.arrayAt? a = some cl := A.fin (Vm.Alike.refl _)
  have hb : cl.slots.size < 2 ^ 31 := by
    by_cases hb : cl.slots.size < 2 ^ 31
    · exact hb
    · have hb' : ¬ cl.slots.size < 2147483648 := hb
      simp [Term.eval, ev, ha, hb'] at hl
  refine ⟨cl, A, ha, ?_, hb⟩
  rw [len_f ev ha hb] at hl
  have e : cl.slots.size.toInt32 = z := by simpa using hl
  have l := len_toInt hb
  rw [e] at l
  have n1 := nat_of hz.2
  omega
theorem own_AG_start {ty : FieldType} {n : Nat} {z : Int32} {G : Nat → Value} (hf : Fit s) (ev : t.eval args s none [] s = some (.ref a)) (hx : (Cond.arrayOf t ty).value args s none s [] = some true) (hl : (Term.length t).eval args s none [] s = some (.int z)) (hz : z.toNatClampNeg = n ∧ ¬ z < 0) (he : ∀ i, i < n → (Term.elem t (.int (Int32.ofNat i))).eval args s none [] s = some (G i)) : own_A s s.heap a ty n G := by
  obtain ⟨cl, A, ha, sz, hb⟩ := own_arr ev hx hl hz
  refine ⟨cl, A, sz, fun i hi => ?_⟩
  have q := elem_in (he i hi) ev rfl A.1
  have hi2 : i < 2 ^ 31 := by omega
  have ej : (Int32.ofNat i).toNatClampNeg = i := by
    have l := len_toInt hi2
    have n0 : ¬ (Int32.ofNat i) < 0 := fun w => q.1 (Or.inl w)
    have n1 := nat_of n0
    have l' : (Int32.ofNat i).toInt = (i : Int) := l
    omega
  obtain ⟨w, w1, w2⟩ := elem_fit hf A q.1
  rw [ej] at q w1
  refine ⟨q.2, ?_⟩
  cases w1.symm.trans q.2
  exact w2
theorem own_A_start {n : Nat} {z : Int32} {vs : List Int32} (hf : Fit s) (ev : t.eval args s none [] s = some (.ref a)) (hx : (Cond.arrayOf t .int).value args s none s [] = some true) (hl : (Term.length t).eval args s none [] s = some (.int z)) (hz : z.toNatClampNeg = n ∧ ¬ z < 0 ∧ vs.length = n) (he : own_HL args s t 0 vs) : own_A s s.heap a .int n (fun i => .int (vs.getD i 0)) :=
  own_AG_start hf ev hx hl ⟨hz.1, hz.2.1⟩ fun i hi => by
    have q := own_HL_at vs 0 he i (by rw [hz.2.2]; exact hi)
    rw [Nat.zero_add] at q
    exact q
theorem own_AR_start {ty : FieldType} {n : Nat} {z : Int32} {vs : List Value} (hf : Fit s) (ev : t.eval args s none [] s = some (.ref a)) (hx : (Cond.arrayOf t ty).value args s none s [] = some true) (hl : (Term.length t).eval args s none [] s = some (.int z)) (hz : z.toNatClampNeg = n ∧ ¬ z < 0 ∧ vs.length = n) (he : own_HV args s t 0 vs) : own_A s s.heap a ty n (fun i => vs.getD i .null) :=
  own_AG_start hf ev hx hl ⟨hz.1, hz.2.1⟩ fun i hi => by
    have q := own_HV_at vs 0 he i (by rw [hz.2.2]; exact hi)
    rw [Nat.zero_add] at q
    exact q
end OwnStart
end Jvm.RoadKit
namespace Jvm.Pilot.@@N@@
open Jvm Jvm.ClassFile Sem Op Lib Jvm.Free Jvm.Stand Jvm.LawKit Jvm.RoadKit Bundle Jvm.Pilot.@@N@@.Jvm.D
def own_rf (en : Nat → Addr) (i : Nat) : Value := .ref (en i)
theorem own_ix {p : Int32} (h1 : ¬ (p < (-128 : Int32))) (h2 : ¬ ((127 : Int32) < p)) : ¬ (p + (128 : Int32)) < 0 ∧ (p + (128 : Int32)).toNatClampNeg < 256 := by
  rw [Int32.lt_iff_toInt_lt] at h1 h2
  have a := c_iadd p 128
  have r := rng32 (p + 128)
  have l0 : (0 : Int32).toInt = 0 := by decide
  have l1 : (128 : Int32).toInt = 128 := by decide
  have l2 : (-128 : Int32).toInt = -128 := by decide
  have l3 : (127 : Int32).toInt = 127 := by decide
  have n1 : ¬ (p + 128) < 0 := by rw [Int32.lt_iff_toInt_lt]; omega
  have n2 := nat_of n1
  exact ⟨n1, by omega⟩
theorem own_cache {s : State} {args : Array Value} {C f d K : String} {Q : Jvm.Cond} {a : Addr} (ev : (Term.static C f d).eval args s none [] s = some (.ref a)) (hx : (Cond.arrayOf (.static C f d) (.object K)).value args s none s [] = some true) (hl : (Term.length (.static C f d)).eval args s none [] s = some (.int (256 : Int32)))
    (hall : (Jvm.Cond.all (.static C f d) (.and (.exactly (.elem (.static C f d) (.index 0)) K) Q)).value args s none s [] = some true) :
    ∃ en : Nat → Addr, (∀ i, i < 256 → (Term.elem (.static C f d) (.int (Int32.ofNat i))).eval args s none [] s = some (own_rf en i)) ∧ ∀ i, i < 256 → Exa s s.heap (en i) K := by
  obtain ⟨cl, A, ha, sz, hb⟩ := own_arr (n := 256) ev hx hl (by decide)
  have key : ∀ i, i < 256 → ∃ x : Addr, (Term.elem (.static C f d) (.int (Int32.ofNat i))).eval args s none [] s = some (.ref x) ∧ Exa s s.heap x K := fun i hi => by
    have j0 : ¬ (i.toInt32 < 0 ∨ cl.slots.size ≤ i.toInt32.toNatClampNeg) := idx_in (by rw [sz]; exact hi) (by rw [sz]; decide)
    have hn : ¬ i.toInt32 < 0 := fun w => j0 (Or.inl w)
    have q := and_e (Cond.all_elim ev ha hall i (by rw [sz]; exact hi))
    obtain ⟨x, e1⟩ := exa_v q.1
    have ev' : (Term.static C f d).eval args s none [i] s = some (.ref a) := ev
    have ei : (Term.index 0).eval args s none [i] s = some (.int i.toInt32) := rfl
    have e2 := elem_f (j := i.toInt32) ev' ei ha hn
    have e0 : (Term.elem (.static C f d) (.int (Int32.ofNat i))).eval args s none [] s = some (.ref x) := (elem_f (j := i.toInt32) ev rfl ha hn).trans (e2.symm.trans e1)
    refine ⟨x, e0, Exa.start e0 ?_⟩
    have q1 := q.1
    simp only [Cond.value, e1] at q1
    simp only [Cond.value, e0]
    exact q1
  refine ⟨fun i => if h : i < 256 then (key i h).choose else 0, fun i hi => ?_, fun i hi => ?_⟩
  · show _ = some (Value.ref (if h : i < 256 then (key i h).choose else 0))
    rw [dif_pos hi]
    exact (key i hi).choose_spec.1
  · show Exa s s.heap (if h : i < 256 then (key i h).choose else 0) K
    rw [dif_pos hi]
    exact (key i hi).choose_spec.2
theorem d1_0 : decode prog_13_method_1_code 0 = .ok (.aload_n 0, 1) := by decide +kernel
theorem d1_1 : decode prog_13_method_1_code 1 = .ok (.invokespecial 1, 3) := by decide +kernel
theorem d1_4 : decode prog_13_method_1_code 4 = .ok (.aload_n 0, 1) := by decide +kernel
theorem d1_5 : decode prog_13_method_1_code 5 = .ok (.iload_n 1, 1) := by decide +kernel
theorem d1_6 : decode prog_13_method_1_code 6 = .ok (.putfield 7, 3) := by decide +kernel
theorem d1_9 : decode prog_13_method_1_code 9 = .ok (.aload_n 0, 1) := by decide +kernel
theorem d1_10 : decode prog_13_method_1_code 10 = .ok (.lload_n 2, 1) := by decide +kernel
theorem d1_11 : decode prog_13_method_1_code 11 = .ok (.putfield 13, 3) := by decide +kernel
theorem d1_14 : decode prog_13_method_1_code 14 = .ok (.return_, 1) := by decide +kernel
theorem pn_1 : plainName "com/example/sibyl/sibyl/kernel/Label" = true := by first | (simp [plainName, overriddenIn]; done) | decide +kernel
theorem ef_1 (m : MethodId) (p0 : Addr) (p1 : Int32) (p2 : Int64) : entryFrame m #[(.ref p0), (.int p1), (.long p2)] 4 = mkF m 0 #[.val (.ref p0), .val (.int p1), .val (.long p2), .second] [] := by first | (simp [entryFrame, mkF, argsToLocals, Value.category]; done) | rfl
def Q_1 (Z : State) (p0 : Addr) (p1 : Int32) (p2 : Int64)  (h0 : Heap) (n0 : Nat) (v : Option Value) (h : Heap) (L : List Loc) : Prop := v = none ∧ Fr n0 L ∧ Keep h0 h [p0] ∧ Exa Z h p0 "com/example/sibyl/sibyl/kernel/Label" ∧ Fld Z h p0 "com/example/sibyl/sibyl/kernel/Label" "level" "I" (.int p1) ∧ Fld Z h p0 "com/example/sibyl/sibyl/kernel/Label" "categories" "J" (.long p2)
set_option maxRecDepth 65536 in
set_option maxHeartbeats 40000000 in
theorem rm_1 (l : Launch) (Z : State) (a0 : Array Value) (hw : ∀ d ∈ tables_1, d.before a0 Z = true) (ws : List Jvm.Cond) (p0 : Addr) (p1 : Int32) (p2 : Int64)  (h0 : Heap) (n0 : Nat) (Z0 : n0 ≤ h0.size) (E_p0 : Exa Z h0 p0 "com/example/sibyl/sibyl/kernel/Label") (F_p0_level : Fld Z h0 p0 "com/example/sibyl/sibyl/kernel/Label" "level" "I" (.int (0 : Int32))) (F_p0_categories : Fld Z h0 p0 "com/example/sibyl/sibyl/kernel/Label" "categories" "J" (.long (0 : Int64))) (ge_p0 : n0 ≤ p0) :
    MetFree l (⟨"com/example/sibyl/sibyl/kernel/Label", "<init>", "(IJ)V"⟩ : MethodName) (head1 (Jvm.Cond.code (⟨"com/example/sibyl/sibyl/kernel/Label", "<init>", "(IJ)V"⟩ : MethodName) prog_13_method_1_code 4 none :: ws) ({ frames := 1, cells := 0, slots := 0, locals := 12 } : Room)) (fun a U => a = #[(.ref p0), (.int p1), (.long p2)] ∧ Z.Warmed39 U.vm ∧ U.heap = h0) (fun _ _ _ _ _ => True) (fun _ U o U' => ∃ v L, o = .returned v ∧ Q_1 Z p0 p1 p2 h0 n0 v U'.heap L ∧ FrameEnd U o U' L ({ frames := 1, cells := 0, slots := 0, locals := 12 } : Room).cells ({ frames := 1, cells := 0, slots := 0, locals := 12 } : Room).slots) := by
  refine MetFree.of_bodySF (plainFor_of_name pn_1) hisR ?_
  intro p e s m args below meth c s₁ Bd hml0 hP hK
  obtain ⟨rfl, hZ, hh⟩ := hP
  have hx := Bd.exec
  have hby := Bd.bytes
  have hml : c.maxLocals = 4 := hml0
  have hown : s.vm.findClass "com/example/sibyl/sibyl/kernel/Label" = some m.cls := findClass_of_methodNamed Bd.named
  have hnm := (name_of_methodNamed Bd.named Bd.method).1
  have X0 : Stand p l e ({ frames := 1, cells := 0, slots := 0, locals := 12 } : Room) s m #[(.ref p0), (.int p1), (.long p2)] below meth c s₁ [] 0 0 := Stand.of_body Bd
  have e0 : s₁.heap = h0 := by rw [← hh, Bd.state]; rfl
  have N0 := Fr.nil n0
  have K0 : Keep h0 h0 [p0] := Keep.refl h0 _
  have pre0 : ∀ t, Steps p.tables e below (s₁.setTop (mkF m 0 #[.val (.ref p0), .val (.int p1), .val (.long p2), .second] [])) t → Steps p.tables e below (s₁.setTop (entryFrame m #[(.ref p0), (.int p1), (.long p2)] 4)) t := fun t k => castTop (ef_1 m p0 p1 p2) k
  have pre1 : ∀ t, Steps p.tables e below (s₁.setTop (mkF m 1 #[.val (.ref p0), .val (.int p1), .val (.long p2), .second] [(.ref p0)])) t → Steps p.tables e below (s₁.setTop (entryFrame m #[(.ref p0), (.int p1), (.long p2)] 4)) t := by
    intro t k
    refine pre0 t ?_
    show Steps p.tables e below (s₁.setTop (mkF m 0 #[.val (.ref p0), .val (.int p1), .val (.long p2), .second] [])) _
    refine XS.aloadN X0.here hx rfl (hb hby d1_0) rfl rfl ?_
    exact k
  obtain ⟨T2, X2, e2, st2⟩ := initO X0 hx hZ hown (hw _ (List.mem_of_getElem? (i := 6) rfl)) (hw _ (List.mem_of_getElem? (i := 7) rfl)) (hw _ (List.mem_of_getElem? (i := 8) rfl)) e0 (g := (mkF m 1 #[.val (.ref p0), .val (.int p1), .val (.long p2), .second] [(.ref p0)])) rfl (by rw [hml]; rfl) rfl (hb hby d1_1) (by decide) (W := 0) (by show 2 * 0 + _ ≤ _; exact Nat.le_of_eq rfl) (by decide)
  have pre3 : ∀ t, Steps p.tables e below (T2.setTop (mkF m 6 #[.val (.ref p0), .val (.int p1), .val (.long p2), .second] [(.int p1), (.ref p0)])) t → Steps p.tables e below (s₁.setTop (entryFrame m #[(.ref p0), (.int p1), (.long p2)] 4)) t := by
    intro t k
    refine pre1 t ?_
    show Steps p.tables e below (s₁.setTop (mkF m 1 #[.val (.ref p0), .val (.int p1), .val (.long p2), .second] [(.ref p0)])) _
    refine st2 _ ?_
    show Steps p.tables e below (T2.setTop (mkF m 4 #[.val (.ref p0), .val (.int p1), .val (.long p2), .second] [])) _
    refine XS.aloadN X2.here hx rfl (hb hby d1_4) rfl rfl ?_
    show Steps p.tables e below (T2.setTop (mkF m 5 #[.val (.ref p0), .val (.int p1), .val (.long p2), .second] [(.ref p0)])) _
    refine XS.iloadN X2.here hx rfl (hb hby d1_5) rfl  ?_
    exact k
  obtain ⟨T4, h4, X4, e4, W4, st4⟩ := putF X2 hx hZ hown (host := "") (Or.inl (hw _ (List.mem_of_getElem? (i := 9) rfl))) Via.refl e2 F_p0_level E_p0 (Or.inr ⟨(hw _ (List.mem_of_getElem? (i := 10) rfl)), rfl, hnm⟩) (hw _ (List.mem_of_getElem? (i := 1) rfl)) (ty := .int) (by decide) rfl rfl (g := (mkF m 6 #[.val (.ref p0), .val (.int p1), .val (.long p2), .second] [(.int p1), (.ref p0)])) rfl rfl (hb hby d1_6)
  have Fw4 := F_p0_level.same W4
  have exa_p0_4 := E_p0.wr W4
  have fld_p0_categories_4 := F_p0_categories.other W4 (Or.inr (slot_ne (Or.inr (hw _ (List.mem_of_getElem? (i := 12) rfl))) (Or.inr (hw _ (List.mem_of_getElem? (i := 10) rfl))) (by decide) (t := .long) (t' := .int) (by decide) (by decide)))
  have K4 := K0.wr W4 (Or.inl (List.mem_of_getElem? (i := 0) rfl))
  have Z4 := Nat.le_trans Z0 (Nat.le_of_eq W4.size.symm)
  have N4 := Fr.snoc X4 N0 ge_p0
  have pre5 : ∀ t, Steps p.tables e below (T4.setTop (mkF m 11 #[.val (.ref p0), .val (.int p1), .val (.long p2), .second] [(.long p2), (.ref p0)])) t → Steps p.tables e below (s₁.setTop (entryFrame m #[(.ref p0), (.int p1), (.long p2)] 4)) t := by
    intro t k
    refine pre3 t ?_
    show Steps p.tables e below (T2.setTop (mkF m 6 #[.val (.ref p0), .val (.int p1), .val (.long p2), .second] [(.int p1), (.ref p0)])) _
    refine st4 _ ?_
    show Steps p.tables e below (T4.setTop (mkF m 9 #[.val (.ref p0), .val (.int p1), .val (.long p2), .second] [])) _
    refine XS.aloadN X4.here hx rfl (hb hby d1_9) rfl rfl ?_
    show Steps p.tables e below (T4.setTop (mkF m 10 #[.val (.ref p0), .val (.int p1), .val (.long p2), .second] [(.ref p0)])) _
    refine XS.lloadN X4.here hx rfl (hb hby d1_10) rfl  ?_
    exact k
  obtain ⟨T6, h6, X6, e6, W6, st6⟩ := putF X4 hx hZ hown (host := "") (Or.inl (hw _ (List.mem_of_getElem? (i := 11) rfl))) Via.refl e4 fld_p0_categories_4 exa_p0_4 (Or.inr ⟨(hw _ (List.mem_of_getElem? (i := 12) rfl)), rfl, hnm⟩) (hw _ (List.mem_of_getElem? (i := 1) rfl)) (ty := .long) (by decide) rfl rfl (g := (mkF m 11 #[.val (.ref p0), .val (.int p1), .val (.long p2), .second] [(.long p2), (.ref p0)])) rfl rfl (hb hby d1_11)
  have Fw6 := fld_p0_categories_4.same W6
  have exa_p0_6 := exa_p0_4.wr W6
  have fld_p0_level_6 := Fw4.other W6 (Or.inr (slot_ne (Or.inr (hw _ (List.mem_of_getElem? (i := 10) rfl))) (Or.inr (hw _ (List.mem_of_getElem? (i := 12) rfl))) (by decide) (t := .int) (t' := .long) (by decide) (by decide)))
  have K6 := K4.wr W6 (Or.inl (List.mem_of_getElem? (i := 0) rfl))
  have Z6 := Nat.le_trans Z4 (Nat.le_of_eq W6.size.symm)
  have N6 := Fr.snoc X6 N4 ge_p0
  obtain ⟨fs, hr, hrun, hended, hW, hsame⟩ := X6.leave (v := none) (fun _ => rfl) (BodyLoose.notSynchronized Bd)
  refine ⟨_, _, pre5 _ ?_, hrun, hended, _, _, rfl, ?_, ⟨_, rfl⟩, hW, hsame.mono (by decide) (by decide)⟩
  · show Steps p.tables e below (T4.setTop (mkF m 11 #[.val (.ref p0), .val (.int p1), .val (.long p2), .second] [(.long p2), (.ref p0)])) _
    refine st6 _ ?_
    show Steps p.tables e below (T6.setTop (mkF m 14 #[.val (.ref p0), .val (.int p1), .val (.long p2), .second] [])) _
    exact X6.returnOut hx Bd.returns (hb hby d1_14) hr
  · show Q_1 Z p0 p1 p2 h0 n0 _ T6.heap _
    rw [e6]
    exact ⟨rfl, N6, K6, exa_p0_6, fld_p0_level_6, Fw6⟩
theorem d6_0 : decode jdk_18_method_1_code 0 = .ok (.aload_n 0, 1) := by decide +kernel
theorem d6_1 : decode jdk_18_method_1_code 1 = .ok (.invokespecial 1, 3) := by decide +kernel
theorem d6_4 : decode jdk_18_method_1_code 4 = .ok (.return_, 1) := by decide +kernel
theorem pn_6 : plainName "java/lang/Number" = true := by first | (simp [plainName, overriddenIn]; done) | decide +kernel
theorem ef_6 (m : MethodId) (p0 : Addr) : entryFrame m #[(.ref p0)] 1 = mkF m 0 #[.val (.ref p0)] [] := by first | (simp [entryFrame, mkF, argsToLocals, Value.category]; done) | rfl
def Q_6 (Z : State) (p0 : Addr)  (h0 : Heap) (n0 : Nat) (v : Option Value) (h : Heap) (L : List Loc) : Prop := v = none ∧ Fr n0 L ∧ h = h0
set_option maxRecDepth 65536 in
set_option maxHeartbeats 40000000 in
theorem rm_6 (l : Launch) (Z : State) (a0 : Array Value) (hw : ∀ d ∈ tables_1, d.before a0 Z = true) (ws : List Jvm.Cond) (p0 : Addr)  (h0 : Heap) (n0 : Nat) (Z0 : n0 ≤ h0.size)  :
    MetFree l (⟨"java/lang/Number", "<init>", "()V"⟩ : MethodName) (head1 (Jvm.Cond.code (⟨"java/lang/Number", "<init>", "()V"⟩ : MethodName) jdk_18_method_1_code 1 none :: ws) ({ frames := 1, cells := 0, slots := 0, locals := 12 } : Room)) (fun a U => a = #[(.ref p0)] ∧ Z.Warmed39 U.vm ∧ U.heap = h0) (fun _ _ _ _ _ => True) (fun _ U o U' => ∃ v L, o = .returned v ∧ Q_6 Z p0 h0 n0 v U'.heap L ∧ FrameEnd U o U' L ({ frames := 1, cells := 0, slots := 0, locals := 12 } : Room).cells ({ frames := 1, cells := 0, slots := 0, locals := 12 } : Room).slots) := by
  refine MetFree.of_bodySF (plainFor_of_name pn_6) hisR ?_
  intro p e s m args below meth c s₁ Bd hml0 hP hK
  obtain ⟨rfl, hZ, hh⟩ := hP
  have hx := Bd.exec
  have hby := Bd.bytes
  have hml : c.maxLocals = 1 := hml0
  have hown : s.vm.findClass "java/lang/Number" = some m.cls := findClass_of_methodNamed Bd.named
  have hnm := (name_of_methodNamed Bd.named Bd.method).1
  have X0 : Stand p l e ({ frames := 1, cells := 0, slots := 0, locals := 12 } : Room) s m #[(.ref p0)] below meth c s₁ [] 0 0 := Stand.of_body Bd
  have e0 : s₁.heap = h0 := by rw [← hh, Bd.state]; rfl
  have N0 := Fr.nil n0
  have K0 : Keep h0 h0 [] := Keep.refl h0 _
  have pre0 : ∀ t, Steps p.tables e below (s₁.setTop (mkF m 0 #[.val (.ref p0)] [])) t → Steps p.tables e below (s₁.setTop (entryFrame m #[(.ref p0)] 1)) t := fun t k => castTop (ef_6 m p0) k
  have pre1 : ∀ t, Steps p.tables e below (s₁.setTop (mkF m 1 #[.val (.ref p0)] [(.ref p0)])) t → Steps p.tables e below (s₁.setTop (entryFrame m #[(.ref p0)] 1)) t := by
    intro t k
    refine pre0 t ?_
    show Steps p.tables e below (s₁.setTop (mkF m 0 #[.val (.ref p0)] [])) _
    refine XS.aloadN X0.here hx rfl (hb hby d6_0) rfl rfl ?_
    exact k
  obtain ⟨T2, X2, e2, st2⟩ := initO X0 hx hZ hown (hw _ (List.mem_of_getElem? (i := 42) rfl)) (hw _ (List.mem_of_getElem? (i := 7) rfl)) (hw _ (List.mem_of_getElem? (i := 8) rfl)) e0 (g := (mkF m 1 #[.val (.ref p0)] [(.ref p0)])) rfl (by rw [hml]; rfl) rfl (hb hby d6_1) (by decide) (W := 0) (by show 2 * 0 + _ ≤ _; exact Nat.le_of_eq rfl) (by decide)
  obtain ⟨fs, hr, hrun, hended, hW, hsame⟩ := X2.leave (v := none) (fun _ => rfl) (BodyLoose.notSynchronized Bd)
  refine ⟨_, _, pre1 _ ?_, hrun, hended, _, _, rfl, ?_, ⟨_, rfl⟩, hW, hsame.mono (by decide) (by decide)⟩
  · show Steps p.tables e below (s₁.setTop (mkF m 1 #[.val (.ref p0)] [(.ref p0)])) _
    refine st2 _ ?_
    show Steps p.tables e below (T2.setTop (mkF m 4 #[.val (.ref p0)] [])) _
    exact X2.returnOut hx Bd.returns (hb hby d6_4) hr
  · show Q_6 Z p0 h0 n0 _ T2.heap _
    rw [e2]
    exact ⟨rfl, N0, rfl⟩
theorem pd_0 : parseMethodDescriptor "()V" = some ⟨[], none⟩ := by decide +kernel
theorem d5_0 : decode jdk_33_method_23_code 0 = .ok (.aload_n 0, 1) := by decide +kernel
theorem d5_1 : decode jdk_33_method_23_code 1 = .ok (.invokespecial 202, 3) := by decide +kernel
theorem d5_4 : decode jdk_33_method_23_code 4 = .ok (.aload_n 0, 1) := by decide +kernel
theorem d5_5 : decode jdk_33_method_23_code 5 = .ok (.iload_n 1, 1) := by decide +kernel
theorem d5_6 : decode jdk_33_method_23_code 6 = .ok (.putfield 205, 3) := by decide +kernel
theorem d5_9 : decode jdk_33_method_23_code 9 = .ok (.return_, 1) := by decide +kernel
theorem pn_5 : plainName "java/lang/Integer" = true := by first | (simp [plainName, overriddenIn]; done) | decide +kernel
theorem ef_5 (m : MethodId) (p0 : Addr) (p1 : Int32) : entryFrame m #[(.ref p0), (.int p1)] 2 = mkF m 0 #[.val (.ref p0), .val (.int p1)] [] := by first | (simp [entryFrame, mkF, argsToLocals, Value.category]; done) | rfl
def Q_5 (Z : State) (p0 : Addr) (p1 : Int32)  (h0 : Heap) (n0 : Nat) (v : Option Value) (h : Heap) (L : List Loc) : Prop := v = none ∧ Fr n0 L ∧ Keep h0 h [p0] ∧ Exa Z h p0 "java/lang/Integer" ∧ Fld Z h p0 "java/lang/Integer" "value" "I" (.int p1)
set_option maxRecDepth 65536 in
set_option maxHeartbeats 40000000 in
theorem rm_5 (l : Launch) (Z : State) (a0 : Array Value) (hw : ∀ d ∈ tables_1, d.before a0 Z = true) (ws : List Jvm.Cond) (p0 : Addr) (p1 : Int32)  (h0 : Heap) (n0 : Nat) (Z0 : n0 ≤ h0.size) (E_p0 : Exa Z h0 p0 "java/lang/Integer") (F_p0_value : Fld Z h0 p0 "java/lang/Integer" "value" "I" (.int (0 : Int32))) (ge_p0 : n0 ≤ p0) :
    MetFree l (⟨"java/lang/Integer", "<init>", "(I)V"⟩ : MethodName) (head1 (Jvm.Cond.code (⟨"java/lang/Integer", "<init>", "(I)V"⟩ : MethodName) jdk_33_method_23_code 2 none :: ws) ({ frames := 2, cells := 0, slots := 0, locals := 24 } : Room)) (fun a U => a = #[(.ref p0), (.int p1)] ∧ Z.Warmed39 U.vm ∧ U.heap = h0) (fun _ _ _ _ _ => True) (fun _ U o U' => ∃ v L, o = .returned v ∧ Q_5 Z p0 p1 h0 n0 v U'.heap L ∧ FrameEnd U o U' L ({ frames := 2, cells := 0, slots := 0, locals := 24 } : Room).cells ({ frames := 2, cells := 0, slots := 0, locals := 24 } : Room).slots) := by
  refine MetFree.of_bodySF (plainFor_of_name pn_5) hisR ?_
  intro p e s m args below meth c s₁ Bd hml0 hP hK
  obtain ⟨rfl, hZ, hh⟩ := hP
  have hx := Bd.exec
  have hby := Bd.bytes
  have hml : c.maxLocals = 2 := hml0
  have hown : s.vm.findClass "java/lang/Integer" = some m.cls := findClass_of_methodNamed Bd.named
  have hnm := (name_of_methodNamed Bd.named Bd.method).1
  have X0 : Stand p l e ({ frames := 2, cells := 0, slots := 0, locals := 24 } : Room) s m #[(.ref p0), (.int p1)] below meth c s₁ [] 0 0 := Stand.of_body Bd
  have e0 : s₁.heap = h0 := by rw [← hh, Bd.state]; rfl
  have N0 := Fr.nil n0
  have K0 : Keep h0 h0 [p0] := Keep.refl h0 _
  have pre0 : ∀ t, Steps p.tables e below (s₁.setTop (mkF m 0 #[.val (.ref p0), .val (.int p1)] [])) t → Steps p.tables e below (s₁.setTop (entryFrame m #[(.ref p0), (.int p1)] 2)) t := fun t k => castTop (ef_5 m p0 p1) k
  have pre2 : ∀ t, Steps p.tables e below (s₁.setTop (mkF m 1 #[.val (.ref p0), .val (.int p1)] [(.ref p0)])) t → Steps p.tables e below (s₁.setTop (entryFrame m #[(.ref p0), (.int p1)] 2)) t := by
    intro t k
    refine pre0 t ?_
    show Steps p.tables e below (s₁.setTop (mkF m 0 #[.val (.ref p0), .val (.int p1)] [])) _
    refine XS.aloadN X0.here hx rfl (hb hby d5_0) rfl rfl ?_
    exact k
  obtain ⟨_, _, ⟨T1, L1, k1, n1⟩, -, X1, ⟨Lc1, hQ1, l1, y1, z1⟩, st1⟩ := X0.specialBack hx (y := (⟨"java/lang/Number", "<init>", "()V"⟩ : MethodName)) rfl hown (mvT hZ (hw _ (List.mem_of_getElem? (i := 36) rfl))) (mvT hZ (hw _ (List.mem_of_getElem? (i := 37) rfl))) (mvT hZ (hw _ (List.mem_of_getElem? (i := 41) rfl))) (by decide) (backOf (W := 0) (rm_6 l Z a0 hw [] p0 h0 n0 Z0 ) hZ (hw _ (List.mem_of_getElem? (i := 41) rfl)) (hw _ (List.mem_of_getElem? (i := 40) rfl)) (by decide) (by decide)) (g := (mkF m 1 #[.val (.ref p0), .val (.int p1)] [(.ref p0)])) rfl (by rw [hml]; rfl) (Steps.refl _) (a := p0) (argsL := []) (rest := []) (lenOf pd_0 rfl) rfl (by show 2 * 0 + _ ≤ _; exact Nat.le_of_eq rfl) (hb hby d5_1) (fun _ _ => ⟨rfl, e0, (by decide : 0 + 0 ≤ _), (by decide : 0 + 0 ≤ _)⟩)
  dsimp only [Pt.U, Pt.locs, Pt.cells, Pt.slots] at X1 l1 y1 z1 st1 hQ1
  rw [l1, y1, z1] at X1
  obtain ⟨rfl, N1q, e1⟩ := hQ1
  have N1 := Fr.app N0 N1q
  have pre3 : ∀ t, Steps p.tables e below (T1.setTop (mkF m 6 #[.val (.ref p0), .val (.int p1)] [(.int p1), (.ref p0)])) t → Steps p.tables e below (s₁.setTop (entryFrame m #[(.ref p0), (.int p1)] 2)) t := by
    intro t k
    refine pre2 t ?_
    show Steps p.tables e below (s₁.setTop (mkF m 1 #[.val (.ref p0), .val (.int p1)] [(.ref p0)])) _
    refine st1.trans ?_
    show Steps p.tables e below (T1.setTop (mkF m 4 #[.val (.ref p0), .val (.int p1)] [])) _
    refine XS.aloadN X1.here hx rfl (hb hby d5_4) rfl rfl ?_
    show Steps p.tables e below (T1.setTop (mkF m 5 #[.val (.ref p0), .val (.int p1)] [(.ref p0)])) _
    refine XS.iloadN X1.here hx rfl (hb hby d5_5) rfl  ?_
    exact k
  obtain ⟨T4, h4, X4, e4, W4, st4⟩ := putF X1 hx hZ hown (host := "") (Or.inl (hw _ (List.mem_of_getElem? (i := 43) rfl))) Via.refl e1 F_p0_value E_p0 (Or.inr ⟨(hw _ (List.mem_of_getElem? (i := 44) rfl)), rfl, hnm⟩) (hw _ (List.mem_of_getElem? (i := 31) rfl)) (ty := .int) (by decide) rfl rfl (g := (mkF m 6 #[.val (.ref p0), .val (.int p1)] [(.int p1), (.ref p0)])) rfl rfl (hb hby d5_6)
  have Fw4 := F_p0_value.same W4
  have exa_p0_4 := E_p0.wr W4
  have K4 := K0.wr W4 (Or.inl (List.mem_of_getElem? (i := 0) rfl))
  have Z4 := Nat.le_trans Z0 (Nat.le_of_eq W4.size.symm)
  have N4 := Fr.snoc X4 N1 ge_p0
  obtain ⟨fs, hr, hrun, hended, hW, hsame⟩ := X4.leave (v := none) (fun _ => rfl) (BodyLoose.notSynchronized Bd)
  refine ⟨_, _, pre3 _ ?_, hrun, hended, _, _, rfl, ?_, ⟨_, rfl⟩, hW, hsame.mono (by decide) (by decide)⟩
  · show Steps p.tables e below (T1.setTop (mkF m 6 #[.val (.ref p0), .val (.int p1)] [(.int p1), (.ref p0)])) _
    refine st4 _ ?_
    show Steps p.tables e below (T4.setTop (mkF m 9 #[.val (.ref p0), .val (.int p1)] [])) _
    exact X4.returnOut hx Bd.returns (hb hby d5_9) hr
  · show Q_5 Z p0 p1 h0 n0 _ T4.heap _
    rw [e4]
    exact ⟨rfl, N4, K4, exa_p0_4, Fw4⟩
theorem pd_1 : parseMethodDescriptor "(I)V" = some ⟨[.int], none⟩ := by decide +kernel
theorem d3_0 : decode jdk_33_method_22_code 0 = .ok (.iload_n 0, 1) := by decide +kernel
theorem d3_1 : decode jdk_33_method_22_code 1 = .ok (.bipush (-128), 2) := by decide +kernel
theorem d3_3 : decode jdk_33_method_22_code 3 = .ok (.if_icmp .lt 20, 3) := by decide +kernel
theorem d3_23 : decode jdk_33_method_22_code 23 = .ok (.new 1, 3) := by decide +kernel
theorem d3_26 : decode jdk_33_method_22_code 26 = .ok (.dup, 1) := by decide +kernel
theorem d3_27 : decode jdk_33_method_22_code 27 = .ok (.iload_n 0, 1) := by decide +kernel
theorem d3_28 : decode jdk_33_method_22_code 28 = .ok (.invokespecial 199, 3) := by decide +kernel
theorem d3_31 : decode jdk_33_method_22_code 31 = .ok (.areturn, 1) := by decide +kernel
theorem pn_3 : plainName "java/lang/Integer" = true := by first | (simp [plainName, overriddenIn]; done) | decide +kernel
theorem ef_3ml (m : MethodId) (p0 : Int32) : entryFrame m #[(.int p0)] 1 = mkF m 0 #[.val (.int p0)] [] := by first | (simp [entryFrame, mkF, argsToLocals, Value.category]; done) | rfl
def Q_3ml (Z : State) (p0 : Int32)  (h0 : Heap) (n0 : Nat) (v : Option Value) (h : Heap) (L : List Loc) : Prop := ∃ r : Addr, v = some (.ref r) ∧ Fr n0 L ∧ h0.size ≤ r ∧ Keep h0 h [] ∧ Exa Z h r "java/lang/Integer"
set_option maxRecDepth 65536 in
set_option maxHeartbeats 40000000 in
theorem rm_3ml (l : Launch) (Z : State) (a0 : Array Value) (hw : ∀ d ∈ tables_1, d.before a0 Z = true) (ws : List Jvm.Cond) (p0 : Int32)  (h0 : Heap) (n0 : Nat) (Z0 : n0 ≤ h0.size) (hlo : p0 < (-128 : Int32)) :
    MetFree l (⟨"java/lang/Integer", "valueOf", "(I)Ljava/lang/Integer;"⟩ : MethodName) (head1 (Jvm.Cond.code (⟨"java/lang/Integer", "valueOf", "(I)Ljava/lang/Integer;"⟩ : MethodName) jdk_33_method_22_code 1 (some (.object "java/lang/Integer")) :: ws) ({ frames := 3, cells := 1, slots := 1, locals := 38 } : Room)) (fun a U => a = #[(.int p0)] ∧ Z.Warmed39 U.vm ∧ U.heap = h0) (fun _ _ _ _ _ => True) (fun _ U o U' => ∃ v L, o = .returned v ∧ Q_3ml Z p0 h0 n0 v U'.heap L ∧ FrameEnd U o U' L ({ frames := 3, cells := 1, slots := 1, locals := 38 } : Room).cells ({ frames := 3, cells := 1, slots := 1, locals := 38 } : Room).slots) := by
  refine MetFree.of_bodySF (plainFor_of_name pn_3) hisR ?_
  intro p e s m args below meth c s₁ Bd hml0 hP hK
  obtain ⟨rfl, hZ, hh⟩ := hP
  have hx := Bd.exec
  have hby := Bd.bytes
  have hml : c.maxLocals = 1 := hml0
  have hown : s.vm.findClass "java/lang/Integer" = some m.cls := findClass_of_methodNamed Bd.named
  have hnm := (name_of_methodNamed Bd.named Bd.method).1
  have X0 : Stand p l e ({ frames := 3, cells := 1, slots := 1, locals := 38 } : Room) s m #[(.int p0)] below meth c s₁ [] 0 0 := Stand.of_body Bd
  have e0 : s₁.heap = h0 := by rw [← hh, Bd.state]; rfl
  have N0 := Fr.nil n0
  have K0 : Keep h0 h0 [] := Keep.refl h0 _
  have pre0 : ∀ t, Steps p.tables e below (s₁.setTop (mkF m 0 #[.val (.int p0)] [])) t → Steps p.tables e below (s₁.setTop (entryFrame m #[(.int p0)] 1)) t := fun t k => castTop (ef_3ml m p0) k
  have pre1 : ∀ t, Steps p.tables e below (s₁.setTop (mkF m 23 #[.val (.int p0)] [])) t → Steps p.tables e below (s₁.setTop (entryFrame m #[(.int p0)] 1)) t := by
    intro t k
    refine pre0 t ?_
    show Steps p.tables e below (s₁.setTop (mkF m 0 #[.val (.int p0)] [])) _
    refine XS.iloadN X0.here hx rfl (hb hby d3_0) rfl  ?_
    show Steps p.tables e below (s₁.setTop (mkF m 1 #[.val (.int p0)] [(.int p0)])) _
    refine XS.bipush X0.here hx rfl (hb hby d3_1) ?_
    show Steps p.tables e below (s₁.setTop (mkF m 3 #[.val (.int p0)] [(.int (-128 : Int32)), (.int p0)])) _
    refine XS.icmpYes X0.here hx rfl (pc0 := 3) (pc' := 23) rfl (hb hby d3_3) rfl (tlt (hlo : p0 < (-128 : Int32))).1 (by decide) (by decide) ?_
    exact k
  obtain ⟨T2, h2, X2, e2, E2, A2, D2, -, st2⟩ := newO X0 hx hZ hown (hw _ (List.mem_of_getElem? (i := 30) rfl)) (hw _ (List.mem_of_getElem? (i := 31) rfl)) (hw _ (List.mem_of_getElem? (i := 15) rfl)) e0 (g := (mkF m 23 #[.val (.int p0)] [])) rfl (hb hby d3_23) (by decide) (by decide)
  obtain ⟨b2, gb2⟩ : ∃ z, z = h0.size := ⟨_, rfl⟩
  rw [← gb2] at A2 D2 st2
  have sz_b2 : h0.size ≤ b2 := Nat.le_trans K0.1 (Nat.le_of_eq gb2.symm)
  have ge_b2 : n0 ≤ b2 := Nat.le_trans Z0 (Nat.le_of_eq gb2.symm)
  have K2 := K0.ext E2
  have Z2 := Nat.le_trans Z0 E2.1
  have F2_value : Fld Z h2 b2 "java/lang/Integer" "value" "I" (.int (0 : Int32)) := D2 (Or.inr (hw _ (List.mem_of_getElem? (i := 44) rfl))) (ty := .int) (by decide)
  have pre4 : ∀ t, Steps p.tables e below (T2.setTop (mkF m 28 #[.val (.int p0)] [(.int p0), (.ref b2), (.ref b2)])) t → Steps p.tables e below (s₁.setTop (entryFrame m #[(.int p0)] 1)) t := by
    intro t k
    refine pre1 t ?_
    show Steps p.tables e below (s₁.setTop (mkF m 23 #[.val (.int p0)] [])) _
    refine st2 _ ?_
    show Steps p.tables e below (T2.setTop (mkF m 26 #[.val (.int p0)] [(.ref b2)])) _
    refine XS.dup X2.here hx rfl (hb hby d3_26) rfl rfl ?_
    show Steps p.tables e below (T2.setTop (mkF m 27 #[.val (.int p0)] [(.ref b2), (.ref b2)])) _
    refine XS.iloadN X2.here hx rfl (hb hby d3_27) rfl  ?_
    exact k
  obtain ⟨_, _, ⟨T3, L3, k3, n3⟩, -, X3, ⟨Lc3, hQ3, l3, y3, z3⟩, st3⟩ := X2.specialBack hx (y := (⟨"java/lang/Integer", "<init>", "(I)V"⟩ : MethodName)) rfl hown (mvT hZ (hw _ (List.mem_of_getElem? (i := 32) rfl))) (mvT hZ (hw _ (List.mem_of_getElem? (i := 33) rfl))) (mvT hZ (hw _ (List.mem_of_getElem? (i := 35) rfl))) (by decide) (backOf (W := 1) (rm_5 l Z a0 hw [] b2 p0 h2 n0 Z2 A2 F2_value ge_b2) hZ (hw _ (List.mem_of_getElem? (i := 35) rfl)) (hw _ (List.mem_of_getElem? (i := 15) rfl)) (by decide) (by decide)) (g := (mkF m 28 #[.val (.int p0)] [(.int p0), (.ref b2), (.ref b2)])) rfl (by rw [hml]; rfl) (Steps.refl _) (a := b2) (argsL := [(.int p0)]) (rest := [(.ref b2)]) (lenOf pd_1 rfl) rfl (by show 2 * 0 + _ ≤ _; exact Nat.le_of_eq rfl) (hb hby d3_28) (fun _ _ => ⟨rfl, e2, (by decide : 1 + 0 ≤ _), (by decide : 1 + 0 ≤ _)⟩)
  dsimp only [Pt.U, Pt.locs, Pt.cells, Pt.slots] at X3 l3 y3 z3 st3 hQ3
  rw [l3, y3, z3] at X3
  obtain ⟨rfl, N3q, Kc3, Q3_0, Q3_1⟩ := hQ3
  have Kd3 : Keep h2 T3.heap [b2] := Kc3
  have exa_b2_3 := A2.keep Kd3
  have K3 := K2.trans Kd3 (allS (Or.inr sz_b2) all0)
  have Z3 := Nat.le_trans Z2 Kd3.1
  have N3 := Fr.app N0 N3q
  obtain ⟨fs, hr, hrun, hended, hW, hsame⟩ := X3.leave (v := some (.ref b2)) (fun h => by rw [Bd.returns] at h; cases h) (BodyLoose.notSynchronized Bd)
  refine ⟨_, _, pre4 _ ?_, hrun, hended, _, _, rfl, ?_, ⟨_, rfl⟩, hW, hsame.mono (by decide) (by decide)⟩
  · show Steps p.tables e below (T2.setTop (mkF m 28 #[.val (.int p0)] [(.int p0), (.ref b2), (.ref b2)])) _
    refine st3.trans ?_
    show Steps p.tables e below (T3.setTop (mkF m 31 #[.val (.int p0)] [(.ref b2)])) _
    exact retOut X3 hx Bd.returns rfl (Or.inr (Or.inr (Or.inr (Or.inr ⟨rfl, rfl, rfl⟩)))) (hb hby d3_31) hr
  · show Q_3ml Z p0 h0 n0 _ T3.heap _
    exact ⟨b2, rfl, N3, sz_b2, K3, Q3_0⟩
theorem d3_6 : decode jdk_33_method_22_code 6 = .ok (.iload_n 0, 1) := by decide +kernel
theorem d3_7 : decode jdk_33_method_22_code 7 = .ok (.getstatic 191, 3) := by decide +kernel
theorem d3_10 : decode jdk_33_method_22_code 10 = .ok (.if_icmp .gt 13, 3) := by decide +kernel
theorem ef_3mh (m : MethodId) (p0 : Int32) : entryFrame m #[(.int p0)] 1 = mkF m 0 #[.val (.int p0)] [] := by first | (simp [entryFrame, mkF, argsToLocals, Value.category]; done) | rfl
def Q_3mh (Z : State) (p0 : Int32)  (h0 : Heap) (n0 : Nat) (v : Option Value) (h : Heap) (L : List Loc) : Prop := ∃ r : Addr, v = some (.ref r) ∧ Fr n0 L ∧ h0.size ≤ r ∧ Keep h0 h [] ∧ Exa Z h r "java/lang/Integer"
set_option maxRecDepth 65536 in
set_option maxHeartbeats 40000000 in
theorem rm_3mh (l : Launch) (Z : State) (a0 : Array Value) (hw : ∀ d ∈ tables_1, d.before a0 Z = true) (ws : List Jvm.Cond) (p0 : Int32)  (h0 : Heap) (n0 : Nat) (Z0 : n0 ≤ h0.size) (S_high : Sta Z h0 "java/lang/Integer$IntegerCache" "high" "I" (.int (127 : Int32))) (hlo : ¬ (p0 < (-128 : Int32))) (hhi : (127 : Int32) < p0) :
    MetFree l (⟨"java/lang/Integer", "valueOf", "(I)Ljava/lang/Integer;"⟩ : MethodName) (head1 (Jvm.Cond.code (⟨"java/lang/Integer", "valueOf", "(I)Ljava/lang/Integer;"⟩ : MethodName) jdk_33_method_22_code 1 (some (.object "java/lang/Integer")) :: ws) ({ frames := 3, cells := 1, slots := 1, locals := 38 } : Room)) (fun a U => a = #[(.int p0)] ∧ Z.Warmed39 U.vm ∧ U.heap = h0) (fun _ _ _ _ _ => True) (fun _ U o U' => ∃ v L, o = .returned v ∧ Q_3mh Z p0 h0 n0 v U'.heap L ∧ FrameEnd U o U' L ({ frames := 3, cells := 1, slots := 1, locals := 38 } : Room).cells ({ frames := 3, cells := 1, slots := 1, locals := 38 } : Room).slots) := by
  refine MetFree.of_bodySF (plainFor_of_name pn_3) hisR ?_
  intro p e s m args below meth c s₁ Bd hml0 hP hK
  obtain ⟨rfl, hZ, hh⟩ := hP
  have hx := Bd.exec
  have hby := Bd.bytes
  have hml : c.maxLocals = 1 := hml0
  have hown : s.vm.findClass "java/lang/Integer" = some m.cls := findClass_of_methodNamed Bd.named
  have hnm := (name_of_methodNamed Bd.named Bd.method).1
  have X0 : Stand p l e ({ frames := 3, cells := 1, slots := 1, locals := 38 } : Room) s m #[(.int p0)] below meth c s₁ [] 0 0 := Stand.of_body Bd
  have e0 : s₁.heap = h0 := by rw [← hh, Bd.state]; rfl
  have N0 := Fr.nil n0
  have K0 : Keep h0 h0 [] := Keep.refl h0 _
  have pre0 : ∀ t, Steps p.tables e below (s₁.setTop (mkF m 0 #[.val (.int p0)] [])) t → Steps p.tables e below (s₁.setTop (entryFrame m #[(.int p0)] 1)) t := fun t k => castTop (ef_3mh m p0) k
  have pre1 : ∀ t, Steps p.tables e below (s₁.setTop (mkF m 7 #[.val (.int p0)] [(.int p0)])) t → Steps p.tables e below (s₁.setTop (entryFrame m #[(.int p0)] 1)) t := by
    intro t k
    refine pre0 t ?_
    show Steps p.tables e below (s₁.setTop (mkF m 0 #[.val (.int p0)] [])) _
    refine XS.iloadN X0.here hx rfl (hb hby d3_0) rfl  ?_
    show Steps p.tables e below (s₁.setTop (mkF m 1 #[.val (.int p0)] [(.int p0)])) _
    refine XS.bipush X0.here hx rfl (hb hby d3_1) ?_
    show Steps p.tables e below (s₁.setTop (mkF m 3 #[.val (.int p0)] [(.int (-128 : Int32)), (.int p0)])) _
    refine XS.icmpNo X0.here hx rfl (hb hby d3_3) rfl (flt (hlo : ¬ (p0 < (-128 : Int32)))).1 ?_
    show Steps p.tables e below (s₁.setTop (mkF m 6 #[.val (.int p0)] [])) _
    refine XS.iloadN X0.here hx rfl (hb hby d3_6) rfl  ?_
    exact k
  obtain ⟨T2, X2, e2, st2⟩ := getS2 X0 hx hZ hown (host := "") (Or.inl (hw _ (List.mem_of_getElem? (i := 17) rfl))) Via.refl e0 S_high (g := (mkF m 7 #[.val (.int p0)] [(.int p0)])) rfl (hb hby d3_7)
  have pre3 : ∀ t, Steps p.tables e below (T2.setTop (mkF m 23 #[.val (.int p0)] [])) t → Steps p.tables e below (s₁.setTop (entryFrame m #[(.int p0)] 1)) t := by
    intro t k
    refine pre1 t ?_
    show Steps p.tables e below (s₁.setTop (mkF m 7 #[.val (.int p0)] [(.int p0)])) _
    refine st2 _ ?_
    show Steps p.tables e below (T2.setTop (mkF m 10 #[.val (.int p0)] [(.int (127 : Int32)), (.int p0)])) _
    refine XS.icmpYes X2.here hx rfl (pc0 := 10) (pc' := 23) rfl (hb hby d3_10) rfl (tlt (hhi : (127 : Int32) < p0)).2.2.1 (by decide) (by decide) ?_
    exact k
  obtain ⟨T4, h4, X4, e4, E4, A4, D4, -, st4⟩ := newO X2 hx hZ hown (hw _ (List.mem_of_getElem? (i := 30) rfl)) (hw _ (List.mem_of_getElem? (i := 31) rfl)) (hw _ (List.mem_of_getElem? (i := 15) rfl)) e2 (g := (mkF m 23 #[.val (.int p0)] [])) rfl (hb hby d3_23) (by decide) (by decide)
  obtain ⟨b4, gb4⟩ : ∃ z, z = h0.size := ⟨_, rfl⟩
  rw [← gb4] at A4 D4 st4
  have sz_b4 : h0.size ≤ b4 := Nat.le_trans K0.1 (Nat.le_of_eq gb4.symm)
  have ge_b4 : n0 ≤ b4 := Nat.le_trans Z0 (Nat.le_of_eq gb4.symm)
  have sta_java_lang_Integer_IntegerCache_high_4 := S_high.ext E4
  have K4 := K0.ext E4
  have Z4 := Nat.le_trans Z0 E4.1
  have F4_value : Fld Z h4 b4 "java/lang/Integer" "value" "I" (.int (0 : Int32)) := D4 (Or.inr (hw _ (List.mem_of_getElem? (i := 44) rfl))) (ty := .int) (by decide)
  have pre6 : ∀ t, Steps p.tables e below (T4.setTop (mkF m 28 #[.val (.int p0)] [(.int p0), (.ref b4), (.ref b4)])) t → Steps p.tables e below (s₁.setTop (entryFrame m #[(.int p0)] 1)) t := by
    intro t k
    refine pre3 t ?_
    show Steps p.tables e below (T2.setTop (mkF m 23 #[.val (.int p0)] [])) _
    refine st4 _ ?_
    show Steps p.tables e below (T4.setTop (mkF m 26 #[.val (.int p0)] [(.ref b4)])) _
    refine XS.dup X4.here hx rfl (hb hby d3_26) rfl rfl ?_
    show Steps p.tables e below (T4.setTop (mkF m 27 #[.val (.int p0)] [(.ref b4), (.ref b4)])) _
    refine XS.iloadN X4.here hx rfl (hb hby d3_27) rfl  ?_
    exact k
  obtain ⟨_, _, ⟨T5, L5, k5, n5⟩, -, X5, ⟨Lc5, hQ5, l5, y5, z5⟩, st5⟩ := X4.specialBack hx (y := (⟨"java/lang/Integer", "<init>", "(I)V"⟩ : MethodName)) rfl hown (mvT hZ (hw _ (List.mem_of_getElem? (i := 32) rfl))) (mvT hZ (hw _ (List.mem_of_getElem? (i := 33) rfl))) (mvT hZ (hw _ (List.mem_of_getElem? (i := 35) rfl))) (by decide) (backOf (W := 1) (rm_5 l Z a0 hw [] b4 p0 h4 n0 Z4 A4 F4_value ge_b4) hZ (hw _ (List.mem_of_getElem? (i := 35) rfl)) (hw _ (List.mem_of_getElem? (i := 15) rfl)) (by decide) (by decide)) (g := (mkF m 28 #[.val (.int p0)] [(.int p0), (.ref b4), (.ref b4)])) rfl (by rw [hml]; rfl) (Steps.refl _) (a := b4) (argsL := [(.int p0)]) (rest := [(.ref b4)]) (lenOf pd_1 rfl) rfl (by show 2 * 0 + _ ≤ _; exact Nat.le_of_eq rfl) (hb hby d3_28) (fun _ _ => ⟨rfl, e4, (by decide : 1 + 0 ≤ _), (by decide : 1 + 0 ≤ _)⟩)
  dsimp only [Pt.U, Pt.locs, Pt.cells, Pt.slots] at X5 l5 y5 z5 st5 hQ5
  rw [l5, y5, z5] at X5
  obtain ⟨rfl, N5q, Kc5, Q5_0, Q5_1⟩ := hQ5
  have Kd5 : Keep h4 T5.heap [b4] := Kc5
  have sta_java_lang_Integer_IntegerCache_high_5 := own_sta_keep sta_java_lang_Integer_IntegerCache_high_4 Kd5 (allS (own_E_plain A4) all0)
  have exa_b4_5 := A4.keep Kd5
  have K5 := K4.trans Kd5 (allS (Or.inr sz_b4) all0)
  have Z5 := Nat.le_trans Z4 Kd5.1
  have N5 := Fr.app N0 N5q
  obtain ⟨fs, hr, hrun, hended, hW, hsame⟩ := X5.leave (v := some (.ref b4)) (fun h => by rw [Bd.returns] at h; cases h) (BodyLoose.notSynchronized Bd)
  refine ⟨_, _, pre6 _ ?_, hrun, hended, _, _, rfl, ?_, ⟨_, rfl⟩, hW, hsame.mono (by decide) (by decide)⟩
  · show Steps p.tables e below (T4.setTop (mkF m 28 #[.val (.int p0)] [(.int p0), (.ref b4), (.ref b4)])) _
    refine st5.trans ?_
    show Steps p.tables e below (T5.setTop (mkF m 31 #[.val (.int p0)] [(.ref b4)])) _
    exact retOut X5 hx Bd.returns rfl (Or.inr (Or.inr (Or.inr (Or.inr ⟨rfl, rfl, rfl⟩)))) (hb hby d3_31) hr
  · show Q_3mh Z p0 h0 n0 _ T5.heap _
    exact ⟨b4, rfl, N5, sz_b4, K5, Q5_0⟩
theorem d3_13 : decode jdk_33_method_22_code 13 = .ok (.getstatic 195, 3) := by decide +kernel
theorem d3_16 : decode jdk_33_method_22_code 16 = .ok (.iload_n 0, 1) := by decide +kernel
theorem d3_17 : decode jdk_33_method_22_code 17 = .ok (.sipush 128, 3) := by decide +kernel
theorem d3_20 : decode jdk_33_method_22_code 20 = .ok (.iadd, 1) := by decide +kernel
theorem d3_21 : decode jdk_33_method_22_code 21 = .ok (.aaload, 1) := by decide +kernel
theorem d3_22 : decode jdk_33_method_22_code 22 = .ok (.areturn, 1) := by decide +kernel
theorem ef_3c (m : MethodId) (p0 : Int32) : entryFrame m #[(.int p0)] 1 = mkF m 0 #[.val (.int p0)] [] := by first | (simp [entryFrame, mkF, argsToLocals, Value.category]; done) | rfl
def Q_3c (Z : State) (p0 : Int32) (en : Nat → Addr) (ca : Addr) (h0 : Heap) (n0 : Nat) (v : Option Value) (h : Heap) (L : List Loc) : Prop := v = some (.ref (en (p0 + (128 : Int32)).toNatClampNeg)) ∧ Fr n0 L ∧ h = h0
set_option maxRecDepth 65536 in
set_option maxHeartbeats 40000000 in
theorem rm_3c (l : Launch) (Z : State) (a0 : Array Value) (hw : ∀ d ∈ tables_1, d.before a0 Z = true) (ws : List Jvm.Cond) (p0 : Int32) (en : Nat → Addr) (ca : Addr) (h0 : Heap) (n0 : Nat) (Z0 : n0 ≤ h0.size) (S_high : Sta Z h0 "java/lang/Integer$IntegerCache" "high" "I" (.int (127 : Int32))) (S_cache : Sta Z h0 "java/lang/Integer$IntegerCache" "cache" "[Ljava/lang/Integer;" (.ref ca)) (A_ca : own_A Z h0 ca (.object "java/lang/Integer") 256 (fun i => (own_rf en) i)) (hlo : ¬ (p0 < (-128 : Int32))) (hhi : ¬ ((127 : Int32) < p0)) :
    MetFree l (⟨"java/lang/Integer", "valueOf", "(I)Ljava/lang/Integer;"⟩ : MethodName) (head1 (Jvm.Cond.code (⟨"java/lang/Integer", "valueOf", "(I)Ljava/lang/Integer;"⟩ : MethodName) jdk_33_method_22_code 1 (some (.object "java/lang/Integer")) :: ws) ({ frames := 0, cells := 0, slots := 0, locals := 0 } : Room)) (fun a U => a = #[(.int p0)] ∧ Z.Warmed39 U.vm ∧ U.heap = h0) (fun _ _ _ _ _ => True) (fun _ U o U' => ∃ v L, o = .returned v ∧ Q_3c Z p0 en ca h0 n0 v U'.heap L ∧ FrameEnd U o U' L ({ frames := 0, cells := 0, slots := 0, locals := 0 } : Room).cells ({ frames := 0, cells := 0, slots := 0, locals := 0 } : Room).slots) := by
  refine MetFree.of_bodySF (plainFor_of_name pn_3) hisR ?_
  intro p e s m args below meth c s₁ Bd hml0 hP hK
  obtain ⟨rfl, hZ, hh⟩ := hP
  have hx := Bd.exec
  have hby := Bd.bytes
  have hml : c.maxLocals = 1 := hml0
  have hown : s.vm.findClass "java/lang/Integer" = some m.cls := findClass_of_methodNamed Bd.named
  have hnm := (name_of_methodNamed Bd.named Bd.method).1
  have X0 : Stand p l e ({ frames := 0, cells := 0, slots := 0, locals := 0 } : Room) s m #[(.int p0)] below meth c s₁ [] 0 0 := Stand.of_body Bd
  have e0 : s₁.heap = h0 := by rw [← hh, Bd.state]; rfl
  have N0 := Fr.nil n0
  have K0 : Keep h0 h0 [] := Keep.refl h0 _
  have pre0 : ∀ t, Steps p.tables e below (s₁.setTop (mkF m 0 #[.val (.int p0)] [])) t → Steps p.tables e below (s₁.setTop (entryFrame m #[(.int p0)] 1)) t := fun t k => castTop (ef_3c m p0) k
  have pre1 : ∀ t, Steps p.tables e below (s₁.setTop (mkF m 7 #[.val (.int p0)] [(.int p0)])) t → Steps p.tables e below (s₁.setTop (entryFrame m #[(.int p0)] 1)) t := by
    intro t k
    refine pre0 t ?_
    show Steps p.tables e below (s₁.setTop (mkF m 0 #[.val (.int p0)] [])) _
    refine XS.iloadN X0.here hx rfl (hb hby d3_0) rfl  ?_
    show Steps p.tables e below (s₁.setTop (mkF m 1 #[.val (.int p0)] [(.int p0)])) _
    refine XS.bipush X0.here hx rfl (hb hby d3_1) ?_
    show Steps p.tables e below (s₁.setTop (mkF m 3 #[.val (.int p0)] [(.int (-128 : Int32)), (.int p0)])) _
    refine XS.icmpNo X0.here hx rfl (hb hby d3_3) rfl (flt (hlo : ¬ (p0 < (-128 : Int32)))).1 ?_
    show Steps p.tables e below (s₁.setTop (mkF m 6 #[.val (.int p0)] [])) _
    refine XS.iloadN X0.here hx rfl (hb hby d3_6) rfl  ?_
    exact k
  obtain ⟨T2, X2, e2, st2⟩ := getS2 X0 hx hZ hown (host := "") (Or.inl (hw _ (List.mem_of_getElem? (i := 17) rfl))) Via.refl e0 S_high (g := (mkF m 7 #[.val (.int p0)] [(.int p0)])) rfl (hb hby d3_7)
  have pre3 : ∀ t, Steps p.tables e below (T2.setTop (mkF m 13 #[.val (.int p0)] [])) t → Steps p.tables e below (s₁.setTop (entryFrame m #[(.int p0)] 1)) t := by
    intro t k
    refine pre1 t ?_
    show Steps p.tables e below (s₁.setTop (mkF m 7 #[.val (.int p0)] [(.int p0)])) _
    refine st2 _ ?_
    show Steps p.tables e below (T2.setTop (mkF m 10 #[.val (.int p0)] [(.int (127 : Int32)), (.int p0)])) _
    refine XS.icmpNo X2.here hx rfl (hb hby d3_10) rfl (flt (hhi : ¬ ((127 : Int32) < p0))).2.2.1 ?_
    exact k
  obtain ⟨T4, X4, e4, st4⟩ := getS2 X2 hx hZ hown (host := "") (Or.inl (hw _ (List.mem_of_getElem? (i := 19) rfl))) Via.refl e2 S_cache (g := (mkF m 13 #[.val (.int p0)] [])) rfl (hb hby d3_13)
  obtain ⟨fs, hr, hrun, hended, hW, hsame⟩ := X4.leave (v := some (.ref (en (p0 + (128 : Int32)).toNatClampNeg))) (fun h => by rw [Bd.returns] at h; cases h) (BodyLoose.notSynchronized Bd)
  refine ⟨_, _, pre3 _ ?_, hrun, hended, _, _, rfl, ?_, ⟨_, rfl⟩, hW, hsame.mono (by decide) (by decide)⟩
  · show Steps p.tables e below (T2.setTop (mkF m 13 #[.val (.int p0)] [])) _
    refine st4 _ ?_
    show Steps p.tables e below (T4.setTop (mkF m 16 #[.val (.int p0)] [(.ref ca)])) _
    refine XS.iloadN X4.here hx rfl (hb hby d3_16) rfl  ?_
    show Steps p.tables e below (T4.setTop (mkF m 17 #[.val (.int p0)] [(.int p0), (.ref ca)])) _
    refine XS.sipush X4.here hx rfl (hb hby d3_17) ?_
    show Steps p.tables e below (T4.setTop (mkF m 20 #[.val (.int p0)] [(.int (128 : Int32)), (.int p0), (.ref ca)])) _
    refine XS.iadd X4.here hx rfl (hb hby d3_20) rfl ?_
    show Steps p.tables e below (T4.setTop (mkF m 21 #[.val (.int p0)] [(.int (p0 + (128 : Int32))), (.ref ca)])) _
    refine own_ldR X4 hx hZ e4 A_ca rfl (j := (p0 + (128 : Int32))) (k := (p0 + (128 : Int32)).toNatClampNeg) (v := .ref (en (p0 + (128 : Int32)).toNatClampNeg)) rfl (own_ix hlo hhi).1 rfl (own_ix hlo hhi).2 (g := (mkF m 21 #[.val (.int p0)] [(.int (p0 + (128 : Int32))), (.ref ca)])) rfl rfl (hb hby d3_21) ?_
    show Steps p.tables e below (T4.setTop (mkF m 22 #[.val (.int p0)] [(.ref (en (p0 + (128 : Int32)).toNatClampNeg))])) _
    exact retOut X4 hx Bd.returns rfl (Or.inr (Or.inr (Or.inr (Or.inr ⟨rfl, rfl, rfl⟩)))) (hb hby d3_22) hr
  · show Q_3c Z p0 en ca h0 n0 _ T4.heap _
    rw [e4]
    exact ⟨rfl, N0, rfl⟩
theorem d4_0 : decode prog_13_method_7_code 0 = .ok (.aload_n 0, 1) := by decide +kernel
theorem d4_1 : decode prog_13_method_7_code 1 = .ok (.aload_n 1, 1) := by decide +kernel
theorem d4_2 : decode prog_13_method_7_code 2 = .ok (.if_acmp .ne 5, 3) := by decide +kernel
theorem d4_5 : decode prog_13_method_7_code 5 = .ok (.iconst 1, 1) := by decide +kernel
theorem d4_6 : decode prog_13_method_7_code 6 = .ok (.ireturn, 1) := by decide +kernel
theorem pn_4 : plainName "com/example/sibyl/sibyl/kernel/Label" = true := by first | (simp [plainName, overriddenIn]; done) | decide +kernel
theorem ef_4s (m : MethodId) (p0 : Addr) : entryFrame m #[(.ref p0), (.ref p0)] 3 = mkF m 0 #[.val (.ref p0), .val (.ref p0), .unset] [] := by first | (simp [entryFrame, mkF, argsToLocals, Value.category]; done) | rfl
def f_4s  : Int32 := (1 : Int32)
def Q_4s (Z : State) (p0 : Addr)  (h0 : Heap) (n0 : Nat) (v : Option Value) (h : Heap) (L : List Loc) : Prop := v = some (.int (f_4s )) ∧ Fr n0 L ∧ h = h0
set_option maxRecDepth 65536 in
set_option maxHeartbeats 40000000 in
theorem rm_4s (l : Launch) (Z : State) (a0 : Array Value) (hw : ∀ d ∈ tables_1, d.before a0 Z = true) (ws : List Jvm.Cond) (p0 : Addr)  (h0 : Heap) (n0 : Nat) (Z0 : n0 ≤ h0.size)  :
    MetFree l (⟨"com/example/sibyl/sibyl/kernel/Label", "equals", "(Ljava/lang/Object;)Z"⟩ : MethodName) (head1 (Jvm.Cond.code (⟨"com/example/sibyl/sibyl/kernel/Label", "equals", "(Ljava/lang/Object;)Z"⟩ : MethodName) prog_13_method_7_code 3 (some .boolean) :: ws) ({ frames := 0, cells := 0, slots := 0, locals := 0 } : Room)) (fun a U => a = #[(.ref p0), (.ref p0)] ∧ Z.Warmed39 U.vm ∧ U.heap = h0) (fun _ _ _ _ _ => True) (fun _ U o U' => ∃ v L, o = .returned v ∧ Q_4s Z p0 h0 n0 v U'.heap L ∧ FrameEnd U o U' L ({ frames := 0, cells := 0, slots := 0, locals := 0 } : Room).cells ({ frames := 0, cells := 0, slots := 0, locals := 0 } : Room).slots) := by
  refine MetFree.of_bodySF (plainFor_of_name pn_4) hisR ?_
  intro p e s m args below meth c s₁ Bd hml0 hP hK
  obtain ⟨rfl, hZ, hh⟩ := hP
  have hx := Bd.exec
  have hby := Bd.bytes
  have hml : c.maxLocals = 3 := hml0
  have hown : s.vm.findClass "com/example/sibyl/sibyl/kernel/Label" = some m.cls := findClass_of_methodNamed Bd.named
  have hnm := (name_of_methodNamed Bd.named Bd.method).1
  have X0 : Stand p l e ({ frames := 0, cells := 0, slots := 0, locals := 0 } : Room) s m #[(.ref p0), (.ref p0)] below meth c s₁ [] 0 0 := Stand.of_body Bd
  have e0 : s₁.heap = h0 := by rw [← hh, Bd.state]; rfl
  have N0 := Fr.nil n0
  have K0 : Keep h0 h0 [] := Keep.refl h0 _
  have pre0 : ∀ t, Steps p.tables e below (s₁.setTop (mkF m 0 #[.val (.ref p0), .val (.ref p0), .unset] [])) t → Steps p.tables e below (s₁.setTop (entryFrame m #[(.ref p0), (.ref p0)] 3)) t := fun t k => castTop (ef_4s m p0) k
  obtain ⟨fs, hr, hrun, hended, hW, hsame⟩ := X0.leave (v := some (.int (1 : Int32))) (fun h => by rw [Bd.returns] at h; cases h) (BodyLoose.notSynchronized Bd)
  refine ⟨_, _, pre0 _ ?_, hrun, hended, _, _, rfl, ?_, ⟨_, rfl⟩, hW, hsame.mono (by decide) (by decide)⟩
  · show Steps p.tables e below (s₁.setTop (mkF m 0 #[.val (.ref p0), .val (.ref p0), .unset] [])) _
    refine XS.aloadN X0.here hx rfl (hb hby d4_0) rfl rfl ?_
    show Steps p.tables e below (s₁.setTop (mkF m 1 #[.val (.ref p0), .val (.ref p0), .unset] [(.ref p0)])) _
    refine XS.aloadN X0.here hx rfl (hb hby d4_1) rfl rfl ?_
    show Steps p.tables e below (s₁.setTop (mkF m 2 #[.val (.ref p0), .val (.ref p0), .unset] [(.ref p0), (.ref p0)])) _
    refine Jvm.RoadKit.acmp (g := (mkF m 2 #[.val (.ref p0), .val (.ref p0), .unset] [(.ref p0), (.ref p0)])) X0 hx rfl rfl rfl (pc0 := 2) (pc' := 5) (same := true) rfl (hb hby d4_2) rfl (decide_eq_true rfl) (by decide) (by decide) ?_
    show Steps p.tables e below (s₁.setTop (mkF m 5 #[.val (.ref p0), .val (.ref p0), .unset] [])) _
    refine XS.iconst X0.here hx rfl (hb hby d4_5) ?_
    show Steps p.tables e below (s₁.setTop (mkF m 6 #[.val (.ref p0), .val (.ref p0), .unset] [(.int (1 : Int32))])) _
    exact retN X0 hx (t := .boolean) Bd.returns (by simp) (hb hby d4_6) hr
  · show Q_4s Z p0 h0 n0 _ s₁.heap _
    rw [e0]
    exact ⟨congrArg (fun z => some (Value.int z)) (by rfl : (1 : Int32) = f_4s ), N0, rfl⟩
theorem d4_7 : decode prog_13_method_7_code 7 = .ok (.aload_n 1, 1) := by decide +kernel
theorem d4_8 : decode prog_13_method_7_code 8 = .ok (.instanceof 8, 3) := by decide +kernel
theorem d4_11 : decode prog_13_method_7_code 11 = .ok (.ifCond .ne 5, 3) := by decide +kernel
theorem d4_14 : decode prog_13_method_7_code 14 = .ok (.iconst 0, 1) := by decide +kernel
theorem d4_15 : decode prog_13_method_7_code 15 = .ok (.ireturn, 1) := by decide +kernel
theorem ef_4n (m : MethodId) (p0 : Addr) : entryFrame m #[(.ref p0), .null] 3 = mkF m 0 #[.val (.ref p0), .val .null, .unset] [] := by first | (simp [entryFrame, mkF, argsToLocals, Value.category]; done) | rfl
def f_4n  : Int32 := (0 : Int32)
def Q_4n (Z : State) (p0 : Addr)  (h0 : Heap) (n0 : Nat) (v : Option Value) (h : Heap) (L : List Loc) : Prop := v = some (.int (f_4n )) ∧ Fr n0 L ∧ h = h0
set_option maxRecDepth 65536 in
set_option maxHeartbeats 40000000 in
theorem rm_4n (l : Launch) (Z : State) (a0 : Array Value) (hw : ∀ d ∈ tables_1, d.before a0 Z = true) (ws : List Jvm.Cond) (p0 : Addr)  (h0 : Heap) (n0 : Nat) (Z0 : n0 ≤ h0.size)  :
    MetFree l (⟨"com/example/sibyl/sibyl/kernel/Label", "equals", "(Ljava/lang/Object;)Z"⟩ : MethodName) (head1 (Jvm.Cond.code (⟨"com/example/sibyl/sibyl/kernel/Label", "equals", "(Ljava/lang/Object;)Z"⟩ : MethodName) prog_13_method_7_code 3 (some .boolean) :: ws) ({ frames := 0, cells := 0, slots := 0, locals := 0 } : Room)) (fun a U => a = #[(.ref p0), .null] ∧ Z.Warmed39 U.vm ∧ U.heap = h0) (fun _ _ _ _ _ => True) (fun _ U o U' => ∃ v L, o = .returned v ∧ Q_4n Z p0 h0 n0 v U'.heap L ∧ FrameEnd U o U' L ({ frames := 0, cells := 0, slots := 0, locals := 0 } : Room).cells ({ frames := 0, cells := 0, slots := 0, locals := 0 } : Room).slots) := by
  refine MetFree.of_bodySF (plainFor_of_name pn_4) hisR ?_
  intro p e s m args below meth c s₁ Bd hml0 hP hK
  obtain ⟨rfl, hZ, hh⟩ := hP
  have hx := Bd.exec
  have hby := Bd.bytes
  have hml : c.maxLocals = 3 := hml0
  have hown : s.vm.findClass "com/example/sibyl/sibyl/kernel/Label" = some m.cls := findClass_of_methodNamed Bd.named
  have hnm := (name_of_methodNamed Bd.named Bd.method).1
  have X0 : Stand p l e ({ frames := 0, cells := 0, slots := 0, locals := 0 } : Room) s m #[(.ref p0), .null] below meth c s₁ [] 0 0 := Stand.of_body Bd
  have e0 : s₁.heap = h0 := by rw [← hh, Bd.state]; rfl
  have N0 := Fr.nil n0
  have K0 : Keep h0 h0 [] := Keep.refl h0 _
  have pre0 : ∀ t, Steps p.tables e below (s₁.setTop (mkF m 0 #[.val (.ref p0), .val .null, .unset] [])) t → Steps p.tables e below (s₁.setTop (entryFrame m #[(.ref p0), .null] 3)) t := fun t k => castTop (ef_4n m p0) k
  obtain ⟨fs, hr, hrun, hended, hW, hsame⟩ := X0.leave (v := some (.int (0 : Int32))) (fun h => by rw [Bd.returns] at h; cases h) (BodyLoose.notSynchronized Bd)
  refine ⟨_, _, pre0 _ ?_, hrun, hended, _, _, rfl, ?_, ⟨_, rfl⟩, hW, hsame.mono (by decide) (by decide)⟩
  · show Steps p.tables e below (s₁.setTop (mkF m 0 #[.val (.ref p0), .val .null, .unset] [])) _
    refine XS.aloadN X0.here hx rfl (hb hby d4_0) rfl rfl ?_
    show Steps p.tables e below (s₁.setTop (mkF m 1 #[.val (.ref p0), .val .null, .unset] [(.ref p0)])) _
    refine XS.aloadN X0.here hx rfl (hb hby d4_1) rfl rfl ?_
    show Steps p.tables e below (s₁.setTop (mkF m 2 #[.val (.ref p0), .val .null, .unset] [.null, (.ref p0)])) _
    refine Jvm.RoadKit.acmp (g := (mkF m 2 #[.val (.ref p0), .val .null, .unset] [.null, (.ref p0)])) X0 hx rfl rfl rfl (pc0 := 2) (pc' := 7) (same := false) rfl (hb hby d4_2) rfl (decide_eq_false nofun) (by decide) (by decide) ?_
    show Steps p.tables e below (s₁.setTop (mkF m 7 #[.val (.ref p0), .val .null, .unset] [])) _
    refine XS.aloadN X0.here hx rfl (hb hby d4_7) rfl rfl ?_
    show Steps p.tables e below (s₁.setTop (mkF m 8 #[.val (.ref p0), .val .null, .unset] [.null])) _
    refine X0.instanceofNull hx (g := (mkF m 8 #[.val (.ref p0), .val .null, .unset] [.null])) rfl rfl (hb hby d4_8) _ ?_
    show Steps p.tables e below (s₁.setTop (mkF m 11 #[.val (.ref p0), .val .null, .unset] [(.int (0 : Int32))])) _
    refine XS.ifNo X0.here hx rfl (hb hby d4_11) rfl ((if0 _ _).trans (teq (by decide : (0 : Int32) = (0 : Int32))).2) ?_
    show Steps p.tables e below (s₁.setTop (mkF m 14 #[.val (.ref p0), .val .null, .unset] [])) _
    refine XS.iconst X0.here hx rfl (hb hby d4_14) ?_
    show Steps p.tables e below (s₁.setTop (mkF m 15 #[.val (.ref p0), .val .null, .unset] [(.int (0 : Int32))])) _
    exact retN X0 hx (t := .boolean) Bd.returns (by simp) (hb hby d4_15) hr
  · show Q_4n Z p0 h0 n0 _ s₁.heap _
    rw [e0]
    exact ⟨congrArg (fun z => some (Value.int z)) (by rfl : (0 : Int32) = f_4n ), N0, rfl⟩
theorem ef_4l (m : MethodId) (p0 : Addr) (p1 : Addr) : entryFrame m #[(.ref p0), (.ref p1)] 3 = mkF m 0 #[.val (.ref p0), .val (.ref p1), .unset] [] := by first | (simp [entryFrame, mkF, argsToLocals, Value.category]; done) | rfl
def f_4l  : Int32 := (0 : Int32)
def Q_4l (Z : State) (p0 : Addr) (p1 : Addr)  (h0 : Heap) (n0 : Nat) (v : Option Value) (h : Heap) (L : List Loc) : Prop := v = some (.int (f_4l )) ∧ Fr n0 L ∧ h = h0
set_option maxRecDepth 65536 in
set_option maxHeartbeats 40000000 in
theorem rm_4l (l : Launch) (Z : State) (a0 : Array Value) (hw : ∀ d ∈ tables_1, d.before a0 Z = true) (ws : List Jvm.Cond) (p0 : Addr) (p1 : Addr)  (h0 : Heap) (n0 : Nat) (Z0 : n0 ≤ h0.size) (ne_p0_p1 : p0 ≠ p1) (E_p1 : Exa Z h0 p1 "java/lang/Integer") :
    MetFree l (⟨"com/example/sibyl/sibyl/kernel/Label", "equals", "(Ljava/lang/Object;)Z"⟩ : MethodName) (head1 (Jvm.Cond.code (⟨"com/example/sibyl/sibyl/kernel/Label", "equals", "(Ljava/lang/Object;)Z"⟩ : MethodName) prog_13_method_7_code 3 (some .boolean) :: ws) ({ frames := 0, cells := 0, slots := 0, locals := 0 } : Room)) (fun a U => a = #[(.ref p0), (.ref p1)] ∧ Z.Warmed39 U.vm ∧ U.heap = h0) (fun _ _ _ _ _ => True) (fun _ U o U' => ∃ v L, o = .returned v ∧ Q_4l Z p0 p1 h0 n0 v U'.heap L ∧ FrameEnd U o U' L ({ frames := 0, cells := 0, slots := 0, locals := 0 } : Room).cells ({ frames := 0, cells := 0, slots := 0, locals := 0 } : Room).slots) := by
  refine MetFree.of_bodySF (plainFor_of_name pn_4) hisR ?_
  intro p e s m args below meth c s₁ Bd hml0 hP hK
  obtain ⟨rfl, hZ, hh⟩ := hP
  have hx := Bd.exec
  have hby := Bd.bytes
  have hml : c.maxLocals = 3 := hml0
  have hown : s.vm.findClass "com/example/sibyl/sibyl/kernel/Label" = some m.cls := findClass_of_methodNamed Bd.named
  have hnm := (name_of_methodNamed Bd.named Bd.method).1
  have X0 : Stand p l e ({ frames := 0, cells := 0, slots := 0, locals := 0 } : Room) s m #[(.ref p0), (.ref p1)] below meth c s₁ [] 0 0 := Stand.of_body Bd
  have e0 : s₁.heap = h0 := by rw [← hh, Bd.state]; rfl
  have N0 := Fr.nil n0
  have K0 : Keep h0 h0 [] := Keep.refl h0 _
  have pre0 : ∀ t, Steps p.tables e below (s₁.setTop (mkF m 0 #[.val (.ref p0), .val (.ref p1), .unset] [])) t → Steps p.tables e below (s₁.setTop (entryFrame m #[(.ref p0), (.ref p1)] 3)) t := fun t k => castTop (ef_4l m p0 p1) k
  have pre1 : ∀ t, Steps p.tables e below (s₁.setTop (mkF m 8 #[.val (.ref p0), .val (.ref p1), .unset] [(.ref p1)])) t → Steps p.tables e below (s₁.setTop (entryFrame m #[(.ref p0), (.ref p1)] 3)) t := by
    intro t k
    refine pre0 t ?_
    show Steps p.tables e below (s₁.setTop (mkF m 0 #[.val (.ref p0), .val (.ref p1), .unset] [])) _
    refine XS.aloadN X0.here hx rfl (hb hby d4_0) rfl rfl ?_
    show Steps p.tables e below (s₁.setTop (mkF m 1 #[.val (.ref p0), .val (.ref p1), .unset] [(.ref p0)])) _
    refine XS.aloadN X0.here hx rfl (hb hby d4_1) rfl rfl ?_
    show Steps p.tables e below (s₁.setTop (mkF m 2 #[.val (.ref p0), .val (.ref p1), .unset] [(.ref p1), (.ref p0)])) _
    refine Jvm.RoadKit.acmp (g := (mkF m 2 #[.val (.ref p0), .val (.ref p1), .unset] [(.ref p1), (.ref p0)])) X0 hx rfl rfl rfl (pc0 := 2) (pc' := 7) (same := false) rfl (hb hby d4_2) rfl (decide_eq_false fun q => (ne_p0_p1 : p0 ≠ p1) (Value.ref.inj q)) (by decide) (by decide) ?_
    show Steps p.tables e below (s₁.setTop (mkF m 7 #[.val (.ref p0), .val (.ref p1), .unset] [])) _
    refine XS.aloadN X0.here hx rfl (hb hby d4_7) rfl rfl ?_
    exact k
  obtain ⟨T2, X2, e2, st2⟩ := instNo X0 hx hZ hown (hw _ (List.mem_of_getElem? (i := 25) rfl)) e0 E_p1 (own_no (hw _ (List.mem_of_getElem? (i := 27) rfl)) (hw _ (List.mem_of_getElem? (i := 1) rfl)) (NS.step (hw _ (List.mem_of_getElem? (i := 27) rfl)) (NS.step (hw _ (List.mem_of_getElem? (i := 28) rfl)) (own_root (hw _ (List.mem_of_getElem? (i := 29) rfl)) (hw _ (List.mem_of_getElem? (i := 1) rfl)) (by decide)) (by decide)) (by decide)) (by decide)) (g := (mkF m 8 #[.val (.ref p0), .val (.ref p1), .unset] [(.ref p1)])) rfl rfl (hb hby d4_8)
  obtain ⟨fs, hr, hrun, hended, hW, hsame⟩ := X2.leave (v := some (.int (0 : Int32))) (fun h => by rw [Bd.returns] at h; cases h) (BodyLoose.notSynchronized Bd)
  refine ⟨_, _, pre1 _ ?_, hrun, hended, _, _, rfl, ?_, ⟨_, rfl⟩, hW, hsame.mono (by decide) (by decide)⟩
  · show Steps p.tables e below (s₁.setTop (mkF m 8 #[.val (.ref p0), .val (.ref p1), .unset] [(.ref p1)])) _
    refine st2 _ ?_
    show Steps p.tables e below (T2.setTop (mkF m 11 #[.val (.ref p0), .val (.ref p1), .unset] [(.int (0 : Int32))])) _
    refine XS.ifNo X2.here hx rfl (hb hby d4_11) rfl ((if0 _ _).trans (teq (by decide : (0 : Int32) = (0 : Int32))).2) ?_
    show Steps p.tables e below (T2.setTop (mkF m 14 #[.val (.ref p0), .val (.ref p1), .unset] [])) _
    refine XS.iconst X2.here hx rfl (hb hby d4_14) ?_
    show Steps p.tables e below (T2.setTop (mkF m 15 #[.val (.ref p0), .val (.ref p1), .unset] [(.int (0 : Int32))])) _
    exact retN X2 hx (t := .boolean) Bd.returns (by simp) (hb hby d4_15) hr
  · show Q_4l Z p0 p1 h0 n0 _ T2.heap _
    rw [e2]
    exact ⟨congrArg (fun z => some (Value.int z)) (by rfl : (0 : Int32) = f_4l ), N0, rfl⟩
theorem d4_16 : decode prog_13_method_7_code 16 = .ok (.aload_n 1, 1) := by decide +kernel
theorem d4_17 : decode prog_13_method_7_code 17 = .ok (.checkcast 8, 3) := by decide +kernel
theorem d4_20 : decode prog_13_method_7_code 20 = .ok (.astore_n 2, 1) := by decide +kernel
theorem d4_21 : decode prog_13_method_7_code 21 = .ok (.aload_n 0, 1) := by decide +kernel
theorem d4_22 : decode prog_13_method_7_code 22 = .ok (.getfield 7, 3) := by decide +kernel
theorem d4_25 : decode prog_13_method_7_code 25 = .ok (.aload_n 2, 1) := by decide +kernel
theorem d4_26 : decode prog_13_method_7_code 26 = .ok (.getfield 7, 3) := by decide +kernel
theorem d4_29 : decode prog_13_method_7_code 29 = .ok (.if_icmp .ne 19, 3) := by decide +kernel
theorem d4_32 : decode prog_13_method_7_code 32 = .ok (.aload_n 0, 1) := by decide +kernel
theorem d4_33 : decode prog_13_method_7_code 33 = .ok (.getfield 13, 3) := by decide +kernel
theorem d4_36 : decode prog_13_method_7_code 36 = .ok (.aload_n 2, 1) := by decide +kernel
theorem d4_37 : decode prog_13_method_7_code 37 = .ok (.getfield 13, 3) := by decide +kernel
theorem d4_40 : decode prog_13_method_7_code 40 = .ok (.lcmp, 1) := by decide +kernel
theorem d4_41 : decode prog_13_method_7_code 41 = .ok (.ifCond .ne 7, 3) := by decide +kernel
theorem d4_44 : decode prog_13_method_7_code 44 = .ok (.iconst 1, 1) := by decide +kernel
theorem d4_45 : decode prog_13_method_7_code 45 = .ok (.goto 4, 3) := by decide +kernel
theorem d4_48 : decode prog_13_method_7_code 48 = .ok (.iconst 0, 1) := by decide +kernel
theorem d4_49 : decode prog_13_method_7_code 49 = .ok (.ireturn, 1) := by decide +kernel
theorem ef_4o (m : MethodId) (p0 : Addr) (p1 : Addr) : entryFrame m #[(.ref p0), (.ref p1)] 3 = mkF m 0 #[.val (.ref p0), .val (.ref p1), .unset] [] := by first | (simp [entryFrame, mkF, argsToLocals, Value.category]; done) | rfl
def f_4o (l0_ : Int32) (c0_ : Int64) (l1_ : Int32) (c1_ : Int64) : Int32 := (if l0_ = l1_ then let ms0_49 : Int32 := (if c0_ = c1_ then (1 : Int32) else (0 : Int32)); ms0_49 else (0 : Int32))
def Q_4o (Z : State) (p0 : Addr) (p1 : Addr) (l0_ : Int32) (c0_ : Int64) (l1_ : Int32) (c1_ : Int64) (h0 : Heap) (n0 : Nat) (v : Option Value) (h : Heap) (L : List Loc) : Prop := v = some (.int (f_4o l0_ c0_ l1_ c1_)) ∧ Fr n0 L ∧ h = h0
set_option maxRecDepth 65536 in
set_option maxHeartbeats 40000000 in
theorem rm_4o (l : Launch) (Z : State) (a0 : Array Value) (hw : ∀ d ∈ tables_1, d.before a0 Z = true) (ws : List Jvm.Cond) (p0 : Addr) (p1 : Addr) (l0_ : Int32) (c0_ : Int64) (l1_ : Int32) (c1_ : Int64) (h0 : Heap) (n0 : Nat) (Z0 : n0 ≤ h0.size) (ne_p0_p1 : p0 ≠ p1) (E_p1 : Exa Z h0 p1 "com/example/sibyl/sibyl/kernel/Label") (F_p0_level : Fld Z h0 p0 "com/example/sibyl/sibyl/kernel/Label" "level" "I" (.int l0_)) (F_p0_categories : Fld Z h0 p0 "com/example/sibyl/sibyl/kernel/Label" "categories" "J" (.long c0_)) (F_p1_level : Fld Z h0 p1 "com/example/sibyl/sibyl/kernel/Label" "level" "I" (.int l1_)) (F_p1_categories : Fld Z h0 p1 "com/example/sibyl/sibyl/kernel/Label" "categories" "J" (.long c1_)) :
    MetFree l (⟨"com/example/sibyl/sibyl/kernel/Label", "equals", "(Ljava/lang/Object;)Z"⟩ : MethodName) (head1 (Jvm.Cond.code (⟨"com/example/sibyl/sibyl/kernel/Label", "equals", "(Ljava/lang/Object;)Z"⟩ : MethodName) prog_13_method_7_code 3 (some .boolean) :: ws) ({ frames := 0, cells := 0, slots := 0, locals := 0 } : Room)) (fun a U => a = #[(.ref p0), (.ref p1)] ∧ Z.Warmed39 U.vm ∧ U.heap = h0) (fun _ _ _ _ _ => True) (fun _ U o U' => ∃ v L, o = .returned v ∧ Q_4o Z p0 p1 l0_ c0_ l1_ c1_ h0 n0 v U'.heap L ∧ FrameEnd U o U' L ({ frames := 0, cells := 0, slots := 0, locals := 0 } : Room).cells ({ frames := 0, cells := 0, slots := 0, locals := 0 } : Room).slots) := by
  refine MetFree.of_bodySF (plainFor_of_name pn_4) hisR ?_
  intro p e s m args below meth c s₁ Bd hml0 hP hK
  obtain ⟨rfl, hZ, hh⟩ := hP
  have hx := Bd.exec
  have hby := Bd.bytes
  have hml : c.maxLocals = 3 := hml0
  have hown : s.vm.findClass "com/example/sibyl/sibyl/kernel/Label" = some m.cls := findClass_of_methodNamed Bd.named
  have hnm := (name_of_methodNamed Bd.named Bd.method).1
  have X0 : Stand p l e ({ frames := 0, cells := 0, slots := 0, locals := 0 } : Room) s m #[(.ref p0), (.ref p1)] below meth c s₁ [] 0 0 := Stand.of_body Bd
  have e0 : s₁.heap = h0 := by rw [← hh, Bd.state]; rfl
  have N0 := Fr.nil n0
  have K0 : Keep h0 h0 [] := Keep.refl h0 _
  have pre0 : ∀ t, Steps p.tables e below (s₁.setTop (mkF m 0 #[.val (.ref p0), .val (.ref p1), .unset] [])) t → Steps p.tables e below (s₁.setTop (entryFrame m #[(.ref p0), (.ref p1)] 3)) t := fun t k => castTop (ef_4o m p0 p1) k
  have pre1 : ∀ t, Steps p.tables e below (s₁.setTop (mkF m 8 #[.val (.ref p0), .val (.ref p1), .unset] [(.ref p1)])) t → Steps p.tables e below (s₁.setTop (entryFrame m #[(.ref p0), (.ref p1)] 3)) t := by
    intro t k
    refine pre0 t ?_
    show Steps p.tables e below (s₁.setTop (mkF m 0 #[.val (.ref p0), .val (.ref p1), .unset] [])) _
    refine XS.aloadN X0.here hx rfl (hb hby d4_0) rfl rfl ?_
    show Steps p.tables e below (s₁.setTop (mkF m 1 #[.val (.ref p0), .val (.ref p1), .unset] [(.ref p0)])) _
    refine XS.aloadN X0.here hx rfl (hb hby d4_1) rfl rfl ?_
    show Steps p.tables e below (s₁.setTop (mkF m 2 #[.val (.ref p0), .val (.ref p1), .unset] [(.ref p1), (.ref p0)])) _
    refine Jvm.RoadKit.acmp (g := (mkF m 2 #[.val (.ref p0), .val (.ref p1), .unset] [(.ref p1), (.ref p0)])) X0 hx rfl rfl rfl (pc0 := 2) (pc' := 7) (same := false) rfl (hb hby d4_2) rfl (decide_eq_false fun q => (ne_p0_p1 : p0 ≠ p1) (Value.ref.inj q)) (by decide) (by decide) ?_
    show Steps p.tables e below (s₁.setTop (mkF m 7 #[.val (.ref p0), .val (.ref p1), .unset] [])) _
    refine XS.aloadN X0.here hx rfl (hb hby d4_7) rfl rfl ?_
    exact k
  obtain ⟨T2, X2, e2, st2⟩ := instY X0 hx hZ hown (hw _ (List.mem_of_getElem? (i := 25) rfl)) e0 (Ins.self E_p1) (g := (mkF m 8 #[.val (.ref p0), .val (.ref p1), .unset] [(.ref p1)])) rfl rfl (hb hby d4_8)
  have pre3 : ∀ t, Steps p.tables e below (T2.setTop (mkF m 17 #[.val (.ref p0), .val (.ref p1), .unset] [(.ref p1)])) t → Steps p.tables e below (s₁.setTop (entryFrame m #[(.ref p0), (.ref p1)] 3)) t := by
    intro t k
    refine pre1 t ?_
    show Steps p.tables e below (s₁.setTop (mkF m 8 #[.val (.ref p0), .val (.ref p1), .unset] [(.ref p1)])) _
    refine st2 _ ?_
    show Steps p.tables e below (T2.setTop (mkF m 11 #[.val (.ref p0), .val (.ref p1), .unset] [(.int (1 : Int32))])) _
    refine XS.ifYes X2.here hx rfl (pc0 := 11) (pc' := 16) rfl (hb hby d4_11) rfl ((if0 _ _).trans (feq (by decide : ¬ ((1 : Int32) = (0 : Int32)))).2) (by decide) (by decide) ?_
    show Steps p.tables e below (T2.setTop (mkF m 16 #[.val (.ref p0), .val (.ref p1), .unset] [])) _
    refine XS.aloadN X2.here hx rfl (hb hby d4_16) rfl rfl ?_
    exact k
  obtain ⟨T4, X4, e4, st4⟩ := castY X2 hx hZ hown (hw _ (List.mem_of_getElem? (i := 25) rfl)) e2 (Ins.self E_p1) (g := (mkF m 17 #[.val (.ref p0), .val (.ref p1), .unset] [(.ref p1)])) rfl rfl (hb hby d4_17)
  have pre5 : ∀ t, Steps p.tables e below (T4.setTop (mkF m 22 #[.val (.ref p0), .val (.ref p1), .val (.ref p1)] [(.ref p0)])) t → Steps p.tables e below (s₁.setTop (entryFrame m #[(.ref p0), (.ref p1)] 3)) t := by
    intro t k
    refine pre3 t ?_
    show Steps p.tables e below (T2.setTop (mkF m 17 #[.val (.ref p0), .val (.ref p1), .unset] [(.ref p1)])) _
    refine st4 _ ?_
    show Steps p.tables e below (T4.setTop (mkF m 20 #[.val (.ref p0), .val (.ref p1), .unset] [(.ref p1)])) _
    refine XS.astoreN X4.here hx rfl (hb hby d4_20) rfl rfl (l' := #[.val (.ref p0), .val (.ref p1), .val (.ref p1)]) rfl ?_
    show Steps p.tables e below (T4.setTop (mkF m 21 #[.val (.ref p0), .val (.ref p1), .val (.ref p1)] [])) _
    refine XS.aloadN X4.here hx rfl (hb hby d4_21) rfl rfl ?_
    exact k
  obtain ⟨T6, X6, e6, st6⟩ := getF X4 hx hZ hown (host := "") (Or.inl (hw _ (List.mem_of_getElem? (i := 9) rfl))) Via.refl e4 F_p0_level (g := (mkF m 22 #[.val (.ref p0), .val (.ref p1), .val (.ref p1)] [(.ref p0)])) rfl rfl (hb hby d4_22)
  have pre7 : ∀ t, Steps p.tables e below (T6.setTop (mkF m 26 #[.val (.ref p0), .val (.ref p1), .val (.ref p1)] [(.ref p1), (.int l0_)])) t → Steps p.tables e below (s₁.setTop (entryFrame m #[(.ref p0), (.ref p1)] 3)) t := by
    intro t k
    refine pre5 t ?_
    show Steps p.tables e below (T4.setTop (mkF m 22 #[.val (.ref p0), .val (.ref p1), .val (.ref p1)] [(.ref p0)])) _
    refine st6 _ ?_
    show Steps p.tables e below (T6.setTop (mkF m 25 #[.val (.ref p0), .val (.ref p1), .val (.ref p1)] [(.int l0_)])) _
    refine XS.aloadN X6.here hx rfl (hb hby d4_25) rfl rfl ?_
    exact k
  obtain ⟨T8, X8, e8, st8⟩ := getF X6 hx hZ hown (host := "") (Or.inl (hw _ (List.mem_of_getElem? (i := 9) rfl))) Via.refl e6 F_p1_level (g := (mkF m 26 #[.val (.ref p0), .val (.ref p1), .val (.ref p1)] [(.ref p1), (.int l0_)])) rfl rfl (hb hby d4_26)
  have pre9 : ∀ t, Steps p.tables e below (T8.setTop (mkF m 29 #[.val (.ref p0), .val (.ref p1), .val (.ref p1)] [(.int l1_), (.int l0_)])) t → Steps p.tables e below (s₁.setTop (entryFrame m #[(.ref p0), (.ref p1)] 3)) t := by
    intro t k
    refine pre7 t ?_
    show Steps p.tables e below (T6.setTop (mkF m 26 #[.val (.ref p0), .val (.ref p1), .val (.ref p1)] [(.ref p1), (.int l0_)])) _
    refine st8 _ ?_
    exact k
  by_cases hc29 : l0_ = l1_
  · have pre10 : ∀ t, Steps p.tables e below (T8.setTop (mkF m 33 #[.val (.ref p0), .val (.ref p1), .val (.ref p1)] [(.ref p0)])) t → Steps p.tables e below (s₁.setTop (entryFrame m #[(.ref p0), (.ref p1)] 3)) t := by
      intro t k
      refine pre9 t ?_
      show Steps p.tables e below (T8.setTop (mkF m 29 #[.val (.ref p0), .val (.ref p1), .val (.ref p1)] [(.int l1_), (.int l0_)])) _
      refine XS.icmpNo X8.here hx rfl (hb hby d4_29) rfl (teq hc29).2 ?_
      show Steps p.tables e below (T8.setTop (mkF m 32 #[.val (.ref p0), .val (.ref p1), .val (.ref p1)] [])) _
      refine XS.aloadN X8.here hx rfl (hb hby d4_32) rfl rfl ?_
      exact k
    obtain ⟨T11, X11, e11, st11⟩ := getF X8 hx hZ hown (host := "") (Or.inl (hw _ (List.mem_of_getElem? (i := 11) rfl))) Via.refl e8 F_p0_categories (g := (mkF m 33 #[.val (.ref p0), .val (.ref p1), .val (.ref p1)] [(.ref p0)])) rfl rfl (hb hby d4_33)
    have pre12 : ∀ t, Steps p.tables e below (T11.setTop (mkF m 37 #[.val (.ref p0), .val (.ref p1), .val (.ref p1)] [(.ref p1), (.long c0_)])) t → Steps p.tables e below (s₁.setTop (entryFrame m #[(.ref p0), (.ref p1)] 3)) t := by
      intro t k
      refine pre10 t ?_
      show Steps p.tables e below (T8.setTop (mkF m 33 #[.val (.ref p0), .val (.ref p1), .val (.ref p1)] [(.ref p0)])) _
      refine st11 _ ?_
      show Steps p.tables e below (T11.setTop (mkF m 36 #[.val (.ref p0), .val (.ref p1), .val (.ref p1)] [(.long c0_)])) _
      refine XS.aloadN X11.here hx rfl (hb hby d4_36) rfl rfl ?_
      exact k
    obtain ⟨T13, X13, e13, st13⟩ := getF X11 hx hZ hown (host := "") (Or.inl (hw _ (List.mem_of_getElem? (i := 11) rfl))) Via.refl e11 F_p1_categories (g := (mkF m 37 #[.val (.ref p0), .val (.ref p1), .val (.ref p1)] [(.ref p1), (.long c0_)])) rfl rfl (hb hby d4_37)
    have pre14 : ∀ t, Steps p.tables e below (T13.setTop (mkF m 41 #[.val (.ref p0), .val (.ref p1), .val (.ref p1)] [(.int (lcmpW c0_ c1_))])) t → Steps p.tables e below (s₁.setTop (entryFrame m #[(.ref p0), (.ref p1)] 3)) t := by
      intro t k
      refine pre12 t ?_
      show Steps p.tables e below (T11.setTop (mkF m 37 #[.val (.ref p0), .val (.ref p1), .val (.ref p1)] [(.ref p1), (.long c0_)])) _
      refine st13 _ ?_
      show Steps p.tables e below (T13.setTop (mkF m 40 #[.val (.ref p0), .val (.ref p1), .val (.ref p1)] [(.long c1_), (.long c0_)])) _
      refine XS.lcmp X13.here hx rfl (hb hby d4_40) rfl ?_
      exact k
    obtain ⟨ms0_49, hms0_49⟩ : ∃ z : Int32, z = (if c0_ = c1_ then (1 : Int32) else (0 : Int32)) := ⟨_, rfl⟩
    have pre15 : ∀ t, Steps p.tables e below (T13.setTop (mkF m 49 #[.val (.ref p0), .val (.ref p1), .val (.ref p1)] [(.int ms0_49)])) t → Steps p.tables e below (s₁.setTop (entryFrame m #[(.ref p0), (.ref p1)] 3)) t := by
      intro t k
      refine pre14 t ?_
      by_cases hc41 : c0_ = c1_
      · show Steps p.tables e below (T13.setTop (mkF m 41 #[.val (.ref p0), .val (.ref p1), .val (.ref p1)] [(.int (lcmpW c0_ c1_))])) _
        refine XS.ifNo X13.here hx rfl (hb hby d4_41) rfl ((if0 _ _).trans (teq ((lw_eq _ _).mpr hc41)).2) ?_
        show Steps p.tables e below (T13.setTop (mkF m 44 #[.val (.ref p0), .val (.ref p1), .val (.ref p1)] [])) _
        refine XS.iconst X13.here hx rfl (hb hby d4_44) ?_
        show Steps p.tables e below (T13.setTop (mkF m 45 #[.val (.ref p0), .val (.ref p1), .val (.ref p1)] [(.int (1 : Int32))])) _
        refine XS.goto X13.here hx rfl (pc0 := 45) (pc' := 49) rfl (hb hby d4_45) (by decide) (by decide) ?_
        have qms0_49 : ms0_49 = (1 : Int32) := by rw [hms0_49, if_pos hc41]
        rw [qms0_49] at k
        exact k
      · show Steps p.tables e below (T13.setTop (mkF m 41 #[.val (.ref p0), .val (.ref p1), .val (.ref p1)] [(.int (lcmpW c0_ c1_))])) _
        refine XS.ifYes X13.here hx rfl (pc0 := 41) (pc' := 48) rfl (hb hby d4_41) rfl ((if0 _ _).trans (feq (fun q => hc41 ((lw_eq _ _).mp q))).2) (by decide) (by decide) ?_
        show Steps p.tables e below (T13.setTop (mkF m 48 #[.val (.ref p0), .val (.ref p1), .val (.ref p1)] [])) _
        refine XS.iconst X13.here hx rfl (hb hby d4_48) ?_
        have qms0_49 : ms0_49 = (0 : Int32) := by rw [hms0_49, if_neg hc41]
        rw [qms0_49] at k
        exact k
    have hnar : nar .boolean ms0_49 = ms0_49 := by rw [hms0_49]; (repeat' split) <;> rfl
    obtain ⟨fs, hr, hrun, hended, hW, hsame⟩ := X13.leave (v := some (.int ms0_49)) (fun h => by rw [Bd.returns] at h; cases h) (BodyLoose.notSynchronized Bd)
    refine ⟨_, _, pre15 _ ?_, hrun, hended, _, _, rfl, ?_, ⟨_, rfl⟩, hW, hsame.mono (by decide) (by decide)⟩
    · show Steps p.tables e below (T13.setTop (mkF m 49 #[.val (.ref p0), .val (.ref p1), .val (.ref p1)] [(.int ms0_49)])) _
      exact retN X13 hx (t := .boolean) Bd.returns (by simp) (hb hby d4_49) (by rw [hnar]; exact hr)
    · show Q_4o Z p0 p1 l0_ c0_ l1_ c1_ h0 n0 _ T13.heap _
      rw [e13]
      exact ⟨congrArg (fun z => some (Value.int z)) (by subst hms0_49; exact (if_pos hc29).symm : ms0_49 = f_4o l0_ c0_ l1_ c1_), N0, rfl⟩
  · obtain ⟨fs, hr, hrun, hended, hW, hsame⟩ := X8.leave (v := some (.int (0 : Int32))) (fun h => by rw [Bd.returns] at h; cases h) (BodyLoose.notSynchronized Bd)
    refine ⟨_, _, pre9 _ ?_, hrun, hended, _, _, rfl, ?_, ⟨_, rfl⟩, hW, hsame.mono (by decide) (by decide)⟩
    · show Steps p.tables e below (T8.setTop (mkF m 29 #[.val (.ref p0), .val (.ref p1), .val (.ref p1)] [(.int l1_), (.int l0_)])) _
      refine XS.icmpYes X8.here hx rfl (pc0 := 29) (pc' := 48) rfl (hb hby d4_29) rfl (feq hc29).2 (by decide) (by decide) ?_
      show Steps p.tables e below (T8.setTop (mkF m 48 #[.val (.ref p0), .val (.ref p1), .val (.ref p1)] [])) _
      refine XS.iconst X8.here hx rfl (hb hby d4_48) ?_
      show Steps p.tables e below (T8.setTop (mkF m 49 #[.val (.ref p0), .val (.ref p1), .val (.ref p1)] [(.int (0 : Int32))])) _
      exact retN X8 hx (t := .boolean) Bd.returns (by simp) (hb hby d4_49) hr
    · show Q_4o Z p0 p1 l0_ c0_ l1_ c1_ h0 n0 _ T8.heap _
      rw [e8]
      exact ⟨congrArg (fun z => some (Value.int z)) (by exact (if_neg hc29).symm : (0 : Int32) = f_4o l0_ c0_ l1_ c1_), N0, rfl⟩
theorem pd_2 : parseMethodDescriptor "(IJ)V" = some ⟨[.int, .long], none⟩ := by decide +kernel
theorem pd_3 : parseMethodDescriptor "(I)Ljava/lang/Integer;" = some ⟨[.int], some (.object "java/lang/Integer")⟩ := by decide +kernel
theorem pd_4 : parseMethodDescriptor "(Ljava/lang/Object;)Z" = some ⟨[(.object "java/lang/Object")], some .boolean⟩ := by decide +kernel
theorem pn_0 : plainName "com/example/sibyl/sibyl/kernel/LabelEqualsPinLaw" = true := by first | (simp [plainName, overriddenIn]; done) | decide +kernel
theorem ef_0 (m : MethodId) (p0 : Int32) (p1 : Int64) (p2 : Int32) (p3 : Int64) (p4 : Int32) : entryFrame m #[(.int p0), (.long p1), (.int p2), (.long p3), (.int p4)] maxLocals = mkF m 0 #[.val (.int p0), .val (.long p1), .second, .val (.int p2), .val (.long p3), .second, .val (.int p4), .unset, .unset, .unset, .unset, .unset, .unset, .unset, .unset, .unset, .unset, .unset, .unset, .unset, .unset, .unset] [] := by first | (simp [entryFrame, mkF, argsToLocals, Value.category, maxLocals]; done) | rfl
def f_0 (p0 : Int32) (p1 : Int64) (p2 : Int32) (p3 : Int64) (p4 : Int32) (en : Nat → Addr) : Int32 := let ms0_12 : Int32 := (if (p4 &&& (1 : Int32)) = (0 : Int32) then (0 : Int32) else (1 : Int32)); let ms0_26 : Int32 := (if (p4 &&& (2 : Int32)) = (0 : Int32) then (0 : Int32) else (1 : Int32)); let ms0_38 : Int32 := (if ms0_12 = (0 : Int32) then p2 else p0); let ms0_51 : Int64 := (if ms0_26 = (0 : Int32) then p3 else p1); let ms0_95 : Int32 := (if ms0_38 = p0 then (if ms0_51 = p1 then (1 : Int32) else (0 : Int32)) else (0 : Int32)); (if p0 < (-128 : Int32) then let v17_113 : Int32 := (f_4o p0 p1 ms0_38 ms0_51); let v18_122 : Int32 := (f_4o ms0_38 ms0_51 p0 p1); let ms0_185 : Int32 := (if v17_113 = ms0_95 then (if v18_122 = ms0_95 then (if f_4s = (0 : Int32) then (0 : Int32) else (if f_4n = (0 : Int32) then (if f_4l = (0 : Int32) then (1 : Int32) else (0 : Int32)) else (0 : Int32))) else (0 : Int32)) else (0 : Int32)); ms0_185 else (if (127 : Int32) < p0 then let v17_113 : Int32 := (f_4o p0 p1 ms0_38 ms0_51); let v18_122 : Int32 := (f_4o ms0_38 ms0_51 p0 p1); let ms0_185 : Int32 := (if v17_113 = ms0_95 then (if v18_122 = ms0_95 then (if f_4s = (0 : Int32) then (0 : Int32) else (if f_4n = (0 : Int32) then (if f_4l = (0 : Int32) then (1 : Int32) else (0 : Int32)) else (0 : Int32))) else (0 : Int32)) else (0 : Int32)); ms0_185 else let v17_113 : Int32 := (f_4o p0 p1 ms0_38 ms0_51); let v18_122 : Int32 := (f_4o ms0_38 ms0_51 p0 p1); let ms0_185 : Int32 := (if v17_113 = ms0_95 then (if v18_122 = ms0_95 then (if f_4s = (0 : Int32) then (0 : Int32) else (if f_4n = (0 : Int32) then (if f_4l = (0 : Int32) then (1 : Int32) else (0 : Int32)) else (0 : Int32))) else (0 : Int32)) else (0 : Int32)); ms0_185))
def Q_0 (Z : State) (p0 : Int32) (p1 : Int64) (p2 : Int32) (p3 : Int64) (p4 : Int32) (en : Nat → Addr) (ca : Addr) (h0 : Heap) (n0 : Nat) (v : Option Value) (h : Heap) (L : List Loc) : Prop := v = some (.int (f_0 p0 p1 p2 p3 p4 en)) ∧ Fr n0 L ∧ True
set_option maxRecDepth 65536 in
set_option maxHeartbeats 40000000 in
theorem rm_0 (l : Launch) (Z : State) (a0 : Array Value) (hw : ∀ d ∈ tables_1, d.before a0 Z = true) (ws : List Jvm.Cond) (p0 : Int32) (p1 : Int64) (p2 : Int32) (p3 : Int64) (p4 : Int32) (en : Nat → Addr) (ca : Addr) (h0 : Heap) (n0 : Nat) (Z0 : n0 ≤ h0.size) (S_high : Sta Z h0 "java/lang/Integer$IntegerCache" "high" "I" (.int (127 : Int32))) (S_cache : Sta Z h0 "java/lang/Integer$IntegerCache" "cache" "[Ljava/lang/Integer;" (.ref ca)) (A_ca : own_A Z h0 ca (.object "java/lang/Integer") 256 (fun i => (own_rf en) i)) (hE : ∀ i, i < 256 → Exa Z h0 (en i) "java/lang/Integer") :
    MetFree l x (head1 (Jvm.Cond.code x code maxLocals ret :: ws) room_1) (fun a U => a = #[(.int p0), (.long p1), (.int p2), (.long p3), (.int p4)] ∧ Z.Warmed39 U.vm ∧ U.heap = h0) (fun _ _ _ _ _ => True) (fun _ U o U' => ∃ v L, o = .returned v ∧ Q_0 Z p0 p1 p2 p3 p4 en ca h0 n0 v U'.heap L ∧ FrameEnd U o U' L 3 5) := by
  refine MetFree.of_bodySF (plainFor_of_name pn_0) hisR ?_
  intro p e s m args below meth c s₁ Bd hml0 hP hK
  obtain ⟨rfl, hZ, hh⟩ := hP
  have hx := Bd.exec
  have hby := Bd.bytes
  have hml : c.maxLocals = 22 := hml0
  have hown : s.vm.findClass "com/example/sibyl/sibyl/kernel/LabelEqualsPinLaw" = some m.cls := findClass_of_methodNamed Bd.named
  have hnm := (name_of_methodNamed Bd.named Bd.method).1
  have X0 : Stand p l e room_1 s m #[(.int p0), (.long p1), (.int p2), (.long p3), (.int p4)] below meth c s₁ [] 0 0 := Stand.of_body Bd
  have e0 : s₁.heap = h0 := by rw [← hh, Bd.state]; rfl
  have N0 := Fr.nil n0
  have K0 : Keep h0 h0 [] := Keep.refl h0 _
  have pre0 : ∀ t, Steps p.tables e below (s₁.setTop (mkF m 0 #[.val (.int p0), .val (.long p1), .second, .val (.int p2), .val (.long p3), .second, .val (.int p4), .unset, .unset, .unset, .unset, .unset, .unset, .unset, .unset, .unset, .unset, .unset, .unset, .unset, .unset, .unset] [])) t → Steps p.tables e below (s₁.setTop (entryFrame m #[(.int p0), (.long p1), (.int p2), (.long p3), (.int p4)] maxLocals)) t := fun t k => castTop (ef_0 m p0 p1 p2 p3 p4) k
  have pre1 : ∀ t, Steps p.tables e below (s₁.setTop (mkF m 4 #[.val (.int p0), .val (.long p1), .second, .val (.int p2), .val (.long p3), .second, .val (.int p4), .unset, .unset, .unset, .unset, .unset, .unset, .unset, .unset, .unset, .unset, .unset, .unset, .unset, .unset, .unset] [(.int (p4 &&& (1 : Int32)))])) t → Steps p.tables e below (s₁.setTop (entryFrame m #[(.int p0), (.long p1), (.int p2), (.long p3), (.int p4)] maxLocals)) t := by
    intro t k
    refine pre0 t ?_
    show Steps p.tables e below (s₁.setTop (mkF m 0 #[.val (.int p0), .val (.long p1), .second, .val (.int p2), .val (.long p3), .second, .val (.int p4), .unset, .unset, .unset, .unset, .unset, .unset, .unset, .unset, .unset, .unset, .unset, .unset, .unset, .unset, .unset] [])) _
    refine XS.iload X0.here hx rfl (hb hby at_0) rfl  ?_
    show Steps p.tables e below (s₁.setTop (mkF m 2 #[.val (.int p0), .val (.long p1), .second, .val (.int p2), .val (.long p3), .second, .val (.int p4), .unset, .unset, .unset, .unset, .unset, .unset, .unset, .unset, .unset, .unset, .unset, .unset, .unset, .unset, .unset] [(.int p4)])) _
    refine XS.iconst X0.here hx rfl (hb hby at_2) ?_
    show Steps p.tables e below (s₁.setTop (mkF m 3 #[.val (.int p0), .val (.long p1), .second, .val (.int p2), .val (.long p3), .second, .val (.int p4), .unset, .unset, .unset, .unset, .unset, .unset, .unset, .unset, .unset, .unset, .unset, .unset, .unset, .unset, .unset] [(.int (1 : Int32)), (.int p4)])) _
    refine XS.iand X0.here hx rfl (hb hby at_3) rfl ?_
    exact k
  obtain ⟨ms0_12, hms0_12⟩ : ∃ z : Int32, z = (if (p4 &&& (1 : Int32)) = (0 : Int32) then (0 : Int32) else (1 : Int32)) := ⟨_, rfl⟩
  have pre2 : ∀ t, Steps p.tables e below (s₁.setTop (mkF m 12 #[.val (.int p0), .val (.long p1), .second, .val (.int p2), .val (.long p3), .second, .val (.int p4), .unset, .unset, .unset, .unset, .unset, .unset, .unset, .unset, .unset, .unset, .unset, .unset, .unset, .unset, .unset] [(.int ms0_12)])) t → Steps p.tables e below (s₁.setTop (entryFrame m #[(.int p0), (.long p1), (.int p2), (.long p3), (.int p4)] maxLocals)) t := by
    intro t k
    refine pre1 t ?_
    by_cases hc4 : (p4 &&& (1 : Int32)) = (0 : Int32)
    · show Steps p.tables e below (s₁.setTop (mkF m 4 #[.val (.int p0), .val (.long p1), .second, .val (.int p2), .val (.long p3), .second, .val (.int p4), .unset, .unset, .unset, .unset, .unset, .unset, .unset, .unset, .unset, .unset, .unset, .unset, .unset, .unset, .unset] [(.int (p4 &&& (1 : Int32)))])) _
      refine XS.ifYes X0.here hx rfl (pc0 := 4) (pc' := 11) rfl (hb hby at_4) rfl ((if0 _ _).trans (teq hc4).1) (by decide) (by decide) ?_
      show Steps p.tables e below (s₁.setTop (mkF m 11 #[.val (.int p0), .val (.long p1), .second, .val (.int p2), .val (.long p3), .second, .val (.int p4), .unset, .unset, .unset, .unset, .unset, .unset, .unset, .unset, .unset, .unset, .unset, .unset, .unset, .unset, .unset] [])) _
      refine XS.iconst X0.here hx rfl (hb hby at_11) ?_
      have qms0_12 : ms0_12 = (0 : Int32) := by rw [hms0_12, if_pos hc4]
      rw [qms0_12] at k
      exact k
    · show Steps p.tables e below (s₁.setTop (mkF m 4 #[.val (.int p0), .val (.long p1), .second, .val (.int p2), .val (.long p3), .second, .val (.int p4), .unset, .unset, .unset, .unset, .unset, .unset, .unset, .unset, .unset, .unset, .unset, .unset, .unset, .unset, .unset] [(.int (p4 &&& (1 : Int32)))])) _
      refine XS.ifNo X0.here hx rfl (hb hby at_4) rfl ((if0 _ _).trans (feq hc4).1) ?_
      show Steps p.tables e below (s₁.setTop (mkF m 7 #[.val (.int p0), .val (.long p1), .second, .val (.int p2), .val (.long p3), .second, .val (.int p4), .unset, .unset, .unset, .unset, .unset, .unset, .unset, .unset, .unset, .unset, .unset, .unset, .unset, .unset, .unset] [])) _
      refine XS.iconst X0.here hx rfl (hb hby at_7) ?_
      show Steps p.tables e below (s₁.setTop (mkF m 8 #[.val (.int p0), .val (.long p1), .second, .val (.int p2), .val (.long p3), .second, .val (.int p4), .unset, .unset, .unset, .unset, .unset, .unset, .unset, .unset, .unset, .unset, .unset, .unset, .unset, .unset, .unset] [(.int (1 : Int32))])) _
      refine XS.goto X0.here hx rfl (pc0 := 8) (pc' := 12) rfl (hb hby at_8) (by decide) (by decide) ?_
      have qms0_12 : ms0_12 = (1 : Int32) := by rw [hms0_12, if_neg hc4]
      rw [qms0_12] at k
      exact k
  have pre3 : ∀ t, Steps p.tables e below (s₁.setTop (mkF m 18 #[.val (.int p0), .val (.long p1), .second, .val (.int p2), .val (.long p3), .second, .val (.int p4), .val (.int ms0_12), .unset, .unset, .unset, .unset, .unset, .unset, .unset, .unset, .unset, .unset, .unset, .unset, .unset, .unset] [(.int (p4 &&& (2 : Int32)))])) t → Steps p.tables e below (s₁.setTop (entryFrame m #[(.int p0), (.long p1), (.int p2), (.long p3), (.int p4)] maxLocals)) t := by
    intro t k
    refine pre2 t ?_
    show Steps p.tables e below (s₁.setTop (mkF m 12 #[.val (.int p0), .val (.long p1), .second, .val (.int p2), .val (.long p3), .second, .val (.int p4), .unset, .unset, .unset, .unset, .unset, .unset, .unset, .unset, .unset, .unset, .unset, .unset, .unset, .unset, .unset] [(.int ms0_12)])) _
    refine XS.istore X0.here hx rfl (hb hby at_12) rfl (l' := #[.val (.int p0), .val (.long p1), .second, .val (.int p2), .val (.long p3), .second, .val (.int p4), .val (.int ms0_12), .unset, .unset, .unset, .unset, .unset, .unset, .unset, .unset, .unset, .unset, .unset, .unset, .unset, .unset]) rfl ?_
    show Steps p.tables e below (s₁.setTop (mkF m 14 #[.val (.int p0), .val (.long p1), .second, .val (.int p2), .val (.long p3), .second, .val (.int p4), .val (.int ms0_12), .unset, .unset, .unset, .unset, .unset, .unset, .unset, .unset, .unset, .unset, .unset, .unset, .unset, .unset] [])) _
    refine XS.iload X0.here hx rfl (hb hby at_14) rfl  ?_
    show Steps p.tables e below (s₁.setTop (mkF m 16 #[.val (.int p0), .val (.long p1), .second, .val (.int p2), .val (.long p3), .second, .val (.int p4), .val (.int ms0_12), .unset, .unset, .unset, .unset, .unset, .unset, .unset, .unset, .unset, .unset, .unset, .unset, .unset, .unset] [(.int p4)])) _
    refine XS.iconst X0.here hx rfl (hb hby at_16) ?_
    show Steps p.tables e below (s₁.setTop (mkF m 17 #[.val (.int p0), .val (.long p1), .second, .val (.int p2), .val (.long p3), .second, .val (.int p4), .val (.int ms0_12), .unset, .unset, .unset, .unset, .unset, .unset, .unset, .unset, .unset, .unset, .unset, .unset, .unset, .unset] [(.int (2 : Int32)), (.int p4)])) _
    refine XS.iand X0.here hx rfl (hb hby at_17) rfl ?_
    exact k
  obtain ⟨ms0_26, hms0_26⟩ : ∃ z : Int32, z = (if (p4 &&& (2 : Int32)) = (0 : Int32) then (0 : Int32) else (1 : Int32)) := ⟨_, rfl⟩
  have pre4 : ∀ t, Steps p.tables e below (s₁.setTop (mkF m 26 #[.val (.int p0), .val (.long p1), .second, .val (.int p2), .val (.long p3), .second, .val (.int p4), .val (.int ms0_12), .unset, .unset, .unset, .unset, .unset, .unset, .unset, .unset, .unset, .unset, .unset, .unset, .unset, .unset] [(.int ms0_26)])) t → Steps p.tables e below (s₁.setTop (entryFrame m #[(.int p0), (.long p1), (.int p2), (.long p3), (.int p4)] maxLocals)) t := by
    intro t k
    refine pre3 t ?_
    by_cases hc18 : (p4 &&& (2 : Int32)) = (0 : Int32)
    · show Steps p.tables e below (s₁.setTop (mkF m 18 #[.val (.int p0), .val (.long p1), .second, .val (.int p2), .val (.long p3), .second, .val (.int p4), .val (.int ms0_12), .unset, .unset, .unset, .unset, .unset, .unset, .unset, .unset, .unset, .unset, .unset, .unset, .unset, .unset] [(.int (p4 &&& (2 : Int32)))])) _
      refine XS.ifYes X0.here hx rfl (pc0 := 18) (pc' := 25) rfl (hb hby at_18) rfl ((if0 _ _).trans (teq hc18).1) (by decide) (by decide) ?_
      show Steps p.tables e below (s₁.setTop (mkF m 25 #[.val (.int p0), .val (.long p1), .second, .val (.int p2), .val (.long p3), .second, .val (.int p4), .val (.int ms0_12), .unset, .unset, .unset, .unset, .unset, .unset, .unset, .unset, .unset, .unset, .unset, .unset, .unset, .unset] [])) _
      refine XS.iconst X0.here hx rfl (hb hby at_25) ?_
      have qms0_26 : ms0_26 = (0 : Int32) := by rw [hms0_26, if_pos hc18]
      rw [qms0_26] at k
      exact k
    · show Steps p.tables e below (s₁.setTop (mkF m 18 #[.val (.int p0), .val (.long p1), .second, .val (.int p2), .val (.long p3), .second, .val (.int p4), .val (.int ms0_12), .unset, .unset, .unset, .unset, .unset, .unset, .unset, .unset, .unset, .unset, .unset, .unset, .unset, .unset] [(.int (p4 &&& (2 : Int32)))])) _
      refine XS.ifNo X0.here hx rfl (hb hby at_18) rfl ((if0 _ _).trans (feq hc18).1) ?_
      show Steps p.tables e below (s₁.setTop (mkF m 21 #[.val (.int p0), .val (.long p1), .second, .val (.int p2), .val (.long p3), .second, .val (.int p4), .val (.int ms0_12), .unset, .unset, .unset, .unset, .unset, .unset, .unset, .unset, .unset, .unset, .unset, .unset, .unset, .unset] [])) _
      refine XS.iconst X0.here hx rfl (hb hby at_21) ?_
      show Steps p.tables e below (s₁.setTop (mkF m 22 #[.val (.int p0), .val (.long p1), .second, .val (.int p2), .val (.long p3), .second, .val (.int p4), .val (.int ms0_12), .unset, .unset, .unset, .unset, .unset, .unset, .unset, .unset, .unset, .unset, .unset, .unset, .unset, .unset] [(.int (1 : Int32))])) _
      refine XS.goto X0.here hx rfl (pc0 := 22) (pc' := 26) rfl (hb hby at_22) (by decide) (by decide) ?_
      have qms0_26 : ms0_26 = (1 : Int32) := by rw [hms0_26, if_neg hc18]
      rw [qms0_26] at k
      exact k
  have pre5 : ∀ t, Steps p.tables e below (s₁.setTop (mkF m 30 #[.val (.int p0), .val (.long p1), .second, .val (.int p2), .val (.long p3), .second, .val (.int p4), .val (.int ms0_12), .val (.int ms0_26), .unset, .unset, .unset, .unset, .unset, .unset, .unset, .unset, .unset, .unset, .unset, .unset, .unset] [(.int ms0_12)])) t → Steps p.tables e below (s₁.setTop (entryFrame m #[(.int p0), (.long p1), (.int p2), (.long p3), (.int p4)] maxLocals)) t := by
    intro t k
    refine pre4 t ?_
    show Steps p.tables e below (s₁.setTop (mkF m 26 #[.val (.int p0), .val (.long p1), .second, .val (.int p2), .val (.long p3), .second, .val (.int p4), .val (.int ms0_12), .unset, .unset, .unset, .unset, .unset, .unset, .unset, .unset, .unset, .unset, .unset, .unset, .unset, .unset] [(.int ms0_26)])) _
    refine XS.istore X0.here hx rfl (hb hby at_26) rfl (l' := #[.val (.int p0), .val (.long p1), .second, .val (.int p2), .val (.long p3), .second, .val (.int p4), .val (.int ms0_12), .val (.int ms0_26), .unset, .unset, .unset, .unset, .unset, .unset, .unset, .unset, .unset, .unset, .unset, .unset, .unset]) rfl ?_
    show Steps p.tables e below (s₁.setTop (mkF m 28 #[.val (.int p0), .val (.long p1), .second, .val (.int p2), .val (.long p3), .second, .val (.int p4), .val (.int ms0_12), .val (.int ms0_26), .unset, .unset, .unset, .unset, .unset, .unset, .unset, .unset, .unset, .unset, .unset, .unset, .unset] [])) _
    refine XS.iload X0.here hx rfl (hb hby at_28) rfl  ?_
    exact k
  obtain ⟨ms0_38, hms0_38⟩ : ∃ z : Int32, z = (if ms0_12 = (0 : Int32) then p2 else p0) := ⟨_, rfl⟩
  have pre6 : ∀ t, Steps p.tables e below (s₁.setTop (mkF m 38 #[.val (.int p0), .val (.long p1), .second, .val (.int p2), .val (.long p3), .second, .val (.int p4), .val (.int ms0_12), .val (.int ms0_26), .unset, .unset, .unset, .unset, .unset, .unset, .unset, .unset, .unset, .unset, .unset, .unset, .unset] [(.int ms0_38)])) t → Steps p.tables e below (s₁.setTop (entryFrame m #[(.int p0), (.long p1), (.int p2), (.long p3), (.int p4)] maxLocals)) t := by
    intro t k
    refine pre5 t ?_
    by_cases hc30 : ms0_12 = (0 : Int32)
    · show Steps p.tables e below (s₁.setTop (mkF m 30 #[.val (.int p0), .val (.long p1), .second, .val (.int p2), .val (.long p3), .second, .val (.int p4), .val (.int ms0_12), .val (.int ms0_26), .unset, .unset, .unset, .unset, .unset, .unset, .unset, .unset, .unset, .unset, .unset, .unset, .unset] [(.int ms0_12)])) _
      refine XS.ifYes X0.here hx rfl (pc0 := 30) (pc' := 37) rfl (hb hby at_30) rfl ((if0 _ _).trans (teq hc30).1) (by decide) (by decide) ?_
      show Steps p.tables e below (s₁.setTop (mkF m 37 #[.val (.int p0), .val (.long p1), .second, .val (.int p2), .val (.long p3), .second, .val (.int p4), .val (.int ms0_12), .val (.int ms0_26), .unset, .unset, .unset, .unset, .unset, .unset, .unset, .unset, .unset, .unset, .unset, .unset, .unset] [])) _
      refine XS.iloadN X0.here hx rfl (hb hby at_37) rfl  ?_
      have qms0_38 : ms0_38 = p2 := by rw [hms0_38, if_pos hc30]
      rw [qms0_38] at k
      exact k
    · show Steps p.tables e below (s₁.setTop (mkF m 30 #[.val (.int p0), .val (.long p1), .second, .val (.int p2), .val (.long p3), .second, .val (.int p4), .val (.int ms0_12), .val (.int ms0_26), .unset, .unset, .unset, .unset, .unset, .unset, .unset, .unset, .unset, .unset, .unset, .unset, .unset] [(.int ms0_12)])) _
      refine XS.ifNo X0.here hx rfl (hb hby at_30) rfl ((if0 _ _).trans (feq hc30).1) ?_
      show Steps p.tables e below (s₁.setTop (mkF m 33 #[.val (.int p0), .val (.long p1), .second, .val (.int p2), .val (.long p3), .second, .val (.int p4), .val (.int ms0_12), .val (.int ms0_26), .unset, .unset, .unset, .unset, .unset, .unset, .unset, .unset, .unset, .unset, .unset, .unset, .unset] [])) _
      refine XS.iloadN X0.here hx rfl (hb hby at_33) rfl  ?_
      show Steps p.tables e below (s₁.setTop (mkF m 34 #[.val (.int p0), .val (.long p1), .second, .val (.int p2), .val (.long p3), .second, .val (.int p4), .val (.int ms0_12), .val (.int ms0_26), .unset, .unset, .unset, .unset, .unset, .unset, .unset, .unset, .unset, .unset, .unset, .unset, .unset] [(.int p0)])) _
      refine XS.goto X0.here hx rfl (pc0 := 34) (pc' := 38) rfl (hb hby at_34) (by decide) (by decide) ?_
      have qms0_38 : ms0_38 = p0 := by rw [hms0_38, if_neg hc30]
      rw [qms0_38] at k
      exact k
  have pre7 : ∀ t, Steps p.tables e below (s₁.setTop (mkF m 42 #[.val (.int p0), .val (.long p1), .second, .val (.int p2), .val (.long p3), .second, .val (.int p4), .val (.int ms0_12), .val (.int ms0_26), .val (.int ms0_38), .unset, .unset, .unset, .unset, .unset, .unset, .unset, .unset, .unset, .unset, .unset, .unset] [(.int ms0_26)])) t → Steps p.tables e below (s₁.setTop (entryFrame m #[(.int p0), (.long p1), (.int p2), (.long p3), (.int p4)] maxLocals)) t := by
    intro t k
    refine pre6 t ?_
    show Steps p.tables e below (s₁.setTop (mkF m 38 #[.val (.int p0), .val (.long p1), .second, .val (.int p2), .val (.long p3), .second, .val (.int p4), .val (.int ms0_12), .val (.int ms0_26), .unset, .unset, .unset, .unset, .unset, .unset, .unset, .unset, .unset, .unset, .unset, .unset, .unset] [(.int ms0_38)])) _
    refine XS.istore X0.here hx rfl (hb hby at_38) rfl (l' := #[.val (.int p0), .val (.long p1), .second, .val (.int p2), .val (.long p3), .second, .val (.int p4), .val (.int ms0_12), .val (.int ms0_26), .val (.int ms0_38), .unset, .unset, .unset, .unset, .unset, .unset, .unset, .unset, .unset, .unset, .unset, .unset]) rfl ?_
    show Steps p.tables e below (s₁.setTop (mkF m 40 #[.val (.int p0), .val (.long p1), .second, .val (.int p2), .val (.long p3), .second, .val (.int p4), .val (.int ms0_12), .val (.int ms0_26), .val (.int ms0_38), .unset, .unset, .unset, .unset, .unset, .unset, .unset, .unset, .unset, .unset, .unset, .unset] [])) _
    refine XS.iload X0.here hx rfl (hb hby at_40) rfl  ?_
    exact k
  obtain ⟨ms0_51, hms0_51⟩ : ∃ z : Int64, z = (if ms0_26 = (0 : Int32) then p3 else p1) := ⟨_, rfl⟩
  have pre8 : ∀ t, Steps p.tables e below (s₁.setTop (mkF m 51 #[.val (.int p0), .val (.long p1), .second, .val (.int p2), .val (.long p3), .second, .val (.int p4), .val (.int ms0_12), .val (.int ms0_26), .val (.int ms0_38), .unset, .unset, .unset, .unset, .unset, .unset, .unset, .unset, .unset, .unset, .unset, .unset] [(.long ms0_51)])) t → Steps p.tables e below (s₁.setTop (entryFrame m #[(.int p0), (.long p1), (.int p2), (.long p3), (.int p4)] maxLocals)) t := by
    intro t k
    refine pre7 t ?_
    by_cases hc42 : ms0_26 = (0 : Int32)
    · show Steps p.tables e below (s₁.setTop (mkF m 42 #[.val (.int p0), .val (.long p1), .second, .val (.int p2), .val (.long p3), .second, .val (.int p4), .val (.int ms0_12), .val (.int ms0_26), .val (.int ms0_38), .unset, .unset, .unset, .unset, .unset, .unset, .unset, .unset, .unset, .unset, .unset, .unset] [(.int ms0_26)])) _
      refine XS.ifYes X0.here hx rfl (pc0 := 42) (pc' := 49) rfl (hb hby at_42) rfl ((if0 _ _).trans (teq hc42).1) (by decide) (by decide) ?_
      show Steps p.tables e below (s₁.setTop (mkF m 49 #[.val (.int p0), .val (.long p1), .second, .val (.int p2), .val (.long p3), .second, .val (.int p4), .val (.int ms0_12), .val (.int ms0_26), .val (.int ms0_38), .unset, .unset, .unset, .unset, .unset, .unset, .unset, .unset, .unset, .unset, .unset, .unset] [])) _
      refine XS.lload X0.here hx rfl (hb hby at_49) rfl  ?_
      have qms0_51 : ms0_51 = p3 := by rw [hms0_51, if_pos hc42]
      rw [qms0_51] at k
      exact k
    · show Steps p.tables e below (s₁.setTop (mkF m 42 #[.val (.int p0), .val (.long p1), .second, .val (.int p2), .val (.long p3), .second, .val (.int p4), .val (.int ms0_12), .val (.int ms0_26), .val (.int ms0_38), .unset, .unset, .unset, .unset, .unset, .unset, .unset, .unset, .unset, .unset, .unset, .unset] [(.int ms0_26)])) _
      refine XS.ifNo X0.here hx rfl (hb hby at_42) rfl ((if0 _ _).trans (feq hc42).1) ?_
      show Steps p.tables e below (s₁.setTop (mkF m 45 #[.val (.int p0), .val (.long p1), .second, .val (.int p2), .val (.long p3), .second, .val (.int p4), .val (.int ms0_12), .val (.int ms0_26), .val (.int ms0_38), .unset, .unset, .unset, .unset, .unset, .unset, .unset, .unset, .unset, .unset, .unset, .unset] [])) _
      refine XS.lloadN X0.here hx rfl (hb hby at_45) rfl  ?_
      show Steps p.tables e below (s₁.setTop (mkF m 46 #[.val (.int p0), .val (.long p1), .second, .val (.int p2), .val (.long p3), .second, .val (.int p4), .val (.int ms0_12), .val (.int ms0_26), .val (.int ms0_38), .unset, .unset, .unset, .unset, .unset, .unset, .unset, .unset, .unset, .unset, .unset, .unset] [(.long p1)])) _
      refine XS.goto X0.here hx rfl (pc0 := 46) (pc' := 51) rfl (hb hby at_46) (by decide) (by decide) ?_
      have qms0_51 : ms0_51 = p1 := by rw [hms0_51, if_neg hc42]
      rw [qms0_51] at k
      exact k
  have pre9 : ∀ t, Steps p.tables e below (s₁.setTop (mkF m 53 #[.val (.int p0), .val (.long p1), .second, .val (.int p2), .val (.long p3), .second, .val (.int p4), .val (.int ms0_12), .val (.int ms0_26), .val (.int ms0_38), .val (.long ms0_51), .second, .unset, .unset, .unset, .unset, .unset, .unset, .unset, .unset, .unset, .unset] [])) t → Steps p.tables e below (s₁.setTop (entryFrame m #[(.int p0), (.long p1), (.int p2), (.long p3), (.int p4)] maxLocals)) t := by
    intro t k
    refine pre8 t ?_
    show Steps p.tables e below (s₁.setTop (mkF m 51 #[.val (.int p0), .val (.long p1), .second, .val (.int p2), .val (.long p3), .second, .val (.int p4), .val (.int ms0_12), .val (.int ms0_26), .val (.int ms0_38), .unset, .unset, .unset, .unset, .unset, .unset, .unset, .unset, .unset, .unset, .unset, .unset] [(.long ms0_51)])) _
    refine XS.lstore X0.here hx rfl (hb hby at_51) rfl (l' := #[.val (.int p0), .val (.long p1), .second, .val (.int p2), .val (.long p3), .second, .val (.int p4), .val (.int ms0_12), .val (.int ms0_26), .val (.int ms0_38), .val (.long ms0_51), .second, .unset, .unset, .unset, .unset, .unset, .unset, .unset, .unset, .unset, .unset]) rfl ?_
    exact k
  obtain ⟨T10, h10, X10, e10, E10, A10, D10, -, st10⟩ := newO X0 hx hZ hown (hw _ (List.mem_of_getElem? (i := 0) rfl)) (hw _ (List.mem_of_getElem? (i := 1) rfl)) (hw _ (List.mem_of_getElem? (i := 2) rfl)) e0 (g := (mkF m 53 #[.val (.int p0), .val (.long p1), .second, .val (.int p2), .val (.long p3), .second, .val (.int p4), .val (.int ms0_12), .val (.int ms0_26), .val (.int ms0_38), .val (.long ms0_51), .second, .unset, .unset, .unset, .unset, .unset, .unset, .unset, .unset, .unset, .unset] [])) rfl (hb hby at_53) (by decide) (by decide)
  obtain ⟨b10, gb10⟩ : ∃ z, z = h0.size := ⟨_, rfl⟩
  rw [← gb10] at A10 D10 st10
  have ne_ca_b10 : ca ≠ b10 := Nat.ne_of_lt (Nat.lt_of_lt_of_le A_ca.lt (Nat.le_of_eq gb10.symm))
  have sz_b10 : h0.size ≤ b10 := Nat.le_trans K0.1 (Nat.le_of_eq gb10.symm)
  have ge_b10 : n0 ≤ b10 := Nat.le_trans Z0 (Nat.le_of_eq gb10.symm)
  have sta_java_lang_Integer_IntegerCache_high_10 := S_high.ext E10
  have sta_java_lang_Integer_IntegerCache_cache_10 := S_cache.ext E10
  have arr_ca_10 := A_ca.ext E10
  have K10 := K0.ext E10
  have Z10 := Nat.le_trans Z0 E10.1
  have F10_level : Fld Z h10 b10 "com/example/sibyl/sibyl/kernel/Label" "level" "I" (.int (0 : Int32)) := D10 (Or.inr (hw _ (List.mem_of_getElem? (i := 10) rfl))) (ty := .int) (by decide)
  have F10_categories : Fld Z h10 b10 "com/example/sibyl/sibyl/kernel/Label" "categories" "J" (.long (0 : Int64)) := D10 (Or.inr (hw _ (List.mem_of_getElem? (i := 12) rfl))) (ty := .long) (by decide)
  have pre12 : ∀ t, Steps p.tables e below (T10.setTop (mkF m 59 #[.val (.int p0), .val (.long p1), .second, .val (.int p2), .val (.long p3), .second, .val (.int p4), .val (.int ms0_12), .val (.int ms0_26), .val (.int ms0_38), .val (.long ms0_51), .second, .unset, .unset, .unset, .unset, .unset, .unset, .unset, .unset, .unset, .unset] [(.long p1), (.int p0), (.ref b10), (.ref b10)])) t → Steps p.tables e below (s₁.setTop (entryFrame m #[(.int p0), (.long p1), (.int p2), (.long p3), (.int p4)] maxLocals)) t := by
    intro t k
    refine pre9 t ?_
    show Steps p.tables e below (s₁.setTop (mkF m 53 #[.val (.int p0), .val (.long p1), .second, .val (.int p2), .val (.long p3), .second, .val (.int p4), .val (.int ms0_12), .val (.int ms0_26), .val (.int ms0_38), .val (.long ms0_51), .second, .unset, .unset, .unset, .unset, .unset, .unset, .unset, .unset, .unset, .unset] [])) _
    refine st10 _ ?_
    show Steps p.tables e below (T10.setTop (mkF m 56 #[.val (.int p0), .val (.long p1), .second, .val (.int p2), .val (.long p3), .second, .val (.int p4), .val (.int ms0_12), .val (.int ms0_26), .val (.int ms0_38), .val (.long ms0_51), .second, .unset, .unset, .unset, .unset, .unset, .unset, .unset, .unset, .unset, .unset] [(.ref b10)])) _
    refine XS.dup X10.here hx rfl (hb hby at_56) rfl rfl ?_
    show Steps p.tables e below (T10.setTop (mkF m 57 #[.val (.int p0), .val (.long p1), .second, .val (.int p2), .val (.long p3), .second, .val (.int p4), .val (.int ms0_12), .val (.int ms0_26), .val (.int ms0_38), .val (.long ms0_51), .second, .unset, .unset, .unset, .unset, .unset, .unset, .unset, .unset, .unset, .unset] [(.ref b10), (.ref b10)])) _
    refine XS.iloadN X10.here hx rfl (hb hby at_57) rfl  ?_
    show Steps p.tables e below (T10.setTop (mkF m 58 #[.val (.int p0), .val (.long p1), .second, .val (.int p2), .val (.long p3), .second, .val (.int p4), .val (.int ms0_12), .val (.int ms0_26), .val (.int ms0_38), .val (.long ms0_51), .second, .unset, .unset, .unset, .unset, .unset, .unset, .unset, .unset, .unset, .unset] [(.int p0), (.ref b10), (.ref b10)])) _
    refine XS.lloadN X10.here hx rfl (hb hby at_58) rfl  ?_
    exact k
  obtain ⟨_, _, ⟨T11, L11, k11, n11⟩, -, X11, ⟨Lc11, hQ11, l11, y11, z11⟩, st11⟩ := X10.specialBack hx (y := (⟨"com/example/sibyl/sibyl/kernel/Label", "<init>", "(IJ)V"⟩ : MethodName)) rfl hown (mvT hZ (hw _ (List.mem_of_getElem? (i := 3) rfl))) (mvT hZ (hw _ (List.mem_of_getElem? (i := 4) rfl))) (mvT hZ (hw _ (List.mem_of_getElem? (i := 5) rfl))) (by decide) (backOf (W := 1) (rm_1 l Z a0 hw [] b10 p0 p1 h10 n0 Z10 A10 F10_level F10_categories ge_b10) hZ (hw _ (List.mem_of_getElem? (i := 5) rfl)) (hw _ (List.mem_of_getElem? (i := 2) rfl)) (by decide) (by decide)) (g := (mkF m 59 #[.val (.int p0), .val (.long p1), .second, .val (.int p2), .val (.long p3), .second, .val (.int p4), .val (.int ms0_12), .val (.int ms0_26), .val (.int ms0_38), .val (.long ms0_51), .second, .unset, .unset, .unset, .unset, .unset, .unset, .unset, .unset, .unset, .unset] [(.long p1), (.int p0), (.ref b10), (.ref b10)])) rfl (by rw [hml]; rfl) (Steps.refl _) (a := b10) (argsL := [(.int p0), (.long p1)]) (rest := [(.ref b10)]) (lenOf pd_2 rfl) rfl (by show 2 * 0 + _ ≤ _; exact Nat.le_of_eq rfl) (hb hby at_59) (fun _ _ => ⟨rfl, e10, (by decide : 1 + 0 ≤ _), (by decide : 2 + 0 ≤ _)⟩)
  dsimp only [Pt.U, Pt.locs, Pt.cells, Pt.slots] at X11 l11 y11 z11 st11 hQ11
  rw [l11, y11, z11] at X11
  obtain ⟨rfl, N11q, Kc11, Q11_0, Q11_1, Q11_2⟩ := hQ11
  have Kd11 : Keep h10 T11.heap [b10] := Kc11
  have sta_java_lang_Integer_IntegerCache_high_11 := own_sta_keep sta_java_lang_Integer_IntegerCache_high_10 Kd11 (allS (own_E_plain A10) all0)
  have sta_java_lang_Integer_IntegerCache_cache_11 := own_sta_keep sta_java_lang_Integer_IntegerCache_cache_10 Kd11 (allS (own_E_plain A10) all0)
  have arr_ca_11 := arr_ca_10.keep Kd11 (ninS ne_ca_b10 nin0)
  have exa_b10_11 := A10.keep Kd11
  have K11 := K10.trans Kd11 (allS (Or.inr sz_b10) all0)
  have Z11 := Nat.le_trans Z10 Kd11.1
  have N11 := Fr.app N0 N11q
  have pre13 : ∀ t, Steps p.tables e below (T11.setTop (mkF m 64 #[.val (.int p0), .val (.long p1), .second, .val (.int p2), .val (.long p3), .second, .val (.int p4), .val (.int ms0_12), .val (.int ms0_26), .val (.int ms0_38), .val (.long ms0_51), .second, .val (.ref b10), .unset, .unset, .unset, .unset, .unset, .unset, .unset, .unset, .unset] [])) t → Steps p.tables e below (s₁.setTop (entryFrame m #[(.int p0), (.long p1), (.int p2), (.long p3), (.int p4)] maxLocals)) t := by
    intro t k
    refine pre12 t ?_
    show Steps p.tables e below (T10.setTop (mkF m 59 #[.val (.int p0), .val (.long p1), .second, .val (.int p2), .val (.long p3), .second, .val (.int p4), .val (.int ms0_12), .val (.int ms0_26), .val (.int ms0_38), .val (.long ms0_51), .second, .unset, .unset, .unset, .unset, .unset, .unset, .unset, .unset, .unset, .unset] [(.long p1), (.int p0), (.ref b10), (.ref b10)])) _
    refine st11.trans ?_
    show Steps p.tables e below (T11.setTop (mkF m 62 #[.val (.int p0), .val (.long p1), .second, .val (.int p2), .val (.long p3), .second, .val (.int p4), .val (.int ms0_12), .val (.int ms0_26), .val (.int ms0_38), .val (.long ms0_51), .second, .unset, .unset, .unset, .unset, .unset, .unset, .unset, .unset, .unset, .unset] [(.ref b10)])) _
    refine XS.astore X11.here hx rfl (hb hby at_62) rfl rfl (l' := #[.val (.int p0), .val (.long p1), .second, .val (.int p2), .val (.long p3), .second, .val (.int p4), .val (.int ms0_12), .val (.int ms0_26), .val (.int ms0_38), .val (.long ms0_51), .second, .val (.ref b10), .unset, .unset, .unset, .unset, .unset, .unset, .unset, .unset, .unset]) rfl ?_
    exact k
  obtain ⟨T14, h14, X14, e14, E14, A14, D14, -, st14⟩ := newO X11 hx hZ hown (hw _ (List.mem_of_getElem? (i := 0) rfl)) (hw _ (List.mem_of_getElem? (i := 1) rfl)) (hw _ (List.mem_of_getElem? (i := 2) rfl)) rfl (g := (mkF m 64 #[.val (.int p0), .val (.long p1), .second, .val (.int p2), .val (.long p3), .second, .val (.int p4), .val (.int ms0_12), .val (.int ms0_26), .val (.int ms0_38), .val (.long ms0_51), .second, .val (.ref b10), .unset, .unset, .unset, .unset, .unset, .unset, .unset, .unset, .unset] [])) rfl (hb hby at_64) (by decide) (by decide)
  obtain ⟨b14, gb14⟩ : ∃ z, z = T11.heap.size := ⟨_, rfl⟩
  rw [← gb14] at A14 D14 st14
  have ne_ca_b14 : ca ≠ b14 := Nat.ne_of_lt (Nat.lt_of_lt_of_le arr_ca_11.lt (Nat.le_of_eq gb14.symm))
  have ne_b10_b14 : b10 ≠ b14 := Nat.ne_of_lt (Nat.lt_of_lt_of_le Q11_0.lt (Nat.le_of_eq gb14.symm))
  have sz_b14 : h0.size ≤ b14 := Nat.le_trans K11.1 (Nat.le_of_eq gb14.symm)
  have ge_b14 : n0 ≤ b14 := Nat.le_trans Z11 (Nat.le_of_eq gb14.symm)
  have sta_java_lang_Integer_IntegerCache_high_14 := sta_java_lang_Integer_IntegerCache_high_11.ext E14
  have sta_java_lang_Integer_IntegerCache_cache_14 := sta_java_lang_Integer_IntegerCache_cache_11.ext E14
  have arr_ca_14 := arr_ca_11.ext E14
  have exa_b10_14 := Q11_0.ext E14
  have fld_b10_level_14 := Q11_1.ext E14
  have fld_b10_categories_14 := Q11_2.ext E14
  have K14 := K11.ext E14
  have Z14 := Nat.le_trans Z11 E14.1
  have F14_level : Fld Z h14 b14 "com/example/sibyl/sibyl/kernel/Label" "level" "I" (.int (0 : Int32)) := D14 (Or.inr (hw _ (List.mem_of_getElem? (i := 10) rfl))) (ty := .int) (by decide)
  have F14_categories : Fld Z h14 b14 "com/example/sibyl/sibyl/kernel/Label" "categories" "J" (.long (0 : Int64)) := D14 (Or.inr (hw _ (List.mem_of_getElem? (i := 12) rfl))) (ty := .long) (by decide)
  have pre16 : ∀ t, Steps p.tables e below (T14.setTop (mkF m 72 #[.val (.int p0), .val (.long p1), .second, .val (.int p2), .val (.long p3), .second, .val (.int p4), .val (.int ms0_12), .val (.int ms0_26), .val (.int ms0_38), .val (.long ms0_51), .second, .val (.ref b10), .unset, .unset, .unset, .unset, .unset, .unset, .unset, .unset, .unset] [(.long ms0_51), (.int ms0_38), (.ref b14), (.ref b14)])) t → Steps p.tables e below (s₁.setTop (entryFrame m #[(.int p0), (.long p1), (.int p2), (.long p3), (.int p4)] maxLocals)) t := by
    intro t k
    refine pre13 t ?_
    show Steps p.tables e below (T11.setTop (mkF m 64 #[.val (.int p0), .val (.long p1), .second, .val (.int p2), .val (.long p3), .second, .val (.int p4), .val (.int ms0_12), .val (.int ms0_26), .val (.int ms0_38), .val (.long ms0_51), .second, .val (.ref b10), .unset, .unset, .unset, .unset, .unset, .unset, .unset, .unset, .unset] [])) _
    refine st14 _ ?_
    show Steps p.tables e below (T14.setTop (mkF m 67 #[.val (.int p0), .val (.long p1), .second, .val (.int p2), .val (.long p3), .second, .val (.int p4), .val (.int ms0_12), .val (.int ms0_26), .val (.int ms0_38), .val (.long ms0_51), .second, .val (.ref b10), .unset, .unset, .unset, .unset, .unset, .unset, .unset, .unset, .unset] [(.ref b14)])) _
    refine XS.dup X14.here hx rfl (hb hby at_67) rfl rfl ?_
    show Steps p.tables e below (T14.setTop (mkF m 68 #[.val (.int p0), .val (.long p1), .second, .val (.int p2), .val (.long p3), .second, .val (.int p4), .val (.int ms0_12), .val (.int ms0_26), .val (.int ms0_38), .val (.long ms0_51), .second, .val (.ref b10), .unset, .unset, .unset, .unset, .unset, .unset, .unset, .unset, .unset] [(.ref b14), (.ref b14)])) _
    refine XS.iload X14.here hx rfl (hb hby at_68) rfl  ?_
    show Steps p.tables e below (T14.setTop (mkF m 70 #[.val (.int p0), .val (.long p1), .second, .val (.int p2), .val (.long p3), .second, .val (.int p4), .val (.int ms0_12), .val (.int ms0_26), .val (.int ms0_38), .val (.long ms0_51), .second, .val (.ref b10), .unset, .unset, .unset, .unset, .unset, .unset, .unset, .unset, .unset] [(.int ms0_38), (.ref b14), (.ref b14)])) _
    refine XS.lload X14.here hx rfl (hb hby at_70) rfl  ?_
    exact k
  obtain ⟨_, _, ⟨T15, L15, k15, n15⟩, -, X15, ⟨Lc15, hQ15, l15, y15, z15⟩, st15⟩ := X14.specialBack hx (y := (⟨"com/example/sibyl/sibyl/kernel/Label", "<init>", "(IJ)V"⟩ : MethodName)) rfl hown (mvT hZ (hw _ (List.mem_of_getElem? (i := 3) rfl))) (mvT hZ (hw _ (List.mem_of_getElem? (i := 4) rfl))) (mvT hZ (hw _ (List.mem_of_getElem? (i := 5) rfl))) (by decide) (backOf (W := 1) (rm_1 l Z a0 hw [] b14 ms0_38 ms0_51 h14 n0 Z14 A14 F14_level F14_categories ge_b14) hZ (hw _ (List.mem_of_getElem? (i := 5) rfl)) (hw _ (List.mem_of_getElem? (i := 2) rfl)) (by decide) (by decide)) (g := (mkF m 72 #[.val (.int p0), .val (.long p1), .second, .val (.int p2), .val (.long p3), .second, .val (.int p4), .val (.int ms0_12), .val (.int ms0_26), .val (.int ms0_38), .val (.long ms0_51), .second, .val (.ref b10), .unset, .unset, .unset, .unset, .unset, .unset, .unset, .unset, .unset] [(.long ms0_51), (.int ms0_38), (.ref b14), (.ref b14)])) rfl (by rw [hml]; rfl) (Steps.refl _) (a := b14) (argsL := [(.int ms0_38), (.long ms0_51)]) (rest := [(.ref b14)]) (lenOf pd_2 rfl) rfl (by show 2 * 0 + _ ≤ _; exact Nat.le_of_eq rfl) (hb hby at_72) (fun _ _ => ⟨rfl, e14, (by decide : 2 + 0 ≤ _), (by decide : 4 + 0 ≤ _)⟩)
  dsimp only [Pt.U, Pt.locs, Pt.cells, Pt.slots] at X15 l15 y15 z15 st15 hQ15
  rw [l15, y15, z15] at X15
  obtain ⟨rfl, N15q, Kc15, Q15_0, Q15_1, Q15_2⟩ := hQ15
  have Kd15 : Keep h14 T15.heap [b14] := Kc15
  have sta_java_lang_Integer_IntegerCache_high_15 := own_sta_keep sta_java_lang_Integer_IntegerCache_high_14 Kd15 (allS (own_E_plain A14) all0)
  have sta_java_lang_Integer_IntegerCache_cache_15 := own_sta_keep sta_java_lang_Integer_IntegerCache_cache_14 Kd15 (allS (own_E_plain A14) all0)
  have arr_ca_15 := arr_ca_14.keep Kd15 (ninS ne_ca_b14 nin0)
  have exa_b10_15 := exa_b10_14.keep Kd15
  have fld_b10_level_15 := fld_b10_level_14.keep Kd15 (ninS ne_b10_b14 nin0)
  have fld_b10_categories_15 := fld_b10_categories_14.keep Kd15 (ninS ne_b10_b14 nin0)
  have exa_b14_15 := A14.keep Kd15
  have K15 := K14.trans Kd15 (allS (Or.inr sz_b14) all0)
  have Z15 := Nat.le_trans Z14 Kd15.1
  have N15 := Fr.app N11 N15q
  have pre17 : ∀ t, Steps p.tables e below (T15.setTop (mkF m 80 #[.val (.int p0), .val (.long p1), .second, .val (.int p2), .val (.long p3), .second, .val (.int p4), .val (.int ms0_12), .val (.int ms0_26), .val (.int ms0_38), .val (.long ms0_51), .second, .val (.ref b10), .val (.ref b14), .unset, .unset, .unset, .unset, .unset, .unset, .unset, .unset] [(.int p0), (.int ms0_38)])) t → Steps p.tables e below (s₁.setTop (entryFrame m #[(.int p0), (.long p1), (.int p2), (.long p3), (.int p4)] maxLocals)) t := by
    intro t k
    refine pre16 t ?_
    show Steps p.tables e below (T14.setTop (mkF m 72 #[.val (.int p0), .val (.long p1), .second, .val (.int p2), .val (.long p3), .second, .val (.int p4), .val (.int ms0_12), .val (.int ms0_26), .val (.int ms0_38), .val (.long ms0_51), .second, .val (.ref b10), .unset, .unset, .unset, .unset, .unset, .unset, .unset, .unset, .unset] [(.long ms0_51), (.int ms0_38), (.ref b14), (.ref b14)])) _
    refine st15.trans ?_
    show Steps p.tables e below (T15.setTop (mkF m 75 #[.val (.int p0), .val (.long p1), .second, .val (.int p2), .val (.long p3), .second, .val (.int p4), .val (.int ms0_12), .val (.int ms0_26), .val (.int ms0_38), .val (.long ms0_51), .second, .val (.ref b10), .unset, .unset, .unset, .unset, .unset, .unset, .unset, .unset, .unset] [(.ref b14)])) _
    refine XS.astore X15.here hx rfl (hb hby at_75) rfl rfl (l' := #[.val (.int p0), .val (.long p1), .second, .val (.int p2), .val (.long p3), .second, .val (.int p4), .val (.int ms0_12), .val (.int ms0_26), .val (.int ms0_38), .val (.long ms0_51), .second, .val (.ref b10), .val (.ref b14), .unset, .unset, .unset, .unset, .unset, .unset, .unset, .unset]) rfl ?_
    show Steps p.tables e below (T15.setTop (mkF m 77 #[.val (.int p0), .val (.long p1), .second, .val (.int p2), .val (.long p3), .second, .val (.int p4), .val (.int ms0_12), .val (.int ms0_26), .val (.int ms0_38), .val (.long ms0_51), .second, .val (.ref b10), .val (.ref b14), .unset, .unset, .unset, .unset, .unset, .unset, .unset, .unset] [])) _
    refine XS.iload X15.here hx rfl (hb hby at_77) rfl  ?_
    show Steps p.tables e below (T15.setTop (mkF m 79 #[.val (.int p0), .val (.long p1), .second, .val (.int p2), .val (.long p3), .second, .val (.int p4), .val (.int ms0_12), .val (.int ms0_26), .val (.int ms0_38), .val (.long ms0_51), .second, .val (.ref b10), .val (.ref b14), .unset, .unset, .unset, .unset, .unset, .unset, .unset, .unset] [(.int ms0_38)])) _
    refine XS.iloadN X15.here hx rfl (hb hby at_79) rfl  ?_
    exact k
  obtain ⟨ms0_95, hms0_95⟩ : ∃ z : Int32, z = (if ms0_38 = p0 then (if ms0_51 = p1 then (1 : Int32) else (0 : Int32)) else (0 : Int32)) := ⟨_, rfl⟩
  have pre18 : ∀ t, Steps p.tables e below (T15.setTop (mkF m 95 #[.val (.int p0), .val (.long p1), .second, .val (.int p2), .val (.long p3), .second, .val (.int p4), .val (.int ms0_12), .val (.int ms0_26), .val (.int ms0_38), .val (.long ms0_51), .second, .val (.ref b10), .val (.ref b14), .unset, .unset, .unset, .unset, .unset, .unset, .unset, .unset] [(.int ms0_95)])) t → Steps p.tables e below (s₁.setTop (entryFrame m #[(.int p0), (.long p1), (.int p2), (.long p3), (.int p4)] maxLocals)) t := by
    intro t k
    refine pre17 t ?_
    by_cases hc80 : ms0_38 = p0
    · show Steps p.tables e below (T15.setTop (mkF m 80 #[.val (.int p0), .val (.long p1), .second, .val (.int p2), .val (.long p3), .second, .val (.int p4), .val (.int ms0_12), .val (.int ms0_26), .val (.int ms0_38), .val (.long ms0_51), .second, .val (.ref b10), .val (.ref b14), .unset, .unset, .unset, .unset, .unset, .unset, .unset, .unset] [(.int p0), (.int ms0_38)])) _
      refine XS.icmpNo X15.here hx rfl (hb hby at_80) rfl (teq hc80).2 ?_
      show Steps p.tables e below (T15.setTop (mkF m 83 #[.val (.int p0), .val (.long p1), .second, .val (.int p2), .val (.long p3), .second, .val (.int p4), .val (.int ms0_12), .val (.int ms0_26), .val (.int ms0_38), .val (.long ms0_51), .second, .val (.ref b10), .val (.ref b14), .unset, .unset, .unset, .unset, .unset, .unset, .unset, .unset] [])) _
      refine XS.lload X15.here hx rfl (hb hby at_83) rfl  ?_
      show Steps p.tables e below (T15.setTop (mkF m 85 #[.val (.int p0), .val (.long p1), .second, .val (.int p2), .val (.long p3), .second, .val (.int p4), .val (.int ms0_12), .val (.int ms0_26), .val (.int ms0_38), .val (.long ms0_51), .second, .val (.ref b10), .val (.ref b14), .unset, .unset, .unset, .unset, .unset, .unset, .unset, .unset] [(.long ms0_51)])) _
      refine XS.lloadN X15.here hx rfl (hb hby at_85) rfl  ?_
      show Steps p.tables e below (T15.setTop (mkF m 86 #[.val (.int p0), .val (.long p1), .second, .val (.int p2), .val (.long p3), .second, .val (.int p4), .val (.int ms0_12), .val (.int ms0_26), .val (.int ms0_38), .val (.long ms0_51), .second, .val (.ref b10), .val (.ref b14), .unset, .unset, .unset, .unset, .unset, .unset, .unset, .unset] [(.long p1), (.long ms0_51)])) _
      refine XS.lcmp X15.here hx rfl (hb hby at_86) rfl ?_
      by_cases hc87 : ms0_51 = p1
      · show Steps p.tables e below (T15.setTop (mkF m 87 #[.val (.int p0), .val (.long p1), .second, .val (.int p2), .val (.long p3), .second, .val (.int p4), .val (.int ms0_12), .val (.int ms0_26), .val (.int ms0_38), .val (.long ms0_51), .second, .val (.ref b10), .val (.ref b14), .unset, .unset, .unset, .unset, .unset, .unset, .unset, .unset] [(.int (lcmpW ms0_51 p1))])) _
        refine XS.ifNo X15.here hx rfl (hb hby at_87) rfl ((if0 _ _).trans (teq ((lw_eq _ _).mpr hc87)).2) ?_
        show Steps p.tables e below (T15.setTop (mkF m 90 #[.val (.int p0), .val (.long p1), .second, .val (.int p2), .val (.long p3), .second, .val (.int p4), .val (.int ms0_12), .val (.int ms0_26), .val (.int ms0_38), .val (.long ms0_51), .second, .val (.ref b10), .val (.ref b14), .unset, .unset, .unset, .unset, .unset, .unset, .unset, .unset] [])) _
        refine XS.iconst X15.here hx rfl (hb hby at_90) ?_
        show Steps p.tables e below (T15.setTop (mkF m 91 #[.val (.int p0), .val (.long p1), .second, .val (.int p2), .val (.long p3), .second, .val (.int p4), .val (.int ms0_12), .val (.int ms0_26), .val (.int ms0_38), .val (.long ms0_51), .second, .val (.ref b10), .val (.ref b14), .unset, .unset, .unset, .unset, .unset, .unset, .unset, .unset] [(.int (1 : Int32))])) _
        refine XS.goto X15.here hx rfl (pc0 := 91) (pc' := 95) rfl (hb hby at_91) (by decide) (by decide) ?_
        have qms0_95 : ms0_95 = (1 : Int32) := by rw [hms0_95, if_pos hc80, if_pos hc87]
        rw [qms0_95] at k
        exact k
      · show Steps p.tables e below (T15.setTop (mkF m 87 #[.val (.int p0), .val (.long p1), .second, .val (.int p2), .val (.long p3), .second, .val (.int p4), .val (.int ms0_12), .val (.int ms0_26), .val (.int ms0_38), .val (.long ms0_51), .second, .val (.ref b10), .val (.ref b14), .unset, .unset, .unset, .unset, .unset, .unset, .unset, .unset] [(.int (lcmpW ms0_51 p1))])) _
        refine XS.ifYes X15.here hx rfl (pc0 := 87) (pc' := 94) rfl (hb hby at_87) rfl ((if0 _ _).trans (feq (fun q => hc87 ((lw_eq _ _).mp q))).2) (by decide) (by decide) ?_
        show Steps p.tables e below (T15.setTop (mkF m 94 #[.val (.int p0), .val (.long p1), .second, .val (.int p2), .val (.long p3), .second, .val (.int p4), .val (.int ms0_12), .val (.int ms0_26), .val (.int ms0_38), .val (.long ms0_51), .second, .val (.ref b10), .val (.ref b14), .unset, .unset, .unset, .unset, .unset, .unset, .unset, .unset] [])) _
        refine XS.iconst X15.here hx rfl (hb hby at_94) ?_
        have qms0_95 : ms0_95 = (0 : Int32) := by rw [hms0_95, if_pos hc80, if_neg hc87]
        rw [qms0_95] at k
        exact k
    · show Steps p.tables e below (T15.setTop (mkF m 80 #[.val (.int p0), .val (.long p1), .second, .val (.int p2), .val (.long p3), .second, .val (.int p4), .val (.int ms0_12), .val (.int ms0_26), .val (.int ms0_38), .val (.long ms0_51), .second, .val (.ref b10), .val (.ref b14), .unset, .unset, .unset, .unset, .unset, .unset, .unset, .unset] [(.int p0), (.int ms0_38)])) _
      refine XS.icmpYes X15.here hx rfl (pc0 := 80) (pc' := 94) rfl (hb hby at_80) rfl (feq hc80).2 (by decide) (by decide) ?_
      show Steps p.tables e below (T15.setTop (mkF m 94 #[.val (.int p0), .val (.long p1), .second, .val (.int p2), .val (.long p3), .second, .val (.int p4), .val (.int ms0_12), .val (.int ms0_26), .val (.int ms0_38), .val (.long ms0_51), .second, .val (.ref b10), .val (.ref b14), .unset, .unset, .unset, .unset, .unset, .unset, .unset, .unset] [])) _
      refine XS.iconst X15.here hx rfl (hb hby at_94) ?_
      have qms0_95 : ms0_95 = (0 : Int32) := by rw [hms0_95, if_neg hc80]
      rw [qms0_95] at k
      exact k
  have pre19 : ∀ t, Steps p.tables e below (T15.setTop (mkF m 97 #[.val (.int p0), .val (.long p1), .second, .val (.int p2), .val (.long p3), .second, .val (.int p4), .val (.int ms0_12), .val (.int ms0_26), .val (.int ms0_38), .val (.long ms0_51), .second, .val (.ref b10), .val (.ref b14), .val (.int ms0_95), .unset, .unset, .unset, .unset, .unset, .unset, .unset] [])) t → Steps p.tables e below (s₁.setTop (entryFrame m #[(.int p0), (.long p1), (.int p2), (.long p3), (.int p4)] maxLocals)) t := by
    intro t k
    refine pre18 t ?_
    show Steps p.tables e below (T15.setTop (mkF m 95 #[.val (.int p0), .val (.long p1), .second, .val (.int p2), .val (.long p3), .second, .val (.int p4), .val (.int ms0_12), .val (.int ms0_26), .val (.int ms0_38), .val (.long ms0_51), .second, .val (.ref b10), .val (.ref b14), .unset, .unset, .unset, .unset, .unset, .unset, .unset, .unset] [(.int ms0_95)])) _
    refine XS.istore X15.here hx rfl (hb hby at_95) rfl (l' := #[.val (.int p0), .val (.long p1), .second, .val (.int p2), .val (.long p3), .second, .val (.int p4), .val (.int ms0_12), .val (.int ms0_26), .val (.int ms0_38), .val (.long ms0_51), .second, .val (.ref b10), .val (.ref b14), .val (.int ms0_95), .unset, .unset, .unset, .unset, .unset, .unset, .unset]) rfl ?_
    exact k
  by_cases hlo : p0 < (-128 : Int32)
  · have pre21 : ∀ t, Steps p.tables e below (T15.setTop (mkF m 98 #[.val (.int p0), .val (.long p1), .second, .val (.int p2), .val (.long p3), .second, .val (.int p4), .val (.int ms0_12), .val (.int ms0_26), .val (.int ms0_38), .val (.long ms0_51), .second, .val (.ref b10), .val (.ref b14), .val (.int ms0_95), .unset, .unset, .unset, .unset, .unset, .unset, .unset] [(.int p0)])) t → Steps p.tables e below (s₁.setTop (entryFrame m #[(.int p0), (.long p1), (.int p2), (.long p3), (.int p4)] maxLocals)) t := by
      intro t k
      refine pre19 t ?_
      show Steps p.tables e below (T15.setTop (mkF m 97 #[.val (.int p0), .val (.long p1), .second, .val (.int p2), .val (.long p3), .second, .val (.int p4), .val (.int ms0_12), .val (.int ms0_26), .val (.int ms0_38), .val (.long ms0_51), .second, .val (.ref b10), .val (.ref b14), .val (.int ms0_95), .unset, .unset, .unset, .unset, .unset, .unset, .unset] [])) _
      refine XS.iloadN X15.here hx rfl (hb hby at_97) rfl  ?_
      exact k
    obtain ⟨_, _, ⟨T20, L20, k20, n20⟩, -, X20, ⟨Lc20, hQ20, l20, y20, z20⟩, st20⟩ := Jvm.LawKit.callS X15 hx (y := (⟨"java/lang/Integer", "valueOf", "(I)Ljava/lang/Integer;"⟩ : MethodName)) hown (mvT hZ (hw _ (List.mem_of_getElem? (i := 13) rfl))) (mvT hZ (hw _ (List.mem_of_getElem? (i := 14) rfl))) (mvT hZ (hw _ (List.mem_of_getElem? (i := 15) rfl))) (mvT hZ (hw _ (List.mem_of_getElem? (i := 16) rfl))) (by decide) (backOf (W := 0) (rm_3ml l Z a0 hw [] p0 T15.heap n0 Z15 hlo) hZ (hw _ (List.mem_of_getElem? (i := 16) rfl)) (hw _ (List.mem_of_getElem? (i := 15) rfl)) (by decide) (by decide)) (g := (mkF m 98 #[.val (.int p0), .val (.long p1), .second, .val (.int p2), .val (.long p3), .second, .val (.int p4), .val (.int ms0_12), .val (.int ms0_26), .val (.int ms0_38), .val (.long ms0_51), .second, .val (.ref b10), .val (.ref b14), .val (.int ms0_95), .unset, .unset, .unset, .unset, .unset, .unset, .unset] [(.int p0)])) rfl (by rw [hml]; rfl) (argsL := [(.int p0)]) (rest := []) (lenOf pd_3 rfl) rfl (by show 2 * 0 + _ ≤ _; exact Nat.le_of_eq rfl) (hb hby at_98) (fun _ _ => ⟨rfl, rfl, (by decide : 2 + 1 ≤ _), (by decide : 4 + 1 ≤ _)⟩)
    dsimp only [Pt.U, Pt.locs, Pt.cells, Pt.slots] at X20 l20 y20 z20 st20 hQ20
    rw [l20, y20, z20] at X20
    obtain ⟨r_20, rfl, N20q, sz0_r_20, Kc20, Q20_0⟩ := hQ20
    have Kd20 : Keep T15.heap T20.heap [] := Kc20
    have ne_ca_r_20 : ca ≠ r_20 := Nat.ne_of_lt (Nat.lt_of_lt_of_le arr_ca_15.lt sz0_r_20)
    have ne_b10_r_20 : b10 ≠ r_20 := Nat.ne_of_lt (Nat.lt_of_lt_of_le exa_b10_15.lt sz0_r_20)
    have ne_b14_r_20 : b14 ≠ r_20 := Nat.ne_of_lt (Nat.lt_of_lt_of_le Q15_0.lt sz0_r_20)
    have sz_r_20 : h0.size ≤ r_20 := Nat.le_trans K15.1 sz0_r_20
    have ge_r_20 : n0 ≤ r_20 := Nat.le_trans Z15 sz0_r_20
    have sta_java_lang_Integer_IntegerCache_high_20 := own_sta_keep sta_java_lang_Integer_IntegerCache_high_15 Kd20 all0
    have sta_java_lang_Integer_IntegerCache_cache_20 := own_sta_keep sta_java_lang_Integer_IntegerCache_cache_15 Kd20 all0
    have arr_ca_20 := arr_ca_15.keep Kd20 nin0
    have exa_b10_20 := exa_b10_15.keep Kd20
    have fld_b10_level_20 := fld_b10_level_15.keep Kd20 nin0
    have fld_b10_categories_20 := fld_b10_categories_15.keep Kd20 nin0
    have exa_b14_20 := Q15_0.keep Kd20
    have fld_b14_level_20 := Q15_1.keep Kd20 nin0
    have fld_b14_categories_20 := Q15_2.keep Kd20 nin0
    have K20 := K15.trans Kd20 all0
    have Z20 := Nat.le_trans Z15 Kd20.1
    have N20 := Fr.app N15 N20q
    have pre23 : ∀ t, Steps p.tables e below (T20.setTop (mkF m 110 #[.val (.int p0), .val (.long p1), .second, .val (.int p2), .val (.long p3), .second, .val (.int p4), .val (.int ms0_12), .val (.int ms0_26), .val (.int ms0_38), .val (.long ms0_51), .second, .val (.ref b10), .val (.ref b14), .val (.int ms0_95), .val (.ref r_20), .val .null, .unset, .unset, .unset, .unset, .unset] [(.ref b14), (.ref b10)])) t → Steps p.tables e below (s₁.setTop (entryFrame m #[(.int p0), (.long p1), (.int p2), (.long p3), (.int p4)] maxLocals)) t := by
      intro t k
      refine pre21 t ?_
      show Steps p.tables e below (T15.setTop (mkF m 98 #[.val (.int p0), .val (.long p1), .second, .val (.int p2), .val (.long p3), .second, .val (.int p4), .val (.int ms0_12), .val (.int ms0_26), .val (.int ms0_38), .val (.long ms0_51), .second, .val (.ref b10), .val (.ref b14), .val (.int ms0_95), .unset, .unset, .unset, .unset, .unset, .unset, .unset] [(.int p0)])) _
      refine st20 _ ?_
      show Steps p.tables e below (T20.setTop (mkF m 101 #[.val (.int p0), .val (.long p1), .second, .val (.int p2), .val (.long p3), .second, .val (.int p4), .val (.int ms0_12), .val (.int ms0_26), .val (.int ms0_38), .val (.long ms0_51), .second, .val (.ref b10), .val (.ref b14), .val (.int ms0_95), .unset, .unset, .unset, .unset, .unset, .unset, .unset] [(.ref r_20)])) _
      refine XS.astore X20.here hx rfl (hb hby at_101) rfl rfl (l' := #[.val (.int p0), .val (.long p1), .second, .val (.int p2), .val (.long p3), .second, .val (.int p4), .val (.int ms0_12), .val (.int ms0_26), .val (.int ms0_38), .val (.long ms0_51), .second, .val (.ref b10), .val (.ref b14), .val (.int ms0_95), .val (.ref r_20), .unset, .unset, .unset, .unset, .unset, .unset]) rfl ?_
      show Steps p.tables e below (T20.setTop (mkF m 103 #[.val (.int p0), .val (.long p1), .second, .val (.int p2), .val (.long p3), .second, .val (.int p4), .val (.int ms0_12), .val (.int ms0_26), .val (.int ms0_38), .val (.long ms0_51), .second, .val (.ref b10), .val (.ref b14), .val (.int ms0_95), .val (.ref r_20), .unset, .unset, .unset, .unset, .unset, .unset] [])) _
      refine XS.aconstNull X20.here hx rfl (hb hby at_103) ?_
      show Steps p.tables e below (T20.setTop (mkF m 104 #[.val (.int p0), .val (.long p1), .second, .val (.int p2), .val (.long p3), .second, .val (.int p4), .val (.int ms0_12), .val (.int ms0_26), .val (.int ms0_38), .val (.long ms0_51), .second, .val (.ref b10), .val (.ref b14), .val (.int ms0_95), .val (.ref r_20), .unset, .unset, .unset, .unset, .unset, .unset] [.null])) _
      refine XS.astore X20.here hx rfl (hb hby at_104) rfl rfl (l' := #[.val (.int p0), .val (.long p1), .second, .val (.int p2), .val (.long p3), .second, .val (.int p4), .val (.int ms0_12), .val (.int ms0_26), .val (.int ms0_38), .val (.long ms0_51), .second, .val (.ref b10), .val (.ref b14), .val (.int ms0_95), .val (.ref r_20), .val .null, .unset, .unset, .unset, .unset, .unset]) rfl ?_
      show Steps p.tables e below (T20.setTop (mkF m 106 #[.val (.int p0), .val (.long p1), .second, .val (.int p2), .val (.long p3), .second, .val (.int p4), .val (.int ms0_12), .val (.int ms0_26), .val (.int ms0_38), .val (.long ms0_51), .second, .val (.ref b10), .val (.ref b14), .val (.int ms0_95), .val (.ref r_20), .val .null, .unset, .unset, .unset, .unset, .unset] [])) _
      refine XS.aload X20.here hx rfl (hb hby at_106) rfl rfl ?_
      show Steps p.tables e below (T20.setTop (mkF m 108 #[.val (.int p0), .val (.long p1), .second, .val (.int p2), .val (.long p3), .second, .val (.int p4), .val (.int ms0_12), .val (.int ms0_26), .val (.int ms0_38), .val (.long ms0_51), .second, .val (.ref b10), .val (.ref b14), .val (.int ms0_95), .val (.ref r_20), .val .null, .unset, .unset, .unset, .unset, .unset] [(.ref b10)])) _
      refine XS.aload X20.here hx rfl (hb hby at_108) rfl rfl ?_
      exact k
    obtain ⟨cq22, kq22, q22a, q22b, q22c⟩ := isOf hZ rfl exa_b10_20
    obtain ⟨_, _, ⟨T22, L22, k22, n22⟩, -, X22, ⟨Lc22, hQ22, l22, y22, z22⟩, st22⟩ := X20.virtualBack hx (y := (⟨"com/example/sibyl/sibyl/kernel/Label", "equals", "(Ljava/lang/Object;)Z"⟩ : MethodName)) (z := (⟨"com/example/sibyl/sibyl/kernel/Label", "equals", "(Ljava/lang/Object;)Z"⟩ : MethodName)) hown (mvT hZ (hw _ (List.mem_of_getElem? (i := 20) rfl))) (mvT hZ (hw _ (List.mem_of_getElem? (i := 21) rfl))) (notFace_of_selects (args := #[]) (mvT hZ (hw _ (List.mem_of_getElem? (i := 23) rfl)))) (mvT hZ (hw _ (List.mem_of_getElem? (i := 23) rfl))) (mvT hZ (hw _ (List.mem_of_getElem? (i := 22) rfl))) (by decide) (backOf (W := 0) (rm_4o l Z a0 hw [] b10 b14 p0 p1 ms0_38 ms0_51 T20.heap n0 Z20 ne_b10_b14 exa_b14_20 fld_b10_level_20 fld_b10_categories_20 fld_b14_level_20 fld_b14_categories_20) hZ (hw _ (List.mem_of_getElem? (i := 24) rfl)) (hw _ (List.mem_of_getElem? (i := 2) rfl)) (by decide) (by decide)) q22a q22c (g := (mkF m 110 #[.val (.int p0), .val (.long p1), .second, .val (.int p2), .val (.long p3), .second, .val (.int p4), .val (.int ms0_12), .val (.int ms0_26), .val (.int ms0_38), .val (.long ms0_51), .second, .val (.ref b10), .val (.ref b14), .val (.int ms0_95), .val (.ref r_20), .val .null, .unset, .unset, .unset, .unset, .unset] [(.ref b14), (.ref b10)])) rfl (by rw [hml]; rfl) (Steps.refl _) (argsL := [(.ref b14)]) (rest := []) (lenOf pd_4 rfl) rfl (by show 2 * 0 + _ ≤ _; exact Nat.le_of_eq rfl) (hb hby at_110) (fun _ _ => ⟨rfl, rfl, (by decide : 3 + 0 ≤ _), (by decide : 5 + 0 ≤ _)⟩)
    dsimp only [Pt.U, Pt.locs, Pt.cells, Pt.slots] at X22 l22 y22 z22 st22 hQ22
    rw [l22, y22, z22] at X22
    obtain ⟨rfl, N22q, e22⟩ := hQ22
    have N22 := Fr.app N20 N22q
    obtain ⟨v17_113, hv17_113⟩ : ∃ z : Int32, z = (f_4o p0 p1 ms0_38 ms0_51) := ⟨_, rfl⟩
    have pre25 : ∀ t, Steps p.tables e below (T22.setTop (mkF m 119 #[.val (.int p0), .val (.long p1), .second, .val (.int p2), .val (.long p3), .second, .val (.int p4), .val (.int ms0_12), .val (.int ms0_26), .val (.int ms0_38), .val (.long ms0_51), .second, .val (.ref b10), .val (.ref b14), .val (.int ms0_95), .val (.ref r_20), .val .null, .val (.int v17_113), .unset, .unset, .unset, .unset] [(.ref b10), (.ref b14)])) t → Steps p.tables e below (s₁.setTop (entryFrame m #[(.int p0), (.long p1), (.int p2), (.long p3), (.int p4)] maxLocals)) t := by
      intro t k
      refine pre23 t ?_
      show Steps p.tables e below (T20.setTop (mkF m 110 #[.val (.int p0), .val (.long p1), .second, .val (.int p2), .val (.long p3), .second, .val (.int p4), .val (.int ms0_12), .val (.int ms0_26), .val (.int ms0_38), .val (.long ms0_51), .second, .val (.ref b10), .val (.ref b14), .val (.int ms0_95), .val (.ref r_20), .val .null, .unset, .unset, .unset, .unset, .unset] [(.ref b14), (.ref b10)])) _
      refine st22.trans ?_
      show Steps p.tables e below (T22.setTop (mkF m 113 #[.val (.int p0), .val (.long p1), .second, .val (.int p2), .val (.long p3), .second, .val (.int p4), .val (.int ms0_12), .val (.int ms0_26), .val (.int ms0_38), .val (.long ms0_51), .second, .val (.ref b10), .val (.ref b14), .val (.int ms0_95), .val (.ref r_20), .val .null, .unset, .unset, .unset, .unset, .unset] [(.int (f_4o p0 p1 ms0_38 ms0_51))])) _
      refine XS.istore X22.here hx rfl (hb hby at_113) rfl (l' := #[.val (.int p0), .val (.long p1), .second, .val (.int p2), .val (.long p3), .second, .val (.int p4), .val (.int ms0_12), .val (.int ms0_26), .val (.int ms0_38), .val (.long ms0_51), .second, .val (.ref b10), .val (.ref b14), .val (.int ms0_95), .val (.ref r_20), .val .null, .val (.int v17_113), .unset, .unset, .unset, .unset]) (by rw [hv17_113]; rfl) ?_
      show Steps p.tables e below (T22.setTop (mkF m 115 #[.val (.int p0), .val (.long p1), .second, .val (.int p2), .val (.long p3), .second, .val (.int p4), .val (.int ms0_12), .val (.int ms0_26), .val (.int ms0_38), .val (.long ms0_51), .second, .val (.ref b10), .val (.ref b14), .val (.int ms0_95), .val (.ref r_20), .val .null, .val (.int v17_113), .unset, .unset, .unset, .unset] [])) _
      refine XS.aload X22.here hx rfl (hb hby at_115) rfl rfl ?_
      show Steps p.tables e below (T22.setTop (mkF m 117 #[.val (.int p0), .val (.long p1), .second, .val (.int p2), .val (.long p3), .second, .val (.int p4), .val (.int ms0_12), .val (.int ms0_26), .val (.int ms0_38), .val (.long ms0_51), .second, .val (.ref b10), .val (.ref b14), .val (.int ms0_95), .val (.ref r_20), .val .null, .val (.int v17_113), .unset, .unset, .unset, .unset] [(.ref b14)])) _
      refine XS.aload X22.here hx rfl (hb hby at_117) rfl rfl ?_
      exact k
    obtain ⟨cq24, kq24, q24a, q24b, q24c⟩ := isOf hZ e22 exa_b14_20
    obtain ⟨_, _, ⟨T24, L24, k24, n24⟩, -, X24, ⟨Lc24, hQ24, l24, y24, z24⟩, st24⟩ := X22.virtualBack hx (y := (⟨"com/example/sibyl/sibyl/kernel/Label", "equals", "(Ljava/lang/Object;)Z"⟩ : MethodName)) (z := (⟨"com/example/sibyl/sibyl/kernel/Label", "equals", "(Ljava/lang/Object;)Z"⟩ : MethodName)) hown (mvT hZ (hw _ (List.mem_of_getElem? (i := 20) rfl))) (mvT hZ (hw _ (List.mem_of_getElem? (i := 21) rfl))) (notFace_of_selects (args := #[]) (mvT hZ (hw _ (List.mem_of_getElem? (i := 23) rfl)))) (mvT hZ (hw _ (List.mem_of_getElem? (i := 23) rfl))) (mvT hZ (hw _ (List.mem_of_getElem? (i := 22) rfl))) (by decide) (backOf (W := 0) (rm_4o l Z a0 hw [] b14 b10 ms0_38 ms0_51 p0 p1 T20.heap n0 Z20 ne_b10_b14.symm exa_b10_20 fld_b14_level_20 fld_b14_categories_20 fld_b10_level_20 fld_b10_categories_20) hZ (hw _ (List.mem_of_getElem? (i := 24) rfl)) (hw _ (List.mem_of_getElem? (i := 2) rfl)) (by decide) (by decide)) q24a q24c (g := (mkF m 119 #[.val (.int p0), .val (.long p1), .second, .val (.int p2), .val (.long p3), .second, .val (.int p4), .val (.int ms0_12), .val (.int ms0_26), .val (.int ms0_38), .val (.long ms0_51), .second, .val (.ref b10), .val (.ref b14), .val (.int ms0_95), .val (.ref r_20), .val .null, .val (.int v17_113), .unset, .unset, .unset, .unset] [(.ref b10), (.ref b14)])) rfl (by rw [hml]; rfl) (Steps.refl _) (argsL := [(.ref b10)]) (rest := []) (lenOf pd_4 rfl) rfl (by show 2 * 0 + _ ≤ _; exact Nat.le_of_eq rfl) (hb hby at_119) (fun _ _ => ⟨rfl, e22, (by decide : 3 + 0 ≤ _), (by decide : 5 + 0 ≤ _)⟩)
    dsimp only [Pt.U, Pt.locs, Pt.cells, Pt.slots] at X24 l24 y24 z24 st24 hQ24
    rw [l24, y24, z24] at X24
    obtain ⟨rfl, N24q, e24⟩ := hQ24
    have N24 := Fr.app N22 N24q
    obtain ⟨v18_122, hv18_122⟩ : ∃ z : Int32, z = (f_4o ms0_38 ms0_51 p0 p1) := ⟨_, rfl⟩
    have pre27 : ∀ t, Steps p.tables e below (T24.setTop (mkF m 128 #[.val (.int p0), .val (.long p1), .second, .val (.int p2), .val (.long p3), .second, .val (.int p4), .val (.int ms0_12), .val (.int ms0_26), .val (.int ms0_38), .val (.long ms0_51), .second, .val (.ref b10), .val (.ref b14), .val (.int ms0_95), .val (.ref r_20), .val .null, .val (.int v17_113), .val (.int v18_122), .unset, .unset, .unset] [(.ref b10), (.ref b10)])) t → Steps p.tables e below (s₁.setTop (entryFrame m #[(.int p0), (.long p1), (.int p2), (.long p3), (.int p4)] maxLocals)) t := by
      intro t k
      refine pre25 t ?_
      show Steps p.tables e below (T22.setTop (mkF m 119 #[.val (.int p0), .val (.long p1), .second, .val (.int p2), .val (.long p3), .second, .val (.int p4), .val (.int ms0_12), .val (.int ms0_26), .val (.int ms0_38), .val (.long ms0_51), .second, .val (.ref b10), .val (.ref b14), .val (.int ms0_95), .val (.ref r_20), .val .null, .val (.int v17_113), .unset, .unset, .unset, .unset] [(.ref b10), (.ref b14)])) _
      refine st24.trans ?_
      show Steps p.tables e below (T24.setTop (mkF m 122 #[.val (.int p0), .val (.long p1), .second, .val (.int p2), .val (.long p3), .second, .val (.int p4), .val (.int ms0_12), .val (.int ms0_26), .val (.int ms0_38), .val (.long ms0_51), .second, .val (.ref b10), .val (.ref b14), .val (.int ms0_95), .val (.ref r_20), .val .null, .val (.int v17_113), .unset, .unset, .unset, .unset] [(.int (f_4o ms0_38 ms0_51 p0 p1))])) _
      refine XS.istore X24.here hx rfl (hb hby at_122) rfl (l' := #[.val (.int p0), .val (.long p1), .second, .val (.int p2), .val (.long p3), .second, .val (.int p4), .val (.int ms0_12), .val (.int ms0_26), .val (.int ms0_38), .val (.long ms0_51), .second, .val (.ref b10), .val (.ref b14), .val (.int ms0_95), .val (.ref r_20), .val .null, .val (.int v17_113), .val (.int v18_122), .unset, .unset, .unset]) (by rw [hv18_122]; rfl) ?_
      show Steps p.tables e below (T24.setTop (mkF m 124 #[.val (.int p0), .val (.long p1), .second, .val (.int p2), .val (.long p3), .second, .val (.int p4), .val (.int ms0_12), .val (.int ms0_26), .val (.int ms0_38), .val (.long ms0_51), .second, .val (.ref b10), .val (.ref b14), .val (.int ms0_95), .val (.ref r_20), .val .null, .val (.int v17_113), .val (.int v18_122), .unset, .unset, .unset] [])) _
      refine XS.aload X24.here hx rfl (hb hby at_124) rfl rfl ?_
      show Steps p.tables e below (T24.setTop (mkF m 126 #[.val (.int p0), .val (.long p1), .second, .val (.int p2), .val (.long p3), .second, .val (.int p4), .val (.int ms0_12), .val (.int ms0_26), .val (.int ms0_38), .val (.long ms0_51), .second, .val (.ref b10), .val (.ref b14), .val (.int ms0_95), .val (.ref r_20), .val .null, .val (.int v17_113), .val (.int v18_122), .unset, .unset, .unset] [(.ref b10)])) _
      refine XS.aload X24.here hx rfl (hb hby at_126) rfl rfl ?_
      exact k
    obtain ⟨cq26, kq26, q26a, q26b, q26c⟩ := isOf hZ e24 exa_b10_20
    obtain ⟨_, _, ⟨T26, L26, k26, n26⟩, -, X26, ⟨Lc26, hQ26, l26, y26, z26⟩, st26⟩ := X24.virtualBack hx (y := (⟨"com/example/sibyl/sibyl/kernel/Label", "equals", "(Ljava/lang/Object;)Z"⟩ : MethodName)) (z := (⟨"com/example/sibyl/sibyl/kernel/Label", "equals", "(Ljava/lang/Object;)Z"⟩ : MethodName)) hown (mvT hZ (hw _ (List.mem_of_getElem? (i := 20) rfl))) (mvT hZ (hw _ (List.mem_of_getElem? (i := 21) rfl))) (notFace_of_selects (args := #[]) (mvT hZ (hw _ (List.mem_of_getElem? (i := 23) rfl)))) (mvT hZ (hw _ (List.mem_of_getElem? (i := 23) rfl))) (mvT hZ (hw _ (List.mem_of_getElem? (i := 22) rfl))) (by decide) (backOf (W := 0) (rm_4s l Z a0 hw [] b10 T20.heap n0 Z20 ) hZ (hw _ (List.mem_of_getElem? (i := 24) rfl)) (hw _ (List.mem_of_getElem? (i := 2) rfl)) (by decide) (by decide)) q26a q26c (g := (mkF m 128 #[.val (.int p0), .val (.long p1), .second, .val (.int p2), .val (.long p3), .second, .val (.int p4), .val (.int ms0_12), .val (.int ms0_26), .val (.int ms0_38), .val (.long ms0_51), .second, .val (.ref b10), .val (.ref b14), .val (.int ms0_95), .val (.ref r_20), .val .null, .val (.int v17_113), .val (.int v18_122), .unset, .unset, .unset] [(.ref b10), (.ref b10)])) rfl (by rw [hml]; rfl) (Steps.refl _) (argsL := [(.ref b10)]) (rest := []) (lenOf pd_4 rfl) rfl (by show 2 * 0 + _ ≤ _; exact Nat.le_of_eq rfl) (hb hby at_128) (fun _ _ => ⟨rfl, e24, (by decide : 3 + 0 ≤ _), (by decide : 5 + 0 ≤ _)⟩)
    dsimp only [Pt.U, Pt.locs, Pt.cells, Pt.slots] at X26 l26 y26 z26 st26 hQ26
    rw [l26, y26, z26] at X26
    obtain ⟨rfl, N26q, e26⟩ := hQ26
    have N26 := Fr.app N24 N26q
    have pre29 : ∀ t, Steps p.tables e below (T26.setTop (mkF m 137 #[.val (.int p0), .val (.long p1), .second, .val (.int p2), .val (.long p3), .second, .val (.int p4), .val (.int ms0_12), .val (.int ms0_26), .val (.int ms0_38), .val (.long ms0_51), .second, .val (.ref b10), .val (.ref b14), .val (.int ms0_95), .val (.ref r_20), .val .null, .val (.int v17_113), .val (.int v18_122), .val (.int f_4s), .unset, .unset] [.null, (.ref b10)])) t → Steps p.tables e below (s₁.setTop (entryFrame m #[(.int p0), (.long p1), (.int p2), (.long p3), (.int p4)] maxLocals)) t := by
      intro t k
      refine pre27 t ?_
      show Steps p.tables e below (T24.setTop (mkF m 128 #[.val (.int p0), .val (.long p1), .second, .val (.int p2), .val (.long p3), .second, .val (.int p4), .val (.int ms0_12), .val (.int ms0_26), .val (.int ms0_38), .val (.long ms0_51), .second, .val (.ref b10), .val (.ref b14), .val (.int ms0_95), .val (.ref r_20), .val .null, .val (.int v17_113), .val (.int v18_122), .unset, .unset, .unset] [(.ref b10), (.ref b10)])) _
      refine st26.trans ?_
      show Steps p.tables e below (T26.setTop (mkF m 131 #[.val (.int p0), .val (.long p1), .second, .val (.int p2), .val (.long p3), .second, .val (.int p4), .val (.int ms0_12), .val (.int ms0_26), .val (.int ms0_38), .val (.long ms0_51), .second, .val (.ref b10), .val (.ref b14), .val (.int ms0_95), .val (.ref r_20), .val .null, .val (.int v17_113), .val (.int v18_122), .unset, .unset, .unset] [(.int f_4s)])) _
      refine XS.istore X26.here hx rfl (hb hby at_131) rfl (l' := #[.val (.int p0), .val (.long p1), .second, .val (.int p2), .val (.long p3), .second, .val (.int p4), .val (.int ms0_12), .val (.int ms0_26), .val (.int ms0_38), .val (.long ms0_51), .second, .val (.ref b10), .val (.ref b14), .val (.int ms0_95), .val (.ref r_20), .val .null, .val (.int v17_113), .val (.int v18_122), .val (.int f_4s), .unset, .unset]) rfl ?_
      show Steps p.tables e below (T26.setTop (mkF m 133 #[.val (.int p0), .val (.long p1), .second, .val (.int p2), .val (.long p3), .second, .val (.int p4), .val (.int ms0_12), .val (.int ms0_26), .val (.int ms0_38), .val (.long ms0_51), .second, .val (.ref b10), .val (.ref b14), .val (.int ms0_95), .val (.ref r_20), .val .null, .val (.int v17_113), .val (.int v18_122), .val (.int f_4s), .unset, .unset] [])) _
      refine XS.aload X26.here hx rfl (hb hby at_133) rfl rfl ?_
      show Steps p.tables e below (T26.setTop (mkF m 135 #[.val (.int p0), .val (.long p1), .second, .val (.int p2), .val (.long p3), .second, .val (.int p4), .val (.int ms0_12), .val (.int ms0_26), .val (.int ms0_38), .val (.long ms0_51), .second, .val (.ref b10), .val (.ref b14), .val (.int ms0_95), .val (.ref r_20), .val .null, .val (.int v17_113), .val (.int v18_122), .val (.int f_4s), .unset, .unset] [(.ref b10)])) _
      refine XS.aload X26.here hx rfl (hb hby at_135) rfl rfl ?_
      exact k
    obtain ⟨cq28, kq28, q28a, q28b, q28c⟩ := isOf hZ e26 exa_b10_20
    obtain ⟨_, _, ⟨T28, L28, k28, n28⟩, -, X28, ⟨Lc28, hQ28, l28, y28, z28⟩, st28⟩ := X26.virtualBack hx (y := (⟨"com/example/sibyl/sibyl/kernel/Label", "equals", "(Ljava/lang/Object;)Z"⟩ : MethodName)) (z := (⟨"com/example/sibyl/sibyl/kernel/Label", "equals", "(Ljava/lang/Object;)Z"⟩ : MethodName)) hown (mvT hZ (hw _ (List.mem_of_getElem? (i := 20) rfl))) (mvT hZ (hw _ (List.mem_of_getElem? (i := 21) rfl))) (notFace_of_selects (args := #[]) (mvT hZ (hw _ (List.mem_of_getElem? (i := 23) rfl)))) (mvT hZ (hw _ (List.mem_of_getElem? (i := 23) rfl))) (mvT hZ (hw _ (List.mem_of_getElem? (i := 22) rfl))) (by decide) (backOf (W := 0) (rm_4n l Z a0 hw [] b10 T20.heap n0 Z20 ) hZ (hw _ (List.mem_of_getElem? (i := 24) rfl)) (hw _ (List.mem_of_getElem? (i := 2) rfl)) (by decide) (by decide)) q28a q28c (g := (mkF m 137 #[.val (.int p0), .val (.long p1), .second, .val (.int p2), .val (.long p3), .second, .val (.int p4), .val (.int ms0_12), .val (.int ms0_26), .val (.int ms0_38), .val (.long ms0_51), .second, .val (.ref b10), .val (.ref b14), .val (.int ms0_95), .val (.ref r_20), .val .null, .val (.int v17_113), .val (.int v18_122), .val (.int f_4s), .unset, .unset] [.null, (.ref b10)])) rfl (by rw [hml]; rfl) (Steps.refl _) (argsL := [.null]) (rest := []) (lenOf pd_4 rfl) rfl (by show 2 * 0 + _ ≤ _; exact Nat.le_of_eq rfl) (hb hby at_137) (fun _ _ => ⟨rfl, e26, (by decide : 3 + 0 ≤ _), (by decide : 5 + 0 ≤ _)⟩)
    dsimp only [Pt.U, Pt.locs, Pt.cells, Pt.slots] at X28 l28 y28 z28 st28 hQ28
    rw [l28, y28, z28] at X28
    obtain ⟨rfl, N28q, e28⟩ := hQ28
    have N28 := Fr.app N26 N28q
    have pre31 : ∀ t, Steps p.tables e below (T28.setTop (mkF m 146 #[.val (.int p0), .val (.long p1), .second, .val (.int p2), .val (.long p3), .second, .val (.int p4), .val (.int ms0_12), .val (.int ms0_26), .val (.int ms0_38), .val (.long ms0_51), .second, .val (.ref b10), .val (.ref b14), .val (.int ms0_95), .val (.ref r_20), .val .null, .val (.int v17_113), .val (.int v18_122), .val (.int f_4s), .val (.int f_4n), .unset] [(.ref r_20), (.ref b10)])) t → Steps p.tables e below (s₁.setTop (entryFrame m #[(.int p0), (.long p1), (.int p2), (.long p3), (.int p4)] maxLocals)) t := by
      intro t k
      refine pre29 t ?_
      show Steps p.tables e below (T26.setTop (mkF m 137 #[.val (.int p0), .val (.long p1), .second, .val (.int p2), .val (.long p3), .second, .val (.int p4), .val (.int ms0_12), .val (.int ms0_26), .val (.int ms0_38), .val (.long ms0_51), .second, .val (.ref b10), .val (.ref b14), .val (.int ms0_95), .val (.ref r_20), .val .null, .val (.int v17_113), .val (.int v18_122), .val (.int f_4s), .unset, .unset] [.null, (.ref b10)])) _
      refine st28.trans ?_
      show Steps p.tables e below (T28.setTop (mkF m 140 #[.val (.int p0), .val (.long p1), .second, .val (.int p2), .val (.long p3), .second, .val (.int p4), .val (.int ms0_12), .val (.int ms0_26), .val (.int ms0_38), .val (.long ms0_51), .second, .val (.ref b10), .val (.ref b14), .val (.int ms0_95), .val (.ref r_20), .val .null, .val (.int v17_113), .val (.int v18_122), .val (.int f_4s), .unset, .unset] [(.int f_4n)])) _
      refine XS.istore X28.here hx rfl (hb hby at_140) rfl (l' := #[.val (.int p0), .val (.long p1), .second, .val (.int p2), .val (.long p3), .second, .val (.int p4), .val (.int ms0_12), .val (.int ms0_26), .val (.int ms0_38), .val (.long ms0_51), .second, .val (.ref b10), .val (.ref b14), .val (.int ms0_95), .val (.ref r_20), .val .null, .val (.int v17_113), .val (.int v18_122), .val (.int f_4s), .val (.int f_4n), .unset]) rfl ?_
      show Steps p.tables e below (T28.setTop (mkF m 142 #[.val (.int p0), .val (.long p1), .second, .val (.int p2), .val (.long p3), .second, .val (.int p4), .val (.int ms0_12), .val (.int ms0_26), .val (.int ms0_38), .val (.long ms0_51), .second, .val (.ref b10), .val (.ref b14), .val (.int ms0_95), .val (.ref r_20), .val .null, .val (.int v17_113), .val (.int v18_122), .val (.int f_4s), .val (.int f_4n), .unset] [])) _
      refine XS.aload X28.here hx rfl (hb hby at_142) rfl rfl ?_
      show Steps p.tables e below (T28.setTop (mkF m 144 #[.val (.int p0), .val (.long p1), .second, .val (.int p2), .val (.long p3), .second, .val (.int p4), .val (.int ms0_12), .val (.int ms0_26), .val (.int ms0_38), .val (.long ms0_51), .second, .val (.ref b10), .val (.ref b14), .val (.int ms0_95), .val (.ref r_20), .val .null, .val (.int v17_113), .val (.int v18_122), .val (.int f_4s), .val (.int f_4n), .unset] [(.ref b10)])) _
      refine XS.aload X28.here hx rfl (hb hby at_144) rfl rfl ?_
      exact k
    obtain ⟨cq30, kq30, q30a, q30b, q30c⟩ := isOf hZ e28 exa_b10_20
    obtain ⟨_, _, ⟨T30, L30, k30, n30⟩, -, X30, ⟨Lc30, hQ30, l30, y30, z30⟩, st30⟩ := X28.virtualBack hx (y := (⟨"com/example/sibyl/sibyl/kernel/Label", "equals", "(Ljava/lang/Object;)Z"⟩ : MethodName)) (z := (⟨"com/example/sibyl/sibyl/kernel/Label", "equals", "(Ljava/lang/Object;)Z"⟩ : MethodName)) hown (mvT hZ (hw _ (List.mem_of_getElem? (i := 20) rfl))) (mvT hZ (hw _ (List.mem_of_getElem? (i := 21) rfl))) (notFace_of_selects (args := #[]) (mvT hZ (hw _ (List.mem_of_getElem? (i := 23) rfl)))) (mvT hZ (hw _ (List.mem_of_getElem? (i := 23) rfl))) (mvT hZ (hw _ (List.mem_of_getElem? (i := 22) rfl))) (by decide) (backOf (W := 0) (rm_4l l Z a0 hw [] b10 r_20 T20.heap n0 Z20 ne_b10_r_20 Q20_0) hZ (hw _ (List.mem_of_getElem? (i := 24) rfl)) (hw _ (List.mem_of_getElem? (i := 2) rfl)) (by decide) (by decide)) q30a q30c (g := (mkF m 146 #[.val (.int p0), .val (.long p1), .second, .val (.int p2), .val (.long p3), .second, .val (.int p4), .val (.int ms0_12), .val (.int ms0_26), .val (.int ms0_38), .val (.long ms0_51), .second, .val (.ref b10), .val (.ref b14), .val (.int ms0_95), .val (.ref r_20), .val .null, .val (.int v17_113), .val (.int v18_122), .val (.int f_4s), .val (.int f_4n), .unset] [(.ref r_20), (.ref b10)])) rfl (by rw [hml]; rfl) (Steps.refl _) (argsL := [(.ref r_20)]) (rest := []) (lenOf pd_4 rfl) rfl (by show 2 * 0 + _ ≤ _; exact Nat.le_of_eq rfl) (hb hby at_146) (fun _ _ => ⟨rfl, e28, (by decide : 3 + 0 ≤ _), (by decide : 5 + 0 ≤ _)⟩)
    dsimp only [Pt.U, Pt.locs, Pt.cells, Pt.slots] at X30 l30 y30 z30 st30 hQ30
    rw [l30, y30, z30] at X30
    obtain ⟨rfl, N30q, e30⟩ := hQ30
    have N30 := Fr.app N28 N30q
    have pre32 : ∀ t, Steps p.tables e below (T30.setTop (mkF m 155 #[.val (.int p0), .val (.long p1), .second, .val (.int p2), .val (.long p3), .second, .val (.int p4), .val (.int ms0_12), .val (.int ms0_26), .val (.int ms0_38), .val (.long ms0_51), .second, .val (.ref b10), .val (.ref b14), .val (.int ms0_95), .val (.ref r_20), .val .null, .val (.int v17_113), .val (.int v18_122), .val (.int f_4s), .val (.int f_4n), .val (.int f_4l)] [(.int ms0_95), (.int v17_113)])) t → Steps p.tables e below (s₁.setTop (entryFrame m #[(.int p0), (.long p1), (.int p2), (.long p3), (.int p4)] maxLocals)) t := by
      intro t k
      refine pre31 t ?_
      show Steps p.tables e below (T28.setTop (mkF m 146 #[.val (.int p0), .val (.long p1), .second, .val (.int p2), .val (.long p3), .second, .val (.int p4), .val (.int ms0_12), .val (.int ms0_26), .val (.int ms0_38), .val (.long ms0_51), .second, .val (.ref b10), .val (.ref b14), .val (.int ms0_95), .val (.ref r_20), .val .null, .val (.int v17_113), .val (.int v18_122), .val (.int f_4s), .val (.int f_4n), .unset] [(.ref r_20), (.ref b10)])) _
      refine st30.trans ?_
      show Steps p.tables e below (T30.setTop (mkF m 149 #[.val (.int p0), .val (.long p1), .second, .val (.int p2), .val (.long p3), .second, .val (.int p4), .val (.int ms0_12), .val (.int ms0_26), .val (.int ms0_38), .val (.long ms0_51), .second, .val (.ref b10), .val (.ref b14), .val (.int ms0_95), .val (.ref r_20), .val .null, .val (.int v17_113), .val (.int v18_122), .val (.int f_4s), .val (.int f_4n), .unset] [(.int f_4l)])) _
      refine XS.istore X30.here hx rfl (hb hby at_149) rfl (l' := #[.val (.int p0), .val (.long p1), .second, .val (.int p2), .val (.long p3), .second, .val (.int p4), .val (.int ms0_12), .val (.int ms0_26), .val (.int ms0_38), .val (.long ms0_51), .second, .val (.ref b10), .val (.ref b14), .val (.int ms0_95), .val (.ref r_20), .val .null, .val (.int v17_113), .val (.int v18_122), .val (.int f_4s), .val (.int f_4n), .val (.int f_4l)]) rfl ?_
      show Steps p.tables e below (T30.setTop (mkF m 151 #[.val (.int p0), .val (.long p1), .second, .val (.int p2), .val (.long p3), .second, .val (.int p4), .val (.int ms0_12), .val (.int ms0_26), .val (.int ms0_38), .val (.long ms0_51), .second, .val (.ref b10), .val (.ref b14), .val (.int ms0_95), .val (.ref r_20), .val .null, .val (.int v17_113), .val (.int v18_122), .val (.int f_4s), .val (.int f_4n), .val (.int f_4l)] [])) _
      refine XS.iload X30.here hx rfl (hb hby at_151) rfl  ?_
      show Steps p.tables e below (T30.setTop (mkF m 153 #[.val (.int p0), .val (.long p1), .second, .val (.int p2), .val (.long p3), .second, .val (.int p4), .val (.int ms0_12), .val (.int ms0_26), .val (.int ms0_38), .val (.long ms0_51), .second, .val (.ref b10), .val (.ref b14), .val (.int ms0_95), .val (.ref r_20), .val .null, .val (.int v17_113), .val (.int v18_122), .val (.int f_4s), .val (.int f_4n), .val (.int f_4l)] [(.int v17_113)])) _
      refine XS.iload X30.here hx rfl (hb hby at_153) rfl  ?_
      exact k
    obtain ⟨ms0_185, hms0_185⟩ : ∃ z : Int32, z = (if v17_113 = ms0_95 then (if v18_122 = ms0_95 then (if f_4s = (0 : Int32) then (0 : Int32) else (if f_4n = (0 : Int32) then (if f_4l = (0 : Int32) then (1 : Int32) else (0 : Int32)) else (0 : Int32))) else (0 : Int32)) else (0 : Int32)) := ⟨_, rfl⟩
    have pre33 : ∀ t, Steps p.tables e below (T30.setTop (mkF m 185 #[.val (.int p0), .val (.long p1), .second, .val (.int p2), .val (.long p3), .second, .val (.int p4), .val (.int ms0_12), .val (.int ms0_26), .val (.int ms0_38), .val (.long ms0_51), .second, .val (.ref b10), .val (.ref b14), .val (.int ms0_95), .val (.ref r_20), .val .null, .val (.int v17_113), .val (.int v18_122), .val (.int f_4s), .val (.int f_4n), .val (.int f_4l)] [(.int ms0_185)])) t → Steps p.tables e below (s₁.setTop (entryFrame m #[(.int p0), (.long p1), (.int p2), (.long p3), (.int p4)] maxLocals)) t := by
      intro t k
      refine pre32 t ?_
      by_cases hc155 : v17_113 = ms0_95
      · show Steps p.tables e below (T30.setTop (mkF m 155 #[.val (.int p0), .val (.long p1), .second, .val (.int p2), .val (.long p3), .second, .val (.int p4), .val (.int ms0_12), .val (.int ms0_26), .val (.int ms0_38), .val (.long ms0_51), .second, .val (.ref b10), .val (.ref b14), .val (.int ms0_95), .val (.ref r_20), .val .null, .val (.int v17_113), .val (.int v18_122), .val (.int f_4s), .val (.int f_4n), .val (.int f_4l)] [(.int ms0_95), (.int v17_113)])) _
        refine XS.icmpNo X30.here hx rfl (hb hby at_155) rfl (teq hc155).2 ?_
        show Steps p.tables e below (T30.setTop (mkF m 158 #[.val (.int p0), .val (.long p1), .second, .val (.int p2), .val (.long p3), .second, .val (.int p4), .val (.int ms0_12), .val (.int ms0_26), .val (.int ms0_38), .val (.long ms0_51), .second, .val (.ref b10), .val (.ref b14), .val (.int ms0_95), .val (.ref r_20), .val .null, .val (.int v17_113), .val (.int v18_122), .val (.int f_4s), .val (.int f_4n), .val (.int f_4l)] [])) _
        refine XS.iload X30.here hx rfl (hb hby at_158) rfl  ?_
        show Steps p.tables e below (T30.setTop (mkF m 160 #[.val (.int p0), .val (.long p1), .second, .val (.int p2), .val (.long p3), .second, .val (.int p4), .val (.int ms0_12), .val (.int ms0_26), .val (.int ms0_38), .val (.long ms0_51), .second, .val (.ref b10), .val (.ref b14), .val (.int ms0_95), .val (.ref r_20), .val .null, .val (.int v17_113), .val (.int v18_122), .val (.int f_4s), .val (.int f_4n), .val (.int f_4l)] [(.int v18_122)])) _
        refine XS.iload X30.here hx rfl (hb hby at_160) rfl  ?_
        by_cases hc162 : v18_122 = ms0_95
        · show Steps p.tables e below (T30.setTop (mkF m 162 #[.val (.int p0), .val (.long p1), .second, .val (.int p2), .val (.long p3), .second, .val (.int p4), .val (.int ms0_12), .val (.int ms0_26), .val (.int ms0_38), .val (.long ms0_51), .second, .val (.ref b10), .val (.ref b14), .val (.int ms0_95), .val (.ref r_20), .val .null, .val (.int v17_113), .val (.int v18_122), .val (.int f_4s), .val (.int f_4n), .val (.int f_4l)] [(.int ms0_95), (.int v18_122)])) _
          refine XS.icmpNo X30.here hx rfl (hb hby at_162) rfl (teq hc162).2 ?_
          show Steps p.tables e below (T30.setTop (mkF m 165 #[.val (.int p0), .val (.long p1), .second, .val (.int p2), .val (.long p3), .second, .val (.int p4), .val (.int ms0_12), .val (.int ms0_26), .val (.int ms0_38), .val (.long ms0_51), .second, .val (.ref b10), .val (.ref b14), .val (.int ms0_95), .val (.ref r_20), .val .null, .val (.int v17_113), .val (.int v18_122), .val (.int f_4s), .val (.int f_4n), .val (.int f_4l)] [])) _
          refine XS.iload X30.here hx rfl (hb hby at_165) rfl  ?_
          by_cases hc167 : f_4s = (0 : Int32)
          · show Steps p.tables e below (T30.setTop (mkF m 167 #[.val (.int p0), .val (.long p1), .second, .val (.int p2), .val (.long p3), .second, .val (.int p4), .val (.int ms0_12), .val (.int ms0_26), .val (.int ms0_38), .val (.long ms0_51), .second, .val (.ref b10), .val (.ref b14), .val (.int ms0_95), .val (.ref r_20), .val .null, .val (.int v17_113), .val (.int v18_122), .val (.int f_4s), .val (.int f_4n), .val (.int f_4l)] [(.int f_4s)])) _
            refine XS.ifYes X30.here hx rfl (pc0 := 167) (pc' := 184) rfl (hb hby at_167) rfl ((if0 _ _).trans (teq hc167).1) (by decide) (by decide) ?_
            show Steps p.tables e below (T30.setTop (mkF m 184 #[.val (.int p0), .val (.long p1), .second, .val (.int p2), .val (.long p3), .second, .val (.int p4), .val (.int ms0_12), .val (.int ms0_26), .val (.int ms0_38), .val (.long ms0_51), .second, .val (.ref b10), .val (.ref b14), .val (.int ms0_95), .val (.ref r_20), .val .null, .val (.int v17_113), .val (.int v18_122), .val (.int f_4s), .val (.int f_4n), .val (.int f_4l)] [])) _
            refine XS.iconst X30.here hx rfl (hb hby at_184) ?_
            have qms0_185 : ms0_185 = (0 : Int32) := by rw [hms0_185, if_pos hc155, if_pos hc162, if_pos hc167]
            rw [qms0_185] at k
            exact k
          · show Steps p.tables e below (T30.setTop (mkF m 167 #[.val (.int p0), .val (.long p1), .second, .val (.int p2), .val (.long p3), .second, .val (.int p4), .val (.int ms0_12), .val (.int ms0_26), .val (.int ms0_38), .val (.long ms0_51), .second, .val (.ref b10), .val (.ref b14), .val (.int ms0_95), .val (.ref r_20), .val .null, .val (.int v17_113), .val (.int v18_122), .val (.int f_4s), .val (.int f_4n), .val (.int f_4l)] [(.int f_4s)])) _
            refine XS.ifNo X30.here hx rfl (hb hby at_167) rfl ((if0 _ _).trans (feq hc167).1) ?_
            show Steps p.tables e below (T30.setTop (mkF m 170 #[.val (.int p0), .val (.long p1), .second, .val (.int p2), .val (.long p3), .second, .val (.int p4), .val (.int ms0_12), .val (.int ms0_26), .val (.int ms0_38), .val (.long ms0_51), .second, .val (.ref b10), .val (.ref b14), .val (.int ms0_95), .val (.ref r_20), .val .null, .val (.int v17_113), .val (.int v18_122), .val (.int f_4s), .val (.int f_4n), .val (.int f_4l)] [])) _
            refine XS.iload X30.here hx rfl (hb hby at_170) rfl  ?_
            by_cases hc172 : f_4n = (0 : Int32)
            · show Steps p.tables e below (T30.setTop (mkF m 172 #[.val (.int p0), .val (.long p1), .second, .val (.int p2), .val (.long p3), .second, .val (.int p4), .val (.int ms0_12), .val (.int ms0_26), .val (.int ms0_38), .val (.long ms0_51), .second, .val (.ref b10), .val (.ref b14), .val (.int ms0_95), .val (.ref r_20), .val .null, .val (.int v17_113), .val (.int v18_122), .val (.int f_4s), .val (.int f_4n), .val (.int f_4l)] [(.int f_4n)])) _
              refine XS.ifNo X30.here hx rfl (hb hby at_172) rfl ((if0 _ _).trans (teq hc172).2) ?_
              show Steps p.tables e below (T30.setTop (mkF m 175 #[.val (.int p0), .val (.long p1), .second, .val (.int p2), .val (.long p3), .second, .val (.int p4), .val (.int ms0_12), .val (.int ms0_26), .val (.int ms0_38), .val (.long ms0_51), .second, .val (.ref b10), .val (.ref b14), .val (.int ms0_95), .val (.ref r_20), .val .null, .val (.int v17_113), .val (.int v18_122), .val (.int f_4s), .val (.int f_4n), .val (.int f_4l)] [])) _
              refine XS.iload X30.here hx rfl (hb hby at_175) rfl  ?_
              by_cases hc177 : f_4l = (0 : Int32)
              · show Steps p.tables e below (T30.setTop (mkF m 177 #[.val (.int p0), .val (.long p1), .second, .val (.int p2), .val (.long p3), .second, .val (.int p4), .val (.int ms0_12), .val (.int ms0_26), .val (.int ms0_38), .val (.long ms0_51), .second, .val (.ref b10), .val (.ref b14), .val (.int ms0_95), .val (.ref r_20), .val .null, .val (.int v17_113), .val (.int v18_122), .val (.int f_4s), .val (.int f_4n), .val (.int f_4l)] [(.int f_4l)])) _
                refine XS.ifNo X30.here hx rfl (hb hby at_177) rfl ((if0 _ _).trans (teq hc177).2) ?_
                show Steps p.tables e below (T30.setTop (mkF m 180 #[.val (.int p0), .val (.long p1), .second, .val (.int p2), .val (.long p3), .second, .val (.int p4), .val (.int ms0_12), .val (.int ms0_26), .val (.int ms0_38), .val (.long ms0_51), .second, .val (.ref b10), .val (.ref b14), .val (.int ms0_95), .val (.ref r_20), .val .null, .val (.int v17_113), .val (.int v18_122), .val (.int f_4s), .val (.int f_4n), .val (.int f_4l)] [])) _
                refine XS.iconst X30.here hx rfl (hb hby at_180) ?_
                show Steps p.tables e below (T30.setTop (mkF m 181 #[.val (.int p0), .val (.long p1), .second, .val (.int p2), .val (.long p3), .second, .val (.int p4), .val (.int ms0_12), .val (.int ms0_26), .val (.int ms0_38), .val (.long ms0_51), .second, .val (.ref b10), .val (.ref b14), .val (.int ms0_95), .val (.ref r_20), .val .null, .val (.int v17_113), .val (.int v18_122), .val (.int f_4s), .val (.int f_4n), .val (.int f_4l)] [(.int (1 : Int32))])) _
                refine XS.goto X30.here hx rfl (pc0 := 181) (pc' := 185) rfl (hb hby at_181) (by decide) (by decide) ?_
                have qms0_185 : ms0_185 = (1 : Int32) := by rw [hms0_185, if_pos hc155, if_pos hc162, if_neg hc167, if_pos hc172, if_pos hc177]
                rw [qms0_185] at k
                exact k
              · show Steps p.tables e below (T30.setTop (mkF m 177 #[.val (.int p0), .val (.long p1), .second, .val (.int p2), .val (.long p3), .second, .val (.int p4), .val (.int ms0_12), .val (.int ms0_26), .val (.int ms0_38), .val (.long ms0_51), .second, .val (.ref b10), .val (.ref b14), .val (.int ms0_95), .val (.ref r_20), .val .null, .val (.int v17_113), .val (.int v18_122), .val (.int f_4s), .val (.int f_4n), .val (.int f_4l)] [(.int f_4l)])) _
                refine XS.ifYes X30.here hx rfl (pc0 := 177) (pc' := 184) rfl (hb hby at_177) rfl ((if0 _ _).trans (feq hc177).2) (by decide) (by decide) ?_
                show Steps p.tables e below (T30.setTop (mkF m 184 #[.val (.int p0), .val (.long p1), .second, .val (.int p2), .val (.long p3), .second, .val (.int p4), .val (.int ms0_12), .val (.int ms0_26), .val (.int ms0_38), .val (.long ms0_51), .second, .val (.ref b10), .val (.ref b14), .val (.int ms0_95), .val (.ref r_20), .val .null, .val (.int v17_113), .val (.int v18_122), .val (.int f_4s), .val (.int f_4n), .val (.int f_4l)] [])) _
                refine XS.iconst X30.here hx rfl (hb hby at_184) ?_
                have qms0_185 : ms0_185 = (0 : Int32) := by rw [hms0_185, if_pos hc155, if_pos hc162, if_neg hc167, if_pos hc172, if_neg hc177]
                rw [qms0_185] at k
                exact k
            · show Steps p.tables e below (T30.setTop (mkF m 172 #[.val (.int p0), .val (.long p1), .second, .val (.int p2), .val (.long p3), .second, .val (.int p4), .val (.int ms0_12), .val (.int ms0_26), .val (.int ms0_38), .val (.long ms0_51), .second, .val (.ref b10), .val (.ref b14), .val (.int ms0_95), .val (.ref r_20), .val .null, .val (.int v17_113), .val (.int v18_122), .val (.int f_4s), .val (.int f_4n), .val (.int f_4l)] [(.int f_4n)])) _
              refine XS.ifYes X30.here hx rfl (pc0 := 172) (pc' := 184) rfl (hb hby at_172) rfl ((if0 _ _).trans (feq hc172).2) (by decide) (by decide) ?_
              show Steps p.tables e below (T30.setTop (mkF m 184 #[.val (.int p0), .val (.long p1), .second, .val (.int p2), .val (.long p3), .second, .val (.int p4), .val (.int ms0_12), .val (.int ms0_26), .val (.int ms0_38), .val (.long ms0_51), .second, .val (.ref b10), .val (.ref b14), .val (.int ms0_95), .val (.ref r_20), .val .null, .val (.int v17_113), .val (.int v18_122), .val (.int f_4s), .val (.int f_4n), .val (.int f_4l)] [])) _
              refine XS.iconst X30.here hx rfl (hb hby at_184) ?_
              have qms0_185 : ms0_185 = (0 : Int32) := by rw [hms0_185, if_pos hc155, if_pos hc162, if_neg hc167, if_neg hc172]
              rw [qms0_185] at k
              exact k
        · show Steps p.tables e below (T30.setTop (mkF m 162 #[.val (.int p0), .val (.long p1), .second, .val (.int p2), .val (.long p3), .second, .val (.int p4), .val (.int ms0_12), .val (.int ms0_26), .val (.int ms0_38), .val (.long ms0_51), .second, .val (.ref b10), .val (.ref b14), .val (.int ms0_95), .val (.ref r_20), .val .null, .val (.int v17_113), .val (.int v18_122), .val (.int f_4s), .val (.int f_4n), .val (.int f_4l)] [(.int ms0_95), (.int v18_122)])) _
          refine XS.icmpYes X30.here hx rfl (pc0 := 162) (pc' := 184) rfl (hb hby at_162) rfl (feq hc162).2 (by decide) (by decide) ?_
          show Steps p.tables e below (T30.setTop (mkF m 184 #[.val (.int p0), .val (.long p1), .second, .val (.int p2), .val (.long p3), .second, .val (.int p4), .val (.int ms0_12), .val (.int ms0_26), .val (.int ms0_38), .val (.long ms0_51), .second, .val (.ref b10), .val (.ref b14), .val (.int ms0_95), .val (.ref r_20), .val .null, .val (.int v17_113), .val (.int v18_122), .val (.int f_4s), .val (.int f_4n), .val (.int f_4l)] [])) _
          refine XS.iconst X30.here hx rfl (hb hby at_184) ?_
          have qms0_185 : ms0_185 = (0 : Int32) := by rw [hms0_185, if_pos hc155, if_neg hc162]
          rw [qms0_185] at k
          exact k
      · show Steps p.tables e below (T30.setTop (mkF m 155 #[.val (.int p0), .val (.long p1), .second, .val (.int p2), .val (.long p3), .second, .val (.int p4), .val (.int ms0_12), .val (.int ms0_26), .val (.int ms0_38), .val (.long ms0_51), .second, .val (.ref b10), .val (.ref b14), .val (.int ms0_95), .val (.ref r_20), .val .null, .val (.int v17_113), .val (.int v18_122), .val (.int f_4s), .val (.int f_4n), .val (.int f_4l)] [(.int ms0_95), (.int v17_113)])) _
        refine XS.icmpYes X30.here hx rfl (pc0 := 155) (pc' := 184) rfl (hb hby at_155) rfl (feq hc155).2 (by decide) (by decide) ?_
        show Steps p.tables e below (T30.setTop (mkF m 184 #[.val (.int p0), .val (.long p1), .second, .val (.int p2), .val (.long p3), .second, .val (.int p4), .val (.int ms0_12), .val (.int ms0_26), .val (.int ms0_38), .val (.long ms0_51), .second, .val (.ref b10), .val (.ref b14), .val (.int ms0_95), .val (.ref r_20), .val .null, .val (.int v17_113), .val (.int v18_122), .val (.int f_4s), .val (.int f_4n), .val (.int f_4l)] [])) _
        refine XS.iconst X30.here hx rfl (hb hby at_184) ?_
        have qms0_185 : ms0_185 = (0 : Int32) := by rw [hms0_185, if_neg hc155]
        rw [qms0_185] at k
        exact k
    have hnar : nar .boolean ms0_185 = ms0_185 := by rw [hms0_185]; (repeat' split) <;> rfl
    obtain ⟨fs, hr, hrun, hended, hW, hsame⟩ := X30.leave (v := some (.int ms0_185)) (fun h => by rw [Bd.returns] at h; cases h) (BodyLoose.notSynchronized Bd)
    refine ⟨_, _, pre33 _ ?_, hrun, hended, _, _, rfl, ?_, ⟨_, rfl⟩, hW, hsame.mono (by decide) (by decide)⟩
    · show Steps p.tables e below (T30.setTop (mkF m 185 #[.val (.int p0), .val (.long p1), .second, .val (.int p2), .val (.long p3), .second, .val (.int p4), .val (.int ms0_12), .val (.int ms0_26), .val (.int ms0_38), .val (.long ms0_51), .second, .val (.ref b10), .val (.ref b14), .val (.int ms0_95), .val (.ref r_20), .val .null, .val (.int v17_113), .val (.int v18_122), .val (.int f_4s), .val (.int f_4n), .val (.int f_4l)] [(.int ms0_185)])) _
      exact retN X30 hx (t := .boolean) Bd.returns (by simp) (hb hby at_185) (by rw [hnar]; exact hr)
    · show Q_0 Z p0 p1 p2 p3 p4 en ca h0 n0 _ T30.heap _
      rw [e30]
      exact ⟨congrArg (fun z => some (Value.int z)) (by subst hms0_12 hms0_26 hms0_38 hms0_51 hms0_95 hv17_113 hv18_122 hms0_185; exact (if_pos hlo).symm : ms0_185 = f_0 p0 p1 p2 p3 p4 en), N30, trivial⟩
  · by_cases hhi : (127 : Int32) < p0
    · have pre35 : ∀ t, Steps p.tables e below (T15.setTop (mkF m 98 #[.val (.int p0), .val (.long p1), .second, .val (.int p2), .val (.long p3), .second, .val (.int p4), .val (.int ms0_12), .val (.int ms0_26), .val (.int ms0_38), .val (.long ms0_51), .second, .val (.ref b10), .val (.ref b14), .val (.int ms0_95), .unset, .unset, .unset, .unset, .unset, .unset, .unset] [(.int p0)])) t → Steps p.tables e below (s₁.setTop (entryFrame m #[(.int p0), (.long p1), (.int p2), (.long p3), (.int p4)] maxLocals)) t := by
        intro t k
        refine pre19 t ?_
        show Steps p.tables e below (T15.setTop (mkF m 97 #[.val (.int p0), .val (.long p1), .second, .val (.int p2), .val (.long p3), .second, .val (.int p4), .val (.int ms0_12), .val (.int ms0_26), .val (.int ms0_38), .val (.long ms0_51), .second, .val (.ref b10), .val (.ref b14), .val (.int ms0_95), .unset, .unset, .unset, .unset, .unset, .unset, .unset] [])) _
        refine XS.iloadN X15.here hx rfl (hb hby at_97) rfl  ?_
        exact k
      obtain ⟨_, _, ⟨T34, L34, k34, n34⟩, -, X34, ⟨Lc34, hQ34, l34, y34, z34⟩, st34⟩ := Jvm.LawKit.callS X15 hx (y := (⟨"java/lang/Integer", "valueOf", "(I)Ljava/lang/Integer;"⟩ : MethodName)) hown (mvT hZ (hw _ (List.mem_of_getElem? (i := 13) rfl))) (mvT hZ (hw _ (List.mem_of_getElem? (i := 14) rfl))) (mvT hZ (hw _ (List.mem_of_getElem? (i := 15) rfl))) (mvT hZ (hw _ (List.mem_of_getElem? (i := 16) rfl))) (by decide) (backOf (W := 0) (rm_3mh l Z a0 hw [] p0 T15.heap n0 Z15 sta_java_lang_Integer_IntegerCache_high_15 hlo hhi) hZ (hw _ (List.mem_of_getElem? (i := 16) rfl)) (hw _ (List.mem_of_getElem? (i := 15) rfl)) (by decide) (by decide)) (g := (mkF m 98 #[.val (.int p0), .val (.long p1), .second, .val (.int p2), .val (.long p3), .second, .val (.int p4), .val (.int ms0_12), .val (.int ms0_26), .val (.int ms0_38), .val (.long ms0_51), .second, .val (.ref b10), .val (.ref b14), .val (.int ms0_95), .unset, .unset, .unset, .unset, .unset, .unset, .unset] [(.int p0)])) rfl (by rw [hml]; rfl) (argsL := [(.int p0)]) (rest := []) (lenOf pd_3 rfl) rfl (by show 2 * 0 + _ ≤ _; exact Nat.le_of_eq rfl) (hb hby at_98) (fun _ _ => ⟨rfl, rfl, (by decide : 2 + 1 ≤ _), (by decide : 4 + 1 ≤ _)⟩)
      dsimp only [Pt.U, Pt.locs, Pt.cells, Pt.slots] at X34 l34 y34 z34 st34 hQ34
      rw [l34, y34, z34] at X34
      obtain ⟨r_34, rfl, N34q, sz0_r_34, Kc34, Q34_0⟩ := hQ34
      have Kd34 : Keep T15.heap T34.heap [] := Kc34
      have ne_ca_r_34 : ca ≠ r_34 := Nat.ne_of_lt (Nat.lt_of_lt_of_le arr_ca_15.lt sz0_r_34)
      have ne_b10_r_34 : b10 ≠ r_34 := Nat.ne_of_lt (Nat.lt_of_lt_of_le exa_b10_15.lt sz0_r_34)
      have ne_b14_r_34 : b14 ≠ r_34 := Nat.ne_of_lt (Nat.lt_of_lt_of_le Q15_0.lt sz0_r_34)
      have sz_r_34 : h0.size ≤ r_34 := Nat.le_trans K15.1 sz0_r_34
      have ge_r_34 : n0 ≤ r_34 := Nat.le_trans Z15 sz0_r_34
      have sta_java_lang_Integer_IntegerCache_high_34 := own_sta_keep sta_java_lang_Integer_IntegerCache_high_15 Kd34 all0
      have sta_java_lang_Integer_IntegerCache_cache_34 := own_sta_keep sta_java_lang_Integer_IntegerCache_cache_15 Kd34 all0
      have arr_ca_34 := arr_ca_15.keep Kd34 nin0
      have exa_b10_34 := exa_b10_15.keep Kd34
      have fld_b10_level_34 := fld_b10_level_15.keep Kd34 nin0
      have fld_b10_categories_34 := fld_b10_categories_15.keep Kd34 nin0
      have exa_b14_34 := Q15_0.keep Kd34
      have fld_b14_level_34 := Q15_1.keep Kd34 nin0
      have fld_b14_categories_34 := Q15_2.keep Kd34 nin0
      have K34 := K15.trans Kd34 all0
      have Z34 := Nat.le_trans Z15 Kd34.1
      have N34 := Fr.app N15 N34q
      have pre37 : ∀ t, Steps p.tables e below (T34.setTop (mkF m 110 #[.val (.int p0), .val (.long p1), .second, .val (.int p2), .val (.long p3), .second, .val (.int p4), .val (.int ms0_12), .val (.int ms0_26), .val (.int ms0_38), .val (.long ms0_51), .second, .val (.ref b10), .val (.ref b14), .val (.int ms0_95), .val (.ref r_34), .val .null, .unset, .unset, .unset, .unset, .unset] [(.ref b14), (.ref b10)])) t → Steps p.tables e below (s₁.setTop (entryFrame m #[(.int p0), (.long p1), (.int p2), (.long p3), (.int p4)] maxLocals)) t := by
        intro t k
        refine pre35 t ?_
        show Steps p.tables e below (T15.setTop (mkF m 98 #[.val (.int p0), .val (.long p1), .second, .val (.int p2), .val (.long p3), .second, .val (.int p4), .val (.int ms0_12), .val (.int ms0_26), .val (.int ms0_38), .val (.long ms0_51), .second, .val (.ref b10), .val (.ref b14), .val (.int ms0_95), .unset, .unset, .unset, .unset, .unset, .unset, .unset] [(.int p0)])) _
        refine st34 _ ?_
        show Steps p.tables e below (T34.setTop (mkF m 101 #[.val (.int p0), .val (.long p1), .second, .val (.int p2), .val (.long p3), .second, .val (.int p4), .val (.int ms0_12), .val (.int ms0_26), .val (.int ms0_38), .val (.long ms0_51), .second, .val (.ref b10), .val (.ref b14), .val (.int ms0_95), .unset, .unset, .unset, .unset, .unset, .unset, .unset] [(.ref r_34)])) _
        refine XS.astore X34.here hx rfl (hb hby at_101) rfl rfl (l' := #[.val (.int p0), .val (.long p1), .second, .val (.int p2), .val (.long p3), .second, .val (.int p4), .val (.int ms0_12), .val (.int ms0_26), .val (.int ms0_38), .val (.long ms0_51), .second, .val (.ref b10), .val (.ref b14), .val (.int ms0_95), .val (.ref r_34), .unset, .unset, .unset, .unset, .unset, .unset]) rfl ?_
        show Steps p.tables e below (T34.setTop (mkF m 103 #[.val (.int p0), .val (.long p1), .second, .val (.int p2), .val (.long p3), .second, .val (.int p4), .val (.int ms0_12), .val (.int ms0_26), .val (.int ms0_38), .val (.long ms0_51), .second, .val (.ref b10), .val (.ref b14), .val (.int ms0_95), .val (.ref r_34), .unset, .unset, .unset, .unset, .unset, .unset] [])) _
        refine XS.aconstNull X34.here hx rfl (hb hby at_103) ?_
        show Steps p.tables e below (T34.setTop (mkF m 104 #[.val (.int p0), .val (.long p1), .second, .val (.int p2), .val (.long p3), .second, .val (.int p4), .val (.int ms0_12), .val (.int ms0_26), .val (.int ms0_38), .val (.long ms0_51), .second, .val (.ref b10), .val (.ref b14), .val (.int ms0_95), .val (.ref r_34), .unset, .unset, .unset, .unset, .unset, .unset] [.null])) _
        refine XS.astore X34.here hx rfl (hb hby at_104) rfl rfl (l' := #[.val (.int p0), .val (.long p1), .second, .val (.int p2), .val (.long p3), .second, .val (.int p4), .val (.int ms0_12), .val (.int ms0_26), .val (.int ms0_38), .val (.long ms0_51), .second, .val (.ref b10), .val (.ref b14), .val (.int ms0_95), .val (.ref r_34), .val .null, .unset, .unset, .unset, .unset, .unset]) rfl ?_
        show Steps p.tables e below (T34.setTop (mkF m 106 #[.val (.int p0), .val (.long p1), .second, .val (.int p2), .val (.long p3), .second, .val (.int p4), .val (.int ms0_12), .val (.int ms0_26), .val (.int ms0_38), .val (.long ms0_51), .second, .val (.ref b10), .val (.ref b14), .val (.int ms0_95), .val (.ref r_34), .val .null, .unset, .unset, .unset, .unset, .unset] [])) _
        refine XS.aload X34.here hx rfl (hb hby at_106) rfl rfl ?_
        show Steps p.tables e below (T34.setTop (mkF m 108 #[.val (.int p0), .val (.long p1), .second, .val (.int p2), .val (.long p3), .second, .val (.int p4), .val (.int ms0_12), .val (.int ms0_26), .val (.int ms0_38), .val (.long ms0_51), .second, .val (.ref b10), .val (.ref b14), .val (.int ms0_95), .val (.ref r_34), .val .null, .unset, .unset, .unset, .unset, .unset] [(.ref b10)])) _
        refine XS.aload X34.here hx rfl (hb hby at_108) rfl rfl ?_
        exact k
      obtain ⟨cq36, kq36, q36a, q36b, q36c⟩ := isOf hZ rfl exa_b10_34
      obtain ⟨_, _, ⟨T36, L36, k36, n36⟩, -, X36, ⟨Lc36, hQ36, l36, y36, z36⟩, st36⟩ := X34.virtualBack hx (y := (⟨"com/example/sibyl/sibyl/kernel/Label", "equals", "(Ljava/lang/Object;)Z"⟩ : MethodName)) (z := (⟨"com/example/sibyl/sibyl/kernel/Label", "equals", "(Ljava/lang/Object;)Z"⟩ : MethodName)) hown (mvT hZ (hw _ (List.mem_of_getElem? (i := 20) rfl))) (mvT hZ (hw _ (List.mem_of_getElem? (i := 21) rfl))) (notFace_of_selects (args := #[]) (mvT hZ (hw _ (List.mem_of_getElem? (i := 23) rfl)))) (mvT hZ (hw _ (List.mem_of_getElem? (i := 23) rfl))) (mvT hZ (hw _ (List.mem_of_getElem? (i := 22) rfl))) (by decide) (backOf (W := 0) (rm_4o l Z a0 hw [] b10 b14 p0 p1 ms0_38 ms0_51 T34.heap n0 Z34 ne_b10_b14 exa_b14_34 fld_b10_level_34 fld_b10_categories_34 fld_b14_level_34 fld_b14_categories_34) hZ (hw _ (List.mem_of_getElem? (i := 24) rfl)) (hw _ (List.mem_of_getElem? (i := 2) rfl)) (by decide) (by decide)) q36a q36c (g := (mkF m 110 #[.val (.int p0), .val (.long p1), .second, .val (.int p2), .val (.long p3), .second, .val (.int p4), .val (.int ms0_12), .val (.int ms0_26), .val (.int ms0_38), .val (.long ms0_51), .second, .val (.ref b10), .val (.ref b14), .val (.int ms0_95), .val (.ref r_34), .val .null, .unset, .unset, .unset, .unset, .unset] [(.ref b14), (.ref b10)])) rfl (by rw [hml]; rfl) (Steps.refl _) (argsL := [(.ref b14)]) (rest := []) (lenOf pd_4 rfl) rfl (by show 2 * 0 + _ ≤ _; exact Nat.le_of_eq rfl) (hb hby at_110) (fun _ _ => ⟨rfl, rfl, (by decide : 3 + 0 ≤ _), (by decide : 5 + 0 ≤ _)⟩)
      dsimp only [Pt.U, Pt.locs, Pt.cells, Pt.slots] at X36 l36 y36 z36 st36 hQ36
      rw [l36, y36, z36] at X36
      obtain ⟨rfl, N36q, e36⟩ := hQ36
      have N36 := Fr.app N34 N36q
      obtain ⟨v17_113, hv17_113⟩ : ∃ z : Int32, z = (f_4o p0 p1 ms0_38 ms0_51) := ⟨_, rfl⟩
      have pre39 : ∀ t, Steps p.tables e below (T36.setTop (mkF m 119 #[.val (.int p0), .val (.long p1), .second, .val (.int p2), .val (.long p3), .second, .val (.int p4), .val (.int ms0_12), .val (.int ms0_26), .val (.int ms0_38), .val (.long ms0_51), .second, .val (.ref b10), .val (.ref b14), .val (.int ms0_95), .val (.ref r_34), .val .null, .val (.int v17_113), .unset, .unset, .unset, .unset] [(.ref b10), (.ref b14)])) t → Steps p.tables e below (s₁.setTop (entryFrame m #[(.int p0), (.long p1), (.int p2), (.long p3), (.int p4)] maxLocals)) t := by
        intro t k
        refine pre37 t ?_
        show Steps p.tables e below (T34.setTop (mkF m 110 #[.val (.int p0), .val (.long p1), .second, .val (.int p2), .val (.long p3), .second, .val (.int p4), .val (.int ms0_12), .val (.int ms0_26), .val (.int ms0_38), .val (.long ms0_51), .second, .val (.ref b10), .val (.ref b14), .val (.int ms0_95), .val (.ref r_34), .val .null, .unset, .unset, .unset, .unset, .unset] [(.ref b14), (.ref b10)])) _
        refine st36.trans ?_
        show Steps p.tables e below (T36.setTop (mkF m 113 #[.val (.int p0), .val (.long p1), .second, .val (.int p2), .val (.long p3), .second, .val (.int p4), .val (.int ms0_12), .val (.int ms0_26), .val (.int ms0_38), .val (.long ms0_51), .second, .val (.ref b10), .val (.ref b14), .val (.int ms0_95), .val (.ref r_34), .val .null, .unset, .unset, .unset, .unset, .unset] [(.int (f_4o p0 p1 ms0_38 ms0_51))])) _
        refine XS.istore X36.here hx rfl (hb hby at_113) rfl (l' := #[.val (.int p0), .val (.long p1), .second, .val (.int p2), .val (.long p3), .second, .val (.int p4), .val (.int ms0_12), .val (.int ms0_26), .val (.int ms0_38), .val (.long ms0_51), .second, .val (.ref b10), .val (.ref b14), .val (.int ms0_95), .val (.ref r_34), .val .null, .val (.int v17_113), .unset, .unset, .unset, .unset]) (by rw [hv17_113]; rfl) ?_
        show Steps p.tables e below (T36.setTop (mkF m 115 #[.val (.int p0), .val (.long p1), .second, .val (.int p2), .val (.long p3), .second, .val (.int p4), .val (.int ms0_12), .val (.int ms0_26), .val (.int ms0_38), .val (.long ms0_51), .second, .val (.ref b10), .val (.ref b14), .val (.int ms0_95), .val (.ref r_34), .val .null, .val (.int v17_113), .unset, .unset, .unset, .unset] [])) _
        refine XS.aload X36.here hx rfl (hb hby at_115) rfl rfl ?_
        show Steps p.tables e below (T36.setTop (mkF m 117 #[.val (.int p0), .val (.long p1), .second, .val (.int p2), .val (.long p3), .second, .val (.int p4), .val (.int ms0_12), .val (.int ms0_26), .val (.int ms0_38), .val (.long ms0_51), .second, .val (.ref b10), .val (.ref b14), .val (.int ms0_95), .val (.ref r_34), .val .null, .val (.int v17_113), .unset, .unset, .unset, .unset] [(.ref b14)])) _
        refine XS.aload X36.here hx rfl (hb hby at_117) rfl rfl ?_
        exact k
      obtain ⟨cq38, kq38, q38a, q38b, q38c⟩ := isOf hZ e36 exa_b14_34
      obtain ⟨_, _, ⟨T38, L38, k38, n38⟩, -, X38, ⟨Lc38, hQ38, l38, y38, z38⟩, st38⟩ := X36.virtualBack hx (y := (⟨"com/example/sibyl/sibyl/kernel/Label", "equals", "(Ljava/lang/Object;)Z"⟩ : MethodName)) (z := (⟨"com/example/sibyl/sibyl/kernel/Label", "equals", "(Ljava/lang/Object;)Z"⟩ : MethodName)) hown (mvT hZ (hw _ (List.mem_of_getElem? (i := 20) rfl))) (mvT hZ (hw _ (List.mem_of_getElem? (i := 21) rfl))) (notFace_of_selects (args := #[]) (mvT hZ (hw _ (List.mem_of_getElem? (i := 23) rfl)))) (mvT hZ (hw _ (List.mem_of_getElem? (i := 23) rfl))) (mvT hZ (hw _ (List.mem_of_getElem? (i := 22) rfl))) (by decide) (backOf (W := 0) (rm_4o l Z a0 hw [] b14 b10 ms0_38 ms0_51 p0 p1 T34.heap n0 Z34 ne_b10_b14.symm exa_b10_34 fld_b14_level_34 fld_b14_categories_34 fld_b10_level_34 fld_b10_categories_34) hZ (hw _ (List.mem_of_getElem? (i := 24) rfl)) (hw _ (List.mem_of_getElem? (i := 2) rfl)) (by decide) (by decide)) q38a q38c (g := (mkF m 119 #[.val (.int p0), .val (.long p1), .second, .val (.int p2), .val (.long p3), .second, .val (.int p4), .val (.int ms0_12), .val (.int ms0_26), .val (.int ms0_38), .val (.long ms0_51), .second, .val (.ref b10), .val (.ref b14), .val (.int ms0_95), .val (.ref r_34), .val .null, .val (.int v17_113), .unset, .unset, .unset, .unset] [(.ref b10), (.ref b14)])) rfl (by rw [hml]; rfl) (Steps.refl _) (argsL := [(.ref b10)]) (rest := []) (lenOf pd_4 rfl) rfl (by show 2 * 0 + _ ≤ _; exact Nat.le_of_eq rfl) (hb hby at_119) (fun _ _ => ⟨rfl, e36, (by decide : 3 + 0 ≤ _), (by decide : 5 + 0 ≤ _)⟩)
      dsimp only [Pt.U, Pt.locs, Pt.cells, Pt.slots] at X38 l38 y38 z38 st38 hQ38
      rw [l38, y38, z38] at X38
      obtain ⟨rfl, N38q, e38⟩ := hQ38
      have N38 := Fr.app N36 N38q
      obtain ⟨v18_122, hv18_122⟩ : ∃ z : Int32, z = (f_4o ms0_38 ms0_51 p0 p1) := ⟨_, rfl⟩
      have pre41 : ∀ t, Steps p.tables e below (T38.setTop (mkF m 128 #[.val (.int p0), .val (.long p1), .second, .val (.int p2), .val (.long p3), .second, .val (.int p4), .val (.int ms0_12), .val (.int ms0_26), .val (.int ms0_38), .val (.long ms0_51), .second, .val (.ref b10), .val (.ref b14), .val (.int ms0_95), .val (.ref r_34), .val .null, .val (.int v17_113), .val (.int v18_122), .unset, .unset, .unset] [(.ref b10), (.ref b10)])) t → Steps p.tables e below (s₁.setTop (entryFrame m #[(.int p0), (.long p1), (.int p2), (.long p3), (.int p4)] maxLocals)) t := by
        intro t k
        refine pre39 t ?_
        show Steps p.tables e below (T36.setTop (mkF m 119 #[.val (.int p0), .val (.long p1), .second, .val (.int p2), .val (.long p3), .second, .val (.int p4), .val (.int ms0_12), .val (.int ms0_26), .val (.int ms0_38), .val (.long ms0_51), .second, .val (.ref b10), .val (.ref b14), .val (.int ms0_95), .val (.ref r_34), .val .null, .val (.int v17_113), .unset, .unset, .unset, .unset] [(.ref b10), (.ref b14)])) _
        refine st38.trans ?_
        show Steps p.tables e below (T38.setTop (mkF m 122 #[.val (.int p0), .val (.long p1), .second, .val (.int p2), .val (.long p3), .second, .val (.int p4), .val (.int ms0_12), .val (.int ms0_26), .val (.int ms0_38), .val (.long ms0_51), .second, .val (.ref b10), .val (.ref b14), .val (.int ms0_95), .val (.ref r_34), .val .null, .val (.int v17_113), .unset, .unset, .unset, .unset] [(.int (f_4o ms0_38 ms0_51 p0 p1))])) _
        refine XS.istore X38.here hx rfl (hb hby at_122) rfl (l' := #[.val (.int p0), .val (.long p1), .second, .val (.int p2), .val (.long p3), .second, .val (.int p4), .val (.int ms0_12), .val (.int ms0_26), .val (.int ms0_38), .val (.long ms0_51), .second, .val (.ref b10), .val (.ref b14), .val (.int ms0_95), .val (.ref r_34), .val .null, .val (.int v17_113), .val (.int v18_122), .unset, .unset, .unset]) (by rw [hv18_122]; rfl) ?_
        show Steps p.tables e below (T38.setTop (mkF m 124 #[.val (.int p0), .val (.long p1), .second, .val (.int p2), .val (.long p3), .second, .val (.int p4), .val (.int ms0_12), .val (.int ms0_26), .val (.int ms0_38), .val (.long ms0_51), .second, .val (.ref b10), .val (.ref b14), .val (.int ms0_95), .val (.ref r_34), .val .null, .val (.int v17_113), .val (.int v18_122), .unset, .unset, .unset] [])) _
        refine XS.aload X38.here hx rfl (hb hby at_124) rfl rfl ?_
        show Steps p.tables e below (T38.setTop (mkF m 126 #[.val (.int p0), .val (.long p1), .second, .val (.int p2), .val (.long p3), .second, .val (.int p4), .val (.int ms0_12), .val (.int ms0_26), .val (.int ms0_38), .val (.long ms0_51), .second, .val (.ref b10), .val (.ref b14), .val (.int ms0_95), .val (.ref r_34), .val .null, .val (.int v17_113), .val (.int v18_122), .unset, .unset, .unset] [(.ref b10)])) _
        refine XS.aload X38.here hx rfl (hb hby at_126) rfl rfl ?_
        exact k
      obtain ⟨cq40, kq40, q40a, q40b, q40c⟩ := isOf hZ e38 exa_b10_34
      obtain ⟨_, _, ⟨T40, L40, k40, n40⟩, -, X40, ⟨Lc40, hQ40, l40, y40, z40⟩, st40⟩ := X38.virtualBack hx (y := (⟨"com/example/sibyl/sibyl/kernel/Label", "equals", "(Ljava/lang/Object;)Z"⟩ : MethodName)) (z := (⟨"com/example/sibyl/sibyl/kernel/Label", "equals", "(Ljava/lang/Object;)Z"⟩ : MethodName)) hown (mvT hZ (hw _ (List.mem_of_getElem? (i := 20) rfl))) (mvT hZ (hw _ (List.mem_of_getElem? (i := 21) rfl))) (notFace_of_selects (args := #[]) (mvT hZ (hw _ (List.mem_of_getElem? (i := 23) rfl)))) (mvT hZ (hw _ (List.mem_of_getElem? (i := 23) rfl))) (mvT hZ (hw _ (List.mem_of_getElem? (i := 22) rfl))) (by decide) (backOf (W := 0) (rm_4s l Z a0 hw [] b10 T34.heap n0 Z34 ) hZ (hw _ (List.mem_of_getElem? (i := 24) rfl)) (hw _ (List.mem_of_getElem? (i := 2) rfl)) (by decide) (by decide)) q40a q40c (g := (mkF m 128 #[.val (.int p0), .val (.long p1), .second, .val (.int p2), .val (.long p3), .second, .val (.int p4), .val (.int ms0_12), .val (.int ms0_26), .val (.int ms0_38), .val (.long ms0_51), .second, .val (.ref b10), .val (.ref b14), .val (.int ms0_95), .val (.ref r_34), .val .null, .val (.int v17_113), .val (.int v18_122), .unset, .unset, .unset] [(.ref b10), (.ref b10)])) rfl (by rw [hml]; rfl) (Steps.refl _) (argsL := [(.ref b10)]) (rest := []) (lenOf pd_4 rfl) rfl (by show 2 * 0 + _ ≤ _; exact Nat.le_of_eq rfl) (hb hby at_128) (fun _ _ => ⟨rfl, e38, (by decide : 3 + 0 ≤ _), (by decide : 5 + 0 ≤ _)⟩)
      dsimp only [Pt.U, Pt.locs, Pt.cells, Pt.slots] at X40 l40 y40 z40 st40 hQ40
      rw [l40, y40, z40] at X40
      obtain ⟨rfl, N40q, e40⟩ := hQ40
      have N40 := Fr.app N38 N40q
      have pre43 : ∀ t, Steps p.tables e below (T40.setTop (mkF m 137 #[.val (.int p0), .val (.long p1), .second, .val (.int p2), .val (.long p3), .second, .val (.int p4), .val (.int ms0_12), .val (.int ms0_26), .val (.int ms0_38), .val (.long ms0_51), .second, .val (.ref b10), .val (.ref b14), .val (.int ms0_95), .val (.ref r_34), .val .null, .val (.int v17_113), .val (.int v18_122), .val (.int f_4s), .unset, .unset] [.null, (.ref b10)])) t → Steps p.tables e below (s₁.setTop (entryFrame m #[(.int p0), (.long p1), (.int p2), (.long p3), (.int p4)] maxLocals)) t := by
        intro t k
        refine pre41 t ?_
        show Steps p.tables e below (T38.setTop (mkF m 128 #[.val (.int p0), .val (.long p1), .second, .val (.int p2), .val (.long p3), .second, .val (.int p4), .val (.int ms0_12), .val (.int ms0_26), .val (.int ms0_38), .val (.long ms0_51), .second, .val (.ref b10), .val (.ref b14), .val (.int ms0_95), .val (.ref r_34), .val .null, .val (.int v17_113), .val (.int v18_122), .unset, .unset, .unset] [(.ref b10), (.ref b10)])) _
        refine st40.trans ?_
        show Steps p.tables e below (T40.setTop (mkF m 131 #[.val (.int p0), .val (.long p1), .second, .val (.int p2), .val (.long p3), .second, .val (.int p4), .val (.int ms0_12), .val (.int ms0_26), .val (.int ms0_38), .val (.long ms0_51), .second, .val (.ref b10), .val (.ref b14), .val (.int ms0_95), .val (.ref r_34), .val .null, .val (.int v17_113), .val (.int v18_122), .unset, .unset, .unset] [(.int f_4s)])) _
        refine XS.istore X40.here hx rfl (hb hby at_131) rfl (l' := #[.val (.int p0), .val (.long p1), .second, .val (.int p2), .val (.long p3), .second, .val (.int p4), .val (.int ms0_12), .val (.int ms0_26), .val (.int ms0_38), .val (.long ms0_51), .second, .val (.ref b10), .val (.ref b14), .val (.int ms0_95), .val (.ref r_34), .val .null, .val (.int v17_113), .val (.int v18_122), .val (.int f_4s), .unset, .unset]) rfl ?_
        show Steps p.tables e below (T40.setTop (mkF m 133 #[.val (.int p0), .val (.long p1), .second, .val (.int p2), .val (.long p3), .second, .val (.int p4), .val (.int ms0_12), .val (.int ms0_26), .val (.int ms0_38), .val (.long ms0_51), .second, .val (.ref b10), .val (.ref b14), .val (.int ms0_95), .val (.ref r_34), .val .null, .val (.int v17_113), .val (.int v18_122), .val (.int f_4s), .unset, .unset] [])) _
        refine XS.aload X40.here hx rfl (hb hby at_133) rfl rfl ?_
        show Steps p.tables e below (T40.setTop (mkF m 135 #[.val (.int p0), .val (.long p1), .second, .val (.int p2), .val (.long p3), .second, .val (.int p4), .val (.int ms0_12), .val (.int ms0_26), .val (.int ms0_38), .val (.long ms0_51), .second, .val (.ref b10), .val (.ref b14), .val (.int ms0_95), .val (.ref r_34), .val .null, .val (.int v17_113), .val (.int v18_122), .val (.int f_4s), .unset, .unset] [(.ref b10)])) _
        refine XS.aload X40.here hx rfl (hb hby at_135) rfl rfl ?_
        exact k
      obtain ⟨cq42, kq42, q42a, q42b, q42c⟩ := isOf hZ e40 exa_b10_34
      obtain ⟨_, _, ⟨T42, L42, k42, n42⟩, -, X42, ⟨Lc42, hQ42, l42, y42, z42⟩, st42⟩ := X40.virtualBack hx (y := (⟨"com/example/sibyl/sibyl/kernel/Label", "equals", "(Ljava/lang/Object;)Z"⟩ : MethodName)) (z := (⟨"com/example/sibyl/sibyl/kernel/Label", "equals", "(Ljava/lang/Object;)Z"⟩ : MethodName)) hown (mvT hZ (hw _ (List.mem_of_getElem? (i := 20) rfl))) (mvT hZ (hw _ (List.mem_of_getElem? (i := 21) rfl))) (notFace_of_selects (args := #[]) (mvT hZ (hw _ (List.mem_of_getElem? (i := 23) rfl)))) (mvT hZ (hw _ (List.mem_of_getElem? (i := 23) rfl))) (mvT hZ (hw _ (List.mem_of_getElem? (i := 22) rfl))) (by decide) (backOf (W := 0) (rm_4n l Z a0 hw [] b10 T34.heap n0 Z34 ) hZ (hw _ (List.mem_of_getElem? (i := 24) rfl)) (hw _ (List.mem_of_getElem? (i := 2) rfl)) (by decide) (by decide)) q42a q42c (g := (mkF m 137 #[.val (.int p0), .val (.long p1), .second, .val (.int p2), .val (.long p3), .second, .val (.int p4), .val (.int ms0_12), .val (.int ms0_26), .val (.int ms0_38), .val (.long ms0_51), .second, .val (.ref b10), .val (.ref b14), .val (.int ms0_95), .val (.ref r_34), .val .null, .val (.int v17_113), .val (.int v18_122), .val (.int f_4s), .unset, .unset] [.null, (.ref b10)])) rfl (by rw [hml]; rfl) (Steps.refl _) (argsL := [.null]) (rest := []) (lenOf pd_4 rfl) rfl (by show 2 * 0 + _ ≤ _; exact Nat.le_of_eq rfl) (hb hby at_137) (fun _ _ => ⟨rfl, e40, (by decide : 3 + 0 ≤ _), (by decide : 5 + 0 ≤ _)⟩)
      dsimp only [Pt.U, Pt.locs, Pt.cells, Pt.slots] at X42 l42 y42 z42 st42 hQ42
      rw [l42, y42, z42] at X42
      obtain ⟨rfl, N42q, e42⟩ := hQ42
      have N42 := Fr.app N40 N42q
      have pre45 : ∀ t, Steps p.tables e below (T42.setTop (mkF m 146 #[.val (.int p0), .val (.long p1), .second, .val (.int p2), .val (.long p3), .second, .val (.int p4), .val (.int ms0_12), .val (.int ms0_26), .val (.int ms0_38), .val (.long ms0_51), .second, .val (.ref b10), .val (.ref b14), .val (.int ms0_95), .val (.ref r_34), .val .null, .val (.int v17_113), .val (.int v18_122), .val (.int f_4s), .val (.int f_4n), .unset] [(.ref r_34), (.ref b10)])) t → Steps p.tables e below (s₁.setTop (entryFrame m #[(.int p0), (.long p1), (.int p2), (.long p3), (.int p4)] maxLocals)) t := by
        intro t k
        refine pre43 t ?_
        show Steps p.tables e below (T40.setTop (mkF m 137 #[.val (.int p0), .val (.long p1), .second, .val (.int p2), .val (.long p3), .second, .val (.int p4), .val (.int ms0_12), .val (.int ms0_26), .val (.int ms0_38), .val (.long ms0_51), .second, .val (.ref b10), .val (.ref b14), .val (.int ms0_95), .val (.ref r_34), .val .null, .val (.int v17_113), .val (.int v18_122), .val (.int f_4s), .unset, .unset] [.null, (.ref b10)])) _
        refine st42.trans ?_
        show Steps p.tables e below (T42.setTop (mkF m 140 #[.val (.int p0), .val (.long p1), .second, .val (.int p2), .val (.long p3), .second, .val (.int p4), .val (.int ms0_12), .val (.int ms0_26), .val (.int ms0_38), .val (.long ms0_51), .second, .val (.ref b10), .val (.ref b14), .val (.int ms0_95), .val (.ref r_34), .val .null, .val (.int v17_113), .val (.int v18_122), .val (.int f_4s), .unset, .unset] [(.int f_4n)])) _
        refine XS.istore X42.here hx rfl (hb hby at_140) rfl (l' := #[.val (.int p0), .val (.long p1), .second, .val (.int p2), .val (.long p3), .second, .val (.int p4), .val (.int ms0_12), .val (.int ms0_26), .val (.int ms0_38), .val (.long ms0_51), .second, .val (.ref b10), .val (.ref b14), .val (.int ms0_95), .val (.ref r_34), .val .null, .val (.int v17_113), .val (.int v18_122), .val (.int f_4s), .val (.int f_4n), .unset]) rfl ?_
        show Steps p.tables e below (T42.setTop (mkF m 142 #[.val (.int p0), .val (.long p1), .second, .val (.int p2), .val (.long p3), .second, .val (.int p4), .val (.int ms0_12), .val (.int ms0_26), .val (.int ms0_38), .val (.long ms0_51), .second, .val (.ref b10), .val (.ref b14), .val (.int ms0_95), .val (.ref r_34), .val .null, .val (.int v17_113), .val (.int v18_122), .val (.int f_4s), .val (.int f_4n), .unset] [])) _
        refine XS.aload X42.here hx rfl (hb hby at_142) rfl rfl ?_
        show Steps p.tables e below (T42.setTop (mkF m 144 #[.val (.int p0), .val (.long p1), .second, .val (.int p2), .val (.long p3), .second, .val (.int p4), .val (.int ms0_12), .val (.int ms0_26), .val (.int ms0_38), .val (.long ms0_51), .second, .val (.ref b10), .val (.ref b14), .val (.int ms0_95), .val (.ref r_34), .val .null, .val (.int v17_113), .val (.int v18_122), .val (.int f_4s), .val (.int f_4n), .unset] [(.ref b10)])) _
        refine XS.aload X42.here hx rfl (hb hby at_144) rfl rfl ?_
        exact k
      obtain ⟨cq44, kq44, q44a, q44b, q44c⟩ := isOf hZ e42 exa_b10_34
      obtain ⟨_, _, ⟨T44, L44, k44, n44⟩, -, X44, ⟨Lc44, hQ44, l44, y44, z44⟩, st44⟩ := X42.virtualBack hx (y := (⟨"com/example/sibyl/sibyl/kernel/Label", "equals", "(Ljava/lang/Object;)Z"⟩ : MethodName)) (z := (⟨"com/example/sibyl/sibyl/kernel/Label", "equals", "(Ljava/lang/Object;)Z"⟩ : MethodName)) hown (mvT hZ (hw _ (List.mem_of_getElem? (i := 20) rfl))) (mvT hZ (hw _ (List.mem_of_getElem? (i := 21) rfl))) (notFace_of_selects (args := #[]) (mvT hZ (hw _ (List.mem_of_getElem? (i := 23) rfl)))) (mvT hZ (hw _ (List.mem_of_getElem? (i := 23) rfl))) (mvT hZ (hw _ (List.mem_of_getElem? (i := 22) rfl))) (by decide) (backOf (W := 0) (rm_4l l Z a0 hw [] b10 r_34 T34.heap n0 Z34 ne_b10_r_34 Q34_0) hZ (hw _ (List.mem_of_getElem? (i := 24) rfl)) (hw _ (List.mem_of_getElem? (i := 2) rfl)) (by decide) (by decide)) q44a q44c (g := (mkF m 146 #[.val (.int p0), .val (.long p1), .second, .val (.int p2), .val (.long p3), .second, .val (.int p4), .val (.int ms0_12), .val (.int ms0_26), .val (.int ms0_38), .val (.long ms0_51), .second, .val (.ref b10), .val (.ref b14), .val (.int ms0_95), .val (.ref r_34), .val .null, .val (.int v17_113), .val (.int v18_122), .val (.int f_4s), .val (.int f_4n), .unset] [(.ref r_34), (.ref b10)])) rfl (by rw [hml]; rfl) (Steps.refl _) (argsL := [(.ref r_34)]) (rest := []) (lenOf pd_4 rfl) rfl (by show 2 * 0 + _ ≤ _; exact Nat.le_of_eq rfl) (hb hby at_146) (fun _ _ => ⟨rfl, e42, (by decide : 3 + 0 ≤ _), (by decide : 5 + 0 ≤ _)⟩)
      dsimp only [Pt.U, Pt.locs, Pt.cells, Pt.slots] at X44 l44 y44 z44 st44 hQ44
      rw [l44, y44, z44] at X44
      obtain ⟨rfl, N44q, e44⟩ := hQ44
      have N44 := Fr.app N42 N44q
      have pre46 : ∀ t, Steps p.tables e below (T44.setTop (mkF m 155 #[.val (.int p0), .val (.long p1), .second, .val (.int p2), .val (.long p3), .second, .val (.int p4), .val (.int ms0_12), .val (.int ms0_26), .val (.int ms0_38), .val (.long ms0_51), .second, .val (.ref b10), .val (.ref b14), .val (.int ms0_95), .val (.ref r_34), .val .null, .val (.int v17_113), .val (.int v18_122), .val (.int f_4s), .val (.int f_4n), .val (.int f_4l)] [(.int ms0_95), (.int v17_113)])) t → Steps p.tables e below (s₁.setTop (entryFrame m #[(.int p0), (.long p1), (.int p2), (.long p3), (.int p4)] maxLocals)) t := by
        intro t k
        refine pre45 t ?_
        show Steps p.tables e below (T42.setTop (mkF m 146 #[.val (.int p0), .val (.long p1), .second, .val (.int p2), .val (.long p3), .second, .val (.int p4), .val (.int ms0_12), .val (.int ms0_26), .val (.int ms0_38), .val (.long ms0_51), .second, .val (.ref b10), .val (.ref b14), .val (.int ms0_95), .val (.ref r_34), .val .null, .val (.int v17_113), .val (.int v18_122), .val (.int f_4s), .val (.int f_4n), .unset] [(.ref r_34), (.ref b10)])) _
        refine st44.trans ?_
        show Steps p.tables e below (T44.setTop (mkF m 149 #[.val (.int p0), .val (.long p1), .second, .val (.int p2), .val (.long p3), .second, .val (.int p4), .val (.int ms0_12), .val (.int ms0_26), .val (.int ms0_38), .val (.long ms0_51), .second, .val (.ref b10), .val (.ref b14), .val (.int ms0_95), .val (.ref r_34), .val .null, .val (.int v17_113), .val (.int v18_122), .val (.int f_4s), .val (.int f_4n), .unset] [(.int f_4l)])) _
        refine XS.istore X44.here hx rfl (hb hby at_149) rfl (l' := #[.val (.int p0), .val (.long p1), .second, .val (.int p2), .val (.long p3), .second, .val (.int p4), .val (.int ms0_12), .val (.int ms0_26), .val (.int ms0_38), .val (.long ms0_51), .second, .val (.ref b10), .val (.ref b14), .val (.int ms0_95), .val (.ref r_34), .val .null, .val (.int v17_113), .val (.int v18_122), .val (.int f_4s), .val (.int f_4n), .val (.int f_4l)]) rfl ?_
        show Steps p.tables e below (T44.setTop (mkF m 151 #[.val (.int p0), .val (.long p1), .second, .val (.int p2), .val (.long p3), .second, .val (.int p4), .val (.int ms0_12), .val (.int ms0_26), .val (.int ms0_38), .val (.long ms0_51), .second, .val (.ref b10), .val (.ref b14), .val (.int ms0_95), .val (.ref r_34), .val .null, .val (.int v17_113), .val (.int v18_122), .val (.int f_4s), .val (.int f_4n), .val (.int f_4l)] [])) _
        refine XS.iload X44.here hx rfl (hb hby at_151) rfl  ?_
        show Steps p.tables e below (T44.setTop (mkF m 153 #[.val (.int p0), .val (.long p1), .second, .val (.int p2), .val (.long p3), .second, .val (.int p4), .val (.int ms0_12), .val (.int ms0_26), .val (.int ms0_38), .val (.long ms0_51), .second, .val (.ref b10), .val (.ref b14), .val (.int ms0_95), .val (.ref r_34), .val .null, .val (.int v17_113), .val (.int v18_122), .val (.int f_4s), .val (.int f_4n), .val (.int f_4l)] [(.int v17_113)])) _
        refine XS.iload X44.here hx rfl (hb hby at_153) rfl  ?_
        exact k
      obtain ⟨ms0_185, hms0_185⟩ : ∃ z : Int32, z = (if v17_113 = ms0_95 then (if v18_122 = ms0_95 then (if f_4s = (0 : Int32) then (0 : Int32) else (if f_4n = (0 : Int32) then (if f_4l = (0 : Int32) then (1 : Int32) else (0 : Int32)) else (0 : Int32))) else (0 : Int32)) else (0 : Int32)) := ⟨_, rfl⟩
      have pre47 : ∀ t, Steps p.tables e below (T44.setTop (mkF m 185 #[.val (.int p0), .val (.long p1), .second, .val (.int p2), .val (.long p3), .second, .val (.int p4), .val (.int ms0_12), .val (.int ms0_26), .val (.int ms0_38), .val (.long ms0_51), .second, .val (.ref b10), .val (.ref b14), .val (.int ms0_95), .val (.ref r_34), .val .null, .val (.int v17_113), .val (.int v18_122), .val (.int f_4s), .val (.int f_4n), .val (.int f_4l)] [(.int ms0_185)])) t → Steps p.tables e below (s₁.setTop (entryFrame m #[(.int p0), (.long p1), (.int p2), (.long p3), (.int p4)] maxLocals)) t := by
        intro t k
        refine pre46 t ?_
        by_cases hc155 : v17_113 = ms0_95
        · show Steps p.tables e below (T44.setTop (mkF m 155 #[.val (.int p0), .val (.long p1), .second, .val (.int p2), .val (.long p3), .second, .val (.int p4), .val (.int ms0_12), .val (.int ms0_26), .val (.int ms0_38), .val (.long ms0_51), .second, .val (.ref b10), .val (.ref b14), .val (.int ms0_95), .val (.ref r_34), .val .null, .val (.int v17_113), .val (.int v18_122), .val (.int f_4s), .val (.int f_4n), .val (.int f_4l)] [(.int ms0_95), (.int v17_113)])) _
          refine XS.icmpNo X44.here hx rfl (hb hby at_155) rfl (teq hc155).2 ?_
          show Steps p.tables e below (T44.setTop (mkF m 158 #[.val (.int p0), .val (.long p1), .second, .val (.int p2), .val (.long p3), .second, .val (.int p4), .val (.int ms0_12), .val (.int ms0_26), .val (.int ms0_38), .val (.long ms0_51), .second, .val (.ref b10), .val (.ref b14), .val (.int ms0_95), .val (.ref r_34), .val .null, .val (.int v17_113), .val (.int v18_122), .val (.int f_4s), .val (.int f_4n), .val (.int f_4l)] [])) _
          refine XS.iload X44.here hx rfl (hb hby at_158) rfl  ?_
          show Steps p.tables e below (T44.setTop (mkF m 160 #[.val (.int p0), .val (.long p1), .second, .val (.int p2), .val (.long p3), .second, .val (.int p4), .val (.int ms0_12), .val (.int ms0_26), .val (.int ms0_38), .val (.long ms0_51), .second, .val (.ref b10), .val (.ref b14), .val (.int ms0_95), .val (.ref r_34), .val .null, .val (.int v17_113), .val (.int v18_122), .val (.int f_4s), .val (.int f_4n), .val (.int f_4l)] [(.int v18_122)])) _
          refine XS.iload X44.here hx rfl (hb hby at_160) rfl  ?_
          by_cases hc162 : v18_122 = ms0_95
          · show Steps p.tables e below (T44.setTop (mkF m 162 #[.val (.int p0), .val (.long p1), .second, .val (.int p2), .val (.long p3), .second, .val (.int p4), .val (.int ms0_12), .val (.int ms0_26), .val (.int ms0_38), .val (.long ms0_51), .second, .val (.ref b10), .val (.ref b14), .val (.int ms0_95), .val (.ref r_34), .val .null, .val (.int v17_113), .val (.int v18_122), .val (.int f_4s), .val (.int f_4n), .val (.int f_4l)] [(.int ms0_95), (.int v18_122)])) _
            refine XS.icmpNo X44.here hx rfl (hb hby at_162) rfl (teq hc162).2 ?_
            show Steps p.tables e below (T44.setTop (mkF m 165 #[.val (.int p0), .val (.long p1), .second, .val (.int p2), .val (.long p3), .second, .val (.int p4), .val (.int ms0_12), .val (.int ms0_26), .val (.int ms0_38), .val (.long ms0_51), .second, .val (.ref b10), .val (.ref b14), .val (.int ms0_95), .val (.ref r_34), .val .null, .val (.int v17_113), .val (.int v18_122), .val (.int f_4s), .val (.int f_4n), .val (.int f_4l)] [])) _
            refine XS.iload X44.here hx rfl (hb hby at_165) rfl  ?_
            by_cases hc167 : f_4s = (0 : Int32)
            · show Steps p.tables e below (T44.setTop (mkF m 167 #[.val (.int p0), .val (.long p1), .second, .val (.int p2), .val (.long p3), .second, .val (.int p4), .val (.int ms0_12), .val (.int ms0_26), .val (.int ms0_38), .val (.long ms0_51), .second, .val (.ref b10), .val (.ref b14), .val (.int ms0_95), .val (.ref r_34), .val .null, .val (.int v17_113), .val (.int v18_122), .val (.int f_4s), .val (.int f_4n), .val (.int f_4l)] [(.int f_4s)])) _
              refine XS.ifYes X44.here hx rfl (pc0 := 167) (pc' := 184) rfl (hb hby at_167) rfl ((if0 _ _).trans (teq hc167).1) (by decide) (by decide) ?_
              show Steps p.tables e below (T44.setTop (mkF m 184 #[.val (.int p0), .val (.long p1), .second, .val (.int p2), .val (.long p3), .second, .val (.int p4), .val (.int ms0_12), .val (.int ms0_26), .val (.int ms0_38), .val (.long ms0_51), .second, .val (.ref b10), .val (.ref b14), .val (.int ms0_95), .val (.ref r_34), .val .null, .val (.int v17_113), .val (.int v18_122), .val (.int f_4s), .val (.int f_4n), .val (.int f_4l)] [])) _
              refine XS.iconst X44.here hx rfl (hb hby at_184) ?_
              have qms0_185 : ms0_185 = (0 : Int32) := by rw [hms0_185, if_pos hc155, if_pos hc162, if_pos hc167]
              rw [qms0_185] at k
              exact k
            · show Steps p.tables e below (T44.setTop (mkF m 167 #[.val (.int p0), .val (.long p1), .second, .val (.int p2), .val (.long p3), .second, .val (.int p4), .val (.int ms0_12), .val (.int ms0_26), .val (.int ms0_38), .val (.long ms0_51), .second, .val (.ref b10), .val (.ref b14), .val (.int ms0_95), .val (.ref r_34), .val .null, .val (.int v17_113), .val (.int v18_122), .val (.int f_4s), .val (.int f_4n), .val (.int f_4l)] [(.int f_4s)])) _
              refine XS.ifNo X44.here hx rfl (hb hby at_167) rfl ((if0 _ _).trans (feq hc167).1) ?_
              show Steps p.tables e below (T44.setTop (mkF m 170 #[.val (.int p0), .val (.long p1), .second, .val (.int p2), .val (.long p3), .second, .val (.int p4), .val (.int ms0_12), .val (.int ms0_26), .val (.int ms0_38), .val (.long ms0_51), .second, .val (.ref b10), .val (.ref b14), .val (.int ms0_95), .val (.ref r_34), .val .null, .val (.int v17_113), .val (.int v18_122), .val (.int f_4s), .val (.int f_4n), .val (.int f_4l)] [])) _
              refine XS.iload X44.here hx rfl (hb hby at_170) rfl  ?_
              by_cases hc172 : f_4n = (0 : Int32)
              · show Steps p.tables e below (T44.setTop (mkF m 172 #[.val (.int p0), .val (.long p1), .second, .val (.int p2), .val (.long p3), .second, .val (.int p4), .val (.int ms0_12), .val (.int ms0_26), .val (.int ms0_38), .val (.long ms0_51), .second, .val (.ref b10), .val (.ref b14), .val (.int ms0_95), .val (.ref r_34), .val .null, .val (.int v17_113), .val (.int v18_122), .val (.int f_4s), .val (.int f_4n), .val (.int f_4l)] [(.int f_4n)])) _
                refine XS.ifNo X44.here hx rfl (hb hby at_172) rfl ((if0 _ _).trans (teq hc172).2) ?_
                show Steps p.tables e below (T44.setTop (mkF m 175 #[.val (.int p0), .val (.long p1), .second, .val (.int p2), .val (.long p3), .second, .val (.int p4), .val (.int ms0_12), .val (.int ms0_26), .val (.int ms0_38), .val (.long ms0_51), .second, .val (.ref b10), .val (.ref b14), .val (.int ms0_95), .val (.ref r_34), .val .null, .val (.int v17_113), .val (.int v18_122), .val (.int f_4s), .val (.int f_4n), .val (.int f_4l)] [])) _
                refine XS.iload X44.here hx rfl (hb hby at_175) rfl  ?_
                by_cases hc177 : f_4l = (0 : Int32)
                · show Steps p.tables e below (T44.setTop (mkF m 177 #[.val (.int p0), .val (.long p1), .second, .val (.int p2), .val (.long p3), .second, .val (.int p4), .val (.int ms0_12), .val (.int ms0_26), .val (.int ms0_38), .val (.long ms0_51), .second, .val (.ref b10), .val (.ref b14), .val (.int ms0_95), .val (.ref r_34), .val .null, .val (.int v17_113), .val (.int v18_122), .val (.int f_4s), .val (.int f_4n), .val (.int f_4l)] [(.int f_4l)])) _
                  refine XS.ifNo X44.here hx rfl (hb hby at_177) rfl ((if0 _ _).trans (teq hc177).2) ?_
                  show Steps p.tables e below (T44.setTop (mkF m 180 #[.val (.int p0), .val (.long p1), .second, .val (.int p2), .val (.long p3), .second, .val (.int p4), .val (.int ms0_12), .val (.int ms0_26), .val (.int ms0_38), .val (.long ms0_51), .second, .val (.ref b10), .val (.ref b14), .val (.int ms0_95), .val (.ref r_34), .val .null, .val (.int v17_113), .val (.int v18_122), .val (.int f_4s), .val (.int f_4n), .val (.int f_4l)] [])) _
                  refine XS.iconst X44.here hx rfl (hb hby at_180) ?_
                  show Steps p.tables e below (T44.setTop (mkF m 181 #[.val (.int p0), .val (.long p1), .second, .val (.int p2), .val (.long p3), .second, .val (.int p4), .val (.int ms0_12), .val (.int ms0_26), .val (.int ms0_38), .val (.long ms0_51), .second, .val (.ref b10), .val (.ref b14), .val (.int ms0_95), .val (.ref r_34), .val .null, .val (.int v17_113), .val (.int v18_122), .val (.int f_4s), .val (.int f_4n), .val (.int f_4l)] [(.int (1 : Int32))])) _
                  refine XS.goto X44.here hx rfl (pc0 := 181) (pc' := 185) rfl (hb hby at_181) (by decide) (by decide) ?_
                  have qms0_185 : ms0_185 = (1 : Int32) := by rw [hms0_185, if_pos hc155, if_pos hc162, if_neg hc167, if_pos hc172, if_pos hc177]
                  rw [qms0_185] at k
                  exact k
                · show Steps p.tables e below (T44.setTop (mkF m 177 #[.val (.int p0), .val (.long p1), .second, .val (.int p2), .val (.long p3), .second, .val (.int p4), .val (.int ms0_12), .val (.int ms0_26), .val (.int ms0_38), .val (.long ms0_51), .second, .val (.ref b10), .val (.ref b14), .val (.int ms0_95), .val (.ref r_34), .val .null, .val (.int v17_113), .val (.int v18_122), .val (.int f_4s), .val (.int f_4n), .val (.int f_4l)] [(.int f_4l)])) _
                  refine XS.ifYes X44.here hx rfl (pc0 := 177) (pc' := 184) rfl (hb hby at_177) rfl ((if0 _ _).trans (feq hc177).2) (by decide) (by decide) ?_
                  show Steps p.tables e below (T44.setTop (mkF m 184 #[.val (.int p0), .val (.long p1), .second, .val (.int p2), .val (.long p3), .second, .val (.int p4), .val (.int ms0_12), .val (.int ms0_26), .val (.int ms0_38), .val (.long ms0_51), .second, .val (.ref b10), .val (.ref b14), .val (.int ms0_95), .val (.ref r_34), .val .null, .val (.int v17_113), .val (.int v18_122), .val (.int f_4s), .val (.int f_4n), .val (.int f_4l)] [])) _
                  refine XS.iconst X44.here hx rfl (hb hby at_184) ?_
                  have qms0_185 : ms0_185 = (0 : Int32) := by rw [hms0_185, if_pos hc155, if_pos hc162, if_neg hc167, if_pos hc172, if_neg hc177]
                  rw [qms0_185] at k
                  exact k
              · show Steps p.tables e below (T44.setTop (mkF m 172 #[.val (.int p0), .val (.long p1), .second, .val (.int p2), .val (.long p3), .second, .val (.int p4), .val (.int ms0_12), .val (.int ms0_26), .val (.int ms0_38), .val (.long ms0_51), .second, .val (.ref b10), .val (.ref b14), .val (.int ms0_95), .val (.ref r_34), .val .null, .val (.int v17_113), .val (.int v18_122), .val (.int f_4s), .val (.int f_4n), .val (.int f_4l)] [(.int f_4n)])) _
                refine XS.ifYes X44.here hx rfl (pc0 := 172) (pc' := 184) rfl (hb hby at_172) rfl ((if0 _ _).trans (feq hc172).2) (by decide) (by decide) ?_
                show Steps p.tables e below (T44.setTop (mkF m 184 #[.val (.int p0), .val (.long p1), .second, .val (.int p2), .val (.long p3), .second, .val (.int p4), .val (.int ms0_12), .val (.int ms0_26), .val (.int ms0_38), .val (.long ms0_51), .second, .val (.ref b10), .val (.ref b14), .val (.int ms0_95), .val (.ref r_34), .val .null, .val (.int v17_113), .val (.int v18_122), .val (.int f_4s), .val (.int f_4n), .val (.int f_4l)] [])) _
                refine XS.iconst X44.here hx rfl (hb hby at_184) ?_
                have qms0_185 : ms0_185 = (0 : Int32) := by rw [hms0_185, if_pos hc155, if_pos hc162, if_neg hc167, if_neg hc172]
                rw [qms0_185] at k
                exact k
          · show Steps p.tables e below (T44.setTop (mkF m 162 #[.val (.int p0), .val (.long p1), .second, .val (.int p2), .val (.long p3), .second, .val (.int p4), .val (.int ms0_12), .val (.int ms0_26), .val (.int ms0_38), .val (.long ms0_51), .second, .val (.ref b10), .val (.ref b14), .val (.int ms0_95), .val (.ref r_34), .val .null, .val (.int v17_113), .val (.int v18_122), .val (.int f_4s), .val (.int f_4n), .val (.int f_4l)] [(.int ms0_95), (.int v18_122)])) _
            refine XS.icmpYes X44.here hx rfl (pc0 := 162) (pc' := 184) rfl (hb hby at_162) rfl (feq hc162).2 (by decide) (by decide) ?_
            show Steps p.tables e below (T44.setTop (mkF m 184 #[.val (.int p0), .val (.long p1), .second, .val (.int p2), .val (.long p3), .second, .val (.int p4), .val (.int ms0_12), .val (.int ms0_26), .val (.int ms0_38), .val (.long ms0_51), .second, .val (.ref b10), .val (.ref b14), .val (.int ms0_95), .val (.ref r_34), .val .null, .val (.int v17_113), .val (.int v18_122), .val (.int f_4s), .val (.int f_4n), .val (.int f_4l)] [])) _
            refine XS.iconst X44.here hx rfl (hb hby at_184) ?_
            have qms0_185 : ms0_185 = (0 : Int32) := by rw [hms0_185, if_pos hc155, if_neg hc162]
            rw [qms0_185] at k
            exact k
        · show Steps p.tables e below (T44.setTop (mkF m 155 #[.val (.int p0), .val (.long p1), .second, .val (.int p2), .val (.long p3), .second, .val (.int p4), .val (.int ms0_12), .val (.int ms0_26), .val (.int ms0_38), .val (.long ms0_51), .second, .val (.ref b10), .val (.ref b14), .val (.int ms0_95), .val (.ref r_34), .val .null, .val (.int v17_113), .val (.int v18_122), .val (.int f_4s), .val (.int f_4n), .val (.int f_4l)] [(.int ms0_95), (.int v17_113)])) _
          refine XS.icmpYes X44.here hx rfl (pc0 := 155) (pc' := 184) rfl (hb hby at_155) rfl (feq hc155).2 (by decide) (by decide) ?_
          show Steps p.tables e below (T44.setTop (mkF m 184 #[.val (.int p0), .val (.long p1), .second, .val (.int p2), .val (.long p3), .second, .val (.int p4), .val (.int ms0_12), .val (.int ms0_26), .val (.int ms0_38), .val (.long ms0_51), .second, .val (.ref b10), .val (.ref b14), .val (.int ms0_95), .val (.ref r_34), .val .null, .val (.int v17_113), .val (.int v18_122), .val (.int f_4s), .val (.int f_4n), .val (.int f_4l)] [])) _
          refine XS.iconst X44.here hx rfl (hb hby at_184) ?_
          have qms0_185 : ms0_185 = (0 : Int32) := by rw [hms0_185, if_neg hc155]
          rw [qms0_185] at k
          exact k
      have hnar : nar .boolean ms0_185 = ms0_185 := by rw [hms0_185]; (repeat' split) <;> rfl
      obtain ⟨fs, hr, hrun, hended, hW, hsame⟩ := X44.leave (v := some (.int ms0_185)) (fun h => by rw [Bd.returns] at h; cases h) (BodyLoose.notSynchronized Bd)
      refine ⟨_, _, pre47 _ ?_, hrun, hended, _, _, rfl, ?_, ⟨_, rfl⟩, hW, hsame.mono (by decide) (by decide)⟩
      · show Steps p.tables e below (T44.setTop (mkF m 185 #[.val (.int p0), .val (.long p1), .second, .val (.int p2), .val (.long p3), .second, .val (.int p4), .val (.int ms0_12), .val (.int ms0_26), .val (.int ms0_38), .val (.long ms0_51), .second, .val (.ref b10), .val (.ref b14), .val (.int ms0_95), .val (.ref r_34), .val .null, .val (.int v17_113), .val (.int v18_122), .val (.int f_4s), .val (.int f_4n), .val (.int f_4l)] [(.int ms0_185)])) _
        exact retN X44 hx (t := .boolean) Bd.returns (by simp) (hb hby at_185) (by rw [hnar]; exact hr)
      · show Q_0 Z p0 p1 p2 p3 p4 en ca h0 n0 _ T44.heap _
        rw [e44]
        exact ⟨congrArg (fun z => some (Value.int z)) (by subst hms0_12 hms0_26 hms0_38 hms0_51 hms0_95 hv17_113 hv18_122 hms0_185; exact ((if_neg hlo).trans (if_pos hhi)).symm : ms0_185 = f_0 p0 p1 p2 p3 p4 en), N44, trivial⟩
    · have pre49 : ∀ t, Steps p.tables e below (T15.setTop (mkF m 98 #[.val (.int p0), .val (.long p1), .second, .val (.int p2), .val (.long p3), .second, .val (.int p4), .val (.int ms0_12), .val (.int ms0_26), .val (.int ms0_38), .val (.long ms0_51), .second, .val (.ref b10), .val (.ref b14), .val (.int ms0_95), .unset, .unset, .unset, .unset, .unset, .unset, .unset] [(.int p0)])) t → Steps p.tables e below (s₁.setTop (entryFrame m #[(.int p0), (.long p1), (.int p2), (.long p3), (.int p4)] maxLocals)) t := by
        intro t k
        refine pre19 t ?_
        show Steps p.tables e below (T15.setTop (mkF m 97 #[.val (.int p0), .val (.long p1), .second, .val (.int p2), .val (.long p3), .second, .val (.int p4), .val (.int ms0_12), .val (.int ms0_26), .val (.int ms0_38), .val (.long ms0_51), .second, .val (.ref b10), .val (.ref b14), .val (.int ms0_95), .unset, .unset, .unset, .unset, .unset, .unset, .unset] [])) _
        refine XS.iloadN X15.here hx rfl (hb hby at_97) rfl  ?_
        exact k
      obtain ⟨_, _, ⟨T48, L48, k48, n48⟩, -, X48, ⟨Lc48, hQ48, l48, y48, z48⟩, st48⟩ := Jvm.LawKit.callS X15 hx (y := (⟨"java/lang/Integer", "valueOf", "(I)Ljava/lang/Integer;"⟩ : MethodName)) hown (mvT hZ (hw _ (List.mem_of_getElem? (i := 13) rfl))) (mvT hZ (hw _ (List.mem_of_getElem? (i := 14) rfl))) (mvT hZ (hw _ (List.mem_of_getElem? (i := 15) rfl))) (mvT hZ (hw _ (List.mem_of_getElem? (i := 16) rfl))) (by decide) (backOf (W := 0) (rm_3c l Z a0 hw [] p0 en ca T15.heap n0 Z15 sta_java_lang_Integer_IntegerCache_high_15 sta_java_lang_Integer_IntegerCache_cache_15 arr_ca_15 hlo hhi) hZ (hw _ (List.mem_of_getElem? (i := 16) rfl)) (hw _ (List.mem_of_getElem? (i := 15) rfl)) (by decide) (by decide)) (g := (mkF m 98 #[.val (.int p0), .val (.long p1), .second, .val (.int p2), .val (.long p3), .second, .val (.int p4), .val (.int ms0_12), .val (.int ms0_26), .val (.int ms0_38), .val (.long ms0_51), .second, .val (.ref b10), .val (.ref b14), .val (.int ms0_95), .unset, .unset, .unset, .unset, .unset, .unset, .unset] [(.int p0)])) rfl (by rw [hml]; rfl) (argsL := [(.int p0)]) (rest := []) (lenOf pd_3 rfl) rfl (by show 2 * 0 + _ ≤ _; exact Nat.le_of_eq rfl) (hb hby at_98) (fun _ _ => ⟨rfl, rfl, (by decide : 2 + 0 ≤ _), (by decide : 4 + 0 ≤ _)⟩)
      dsimp only [Pt.U, Pt.locs, Pt.cells, Pt.slots] at X48 l48 y48 z48 st48 hQ48
      rw [l48, y48, z48] at X48
      obtain ⟨rfl, N48q, e48⟩ := hQ48
      have N48 := Fr.app N15 N48q
      have pre50 : ∀ t, Steps p.tables e below (T48.setTop (mkF m 101 #[.val (.int p0), .val (.long p1), .second, .val (.int p2), .val (.long p3), .second, .val (.int p4), .val (.int ms0_12), .val (.int ms0_26), .val (.int ms0_38), .val (.long ms0_51), .second, .val (.ref b10), .val (.ref b14), .val (.int ms0_95), .unset, .unset, .unset, .unset, .unset, .unset, .unset] [(.ref (en (p0 + (128 : Int32)).toNatClampNeg))])) t → Steps p.tables e below (s₁.setTop (entryFrame m #[(.int p0), (.long p1), (.int p2), (.long p3), (.int p4)] maxLocals)) t := by
        intro t k
        refine pre49 t ?_
        show Steps p.tables e below (T15.setTop (mkF m 98 #[.val (.int p0), .val (.long p1), .second, .val (.int p2), .val (.long p3), .second, .val (.int p4), .val (.int ms0_12), .val (.int ms0_26), .val (.int ms0_38), .val (.long ms0_51), .second, .val (.ref b10), .val (.ref b14), .val (.int ms0_95), .unset, .unset, .unset, .unset, .unset, .unset, .unset] [(.int p0)])) _
        refine st48 _ ?_
        exact k
      obtain ⟨io, hio⟩ : ∃ z : Addr, z = (en (p0 + (128 : Int32)).toNatClampNeg) := ⟨_, rfl⟩
      have pre51 : ∀ t, Steps p.tables e below (T48.setTop (mkF m 101 #[.val (.int p0), .val (.long p1), .second, .val (.int p2), .val (.long p3), .second, .val (.int p4), .val (.int ms0_12), .val (.int ms0_26), .val (.int ms0_38), .val (.long ms0_51), .second, .val (.ref b10), .val (.ref b14), .val (.int ms0_95), .unset, .unset, .unset, .unset, .unset, .unset, .unset] [(.ref io)])) t → Steps p.tables e below (s₁.setTop (entryFrame m #[(.int p0), (.long p1), (.int p2), (.long p3), (.int p4)] maxLocals)) t := by
        intro t k
        rw [hio] at k
        exact pre50 t k
      have EI0 : Exa Z h0 io "java/lang/Integer" := by rw [hio]; exact hE _ (own_ix hlo hhi).2
      have EI := EI0.keep K15
      have ne_io_b10 : io ≠ b10 := Nat.ne_of_lt (Nat.lt_of_lt_of_le EI0.lt sz_b10)
      have ne_io_b14 : io ≠ b14 := Nat.ne_of_lt (Nat.lt_of_lt_of_le EI0.lt sz_b14)
      have pre53 : ∀ t, Steps p.tables e below (T48.setTop (mkF m 110 #[.val (.int p0), .val (.long p1), .second, .val (.int p2), .val (.long p3), .second, .val (.int p4), .val (.int ms0_12), .val (.int ms0_26), .val (.int ms0_38), .val (.long ms0_51), .second, .val (.ref b10), .val (.ref b14), .val (.int ms0_95), .val (.ref io), .val .null, .unset, .unset, .unset, .unset, .unset] [(.ref b14), (.ref b10)])) t → Steps p.tables e below (s₁.setTop (entryFrame m #[(.int p0), (.long p1), (.int p2), (.long p3), (.int p4)] maxLocals)) t := by
        intro t k
        refine pre51 t ?_
        show Steps p.tables e below (T48.setTop (mkF m 101 #[.val (.int p0), .val (.long p1), .second, .val (.int p2), .val (.long p3), .second, .val (.int p4), .val (.int ms0_12), .val (.int ms0_26), .val (.int ms0_38), .val (.long ms0_51), .second, .val (.ref b10), .val (.ref b14), .val (.int ms0_95), .unset, .unset, .unset, .unset, .unset, .unset, .unset] [(.ref io)])) _
        refine XS.astore X48.here hx rfl (hb hby at_101) rfl rfl (l' := #[.val (.int p0), .val (.long p1), .second, .val (.int p2), .val (.long p3), .second, .val (.int p4), .val (.int ms0_12), .val (.int ms0_26), .val (.int ms0_38), .val (.long ms0_51), .second, .val (.ref b10), .val (.ref b14), .val (.int ms0_95), .val (.ref io), .unset, .unset, .unset, .unset, .unset, .unset]) rfl ?_
        show Steps p.tables e below (T48.setTop (mkF m 103 #[.val (.int p0), .val (.long p1), .second, .val (.int p2), .val (.long p3), .second, .val (.int p4), .val (.int ms0_12), .val (.int ms0_26), .val (.int ms0_38), .val (.long ms0_51), .second, .val (.ref b10), .val (.ref b14), .val (.int ms0_95), .val (.ref io), .unset, .unset, .unset, .unset, .unset, .unset] [])) _
        refine XS.aconstNull X48.here hx rfl (hb hby at_103) ?_
        show Steps p.tables e below (T48.setTop (mkF m 104 #[.val (.int p0), .val (.long p1), .second, .val (.int p2), .val (.long p3), .second, .val (.int p4), .val (.int ms0_12), .val (.int ms0_26), .val (.int ms0_38), .val (.long ms0_51), .second, .val (.ref b10), .val (.ref b14), .val (.int ms0_95), .val (.ref io), .unset, .unset, .unset, .unset, .unset, .unset] [.null])) _
        refine XS.astore X48.here hx rfl (hb hby at_104) rfl rfl (l' := #[.val (.int p0), .val (.long p1), .second, .val (.int p2), .val (.long p3), .second, .val (.int p4), .val (.int ms0_12), .val (.int ms0_26), .val (.int ms0_38), .val (.long ms0_51), .second, .val (.ref b10), .val (.ref b14), .val (.int ms0_95), .val (.ref io), .val .null, .unset, .unset, .unset, .unset, .unset]) rfl ?_
        show Steps p.tables e below (T48.setTop (mkF m 106 #[.val (.int p0), .val (.long p1), .second, .val (.int p2), .val (.long p3), .second, .val (.int p4), .val (.int ms0_12), .val (.int ms0_26), .val (.int ms0_38), .val (.long ms0_51), .second, .val (.ref b10), .val (.ref b14), .val (.int ms0_95), .val (.ref io), .val .null, .unset, .unset, .unset, .unset, .unset] [])) _
        refine XS.aload X48.here hx rfl (hb hby at_106) rfl rfl ?_
        show Steps p.tables e below (T48.setTop (mkF m 108 #[.val (.int p0), .val (.long p1), .second, .val (.int p2), .val (.long p3), .second, .val (.int p4), .val (.int ms0_12), .val (.int ms0_26), .val (.int ms0_38), .val (.long ms0_51), .second, .val (.ref b10), .val (.ref b14), .val (.int ms0_95), .val (.ref io), .val .null, .unset, .unset, .unset, .unset, .unset] [(.ref b10)])) _
        refine XS.aload X48.here hx rfl (hb hby at_108) rfl rfl ?_
        exact k
      obtain ⟨cq52, kq52, q52a, q52b, q52c⟩ := isOf hZ e48 exa_b10_15
      obtain ⟨_, _, ⟨T52, L52, k52, n52⟩, -, X52, ⟨Lc52, hQ52, l52, y52, z52⟩, st52⟩ := X48.virtualBack hx (y := (⟨"com/example/sibyl/sibyl/kernel/Label", "equals", "(Ljava/lang/Object;)Z"⟩ : MethodName)) (z := (⟨"com/example/sibyl/sibyl/kernel/Label", "equals", "(Ljava/lang/Object;)Z"⟩ : MethodName)) hown (mvT hZ (hw _ (List.mem_of_getElem? (i := 20) rfl))) (mvT hZ (hw _ (List.mem_of_getElem? (i := 21) rfl))) (notFace_of_selects (args := #[]) (mvT hZ (hw _ (List.mem_of_getElem? (i := 23) rfl)))) (mvT hZ (hw _ (List.mem_of_getElem? (i := 23) rfl))) (mvT hZ (hw _ (List.mem_of_getElem? (i := 22) rfl))) (by decide) (backOf (W := 0) (rm_4o l Z a0 hw [] b10 b14 p0 p1 ms0_38 ms0_51 T15.heap n0 Z15 ne_b10_b14 Q15_0 fld_b10_level_15 fld_b10_categories_15 Q15_1 Q15_2) hZ (hw _ (List.mem_of_getElem? (i := 24) rfl)) (hw _ (List.mem_of_getElem? (i := 2) rfl)) (by decide) (by decide)) q52a q52c (g := (mkF m 110 #[.val (.int p0), .val (.long p1), .second, .val (.int p2), .val (.long p3), .second, .val (.int p4), .val (.int ms0_12), .val (.int ms0_26), .val (.int ms0_38), .val (.long ms0_51), .second, .val (.ref b10), .val (.ref b14), .val (.int ms0_95), .val (.ref io), .val .null, .unset, .unset, .unset, .unset, .unset] [(.ref b14), (.ref b10)])) rfl (by rw [hml]; rfl) (Steps.refl _) (argsL := [(.ref b14)]) (rest := []) (lenOf pd_4 rfl) rfl (by show 2 * 0 + _ ≤ _; exact Nat.le_of_eq rfl) (hb hby at_110) (fun _ _ => ⟨rfl, e48, (by decide : 2 + 0 ≤ _), (by decide : 4 + 0 ≤ _)⟩)
      dsimp only [Pt.U, Pt.locs, Pt.cells, Pt.slots] at X52 l52 y52 z52 st52 hQ52
      rw [l52, y52, z52] at X52
      obtain ⟨rfl, N52q, e52⟩ := hQ52
      have N52 := Fr.app N48 N52q
      obtain ⟨v17_113, hv17_113⟩ : ∃ z : Int32, z = (f_4o p0 p1 ms0_38 ms0_51) := ⟨_, rfl⟩
      have pre55 : ∀ t, Steps p.tables e below (T52.setTop (mkF m 119 #[.val (.int p0), .val (.long p1), .second, .val (.int p2), .val (.long p3), .second, .val (.int p4), .val (.int ms0_12), .val (.int ms0_26), .val (.int ms0_38), .val (.long ms0_51), .second, .val (.ref b10), .val (.ref b14), .val (.int ms0_95), .val (.ref io), .val .null, .val (.int v17_113), .unset, .unset, .unset, .unset] [(.ref b10), (.ref b14)])) t → Steps p.tables e below (s₁.setTop (entryFrame m #[(.int p0), (.long p1), (.int p2), (.long p3), (.int p4)] maxLocals)) t := by
        intro t k
        refine pre53 t ?_
        show Steps p.tables e below (T48.setTop (mkF m 110 #[.val (.int p0), .val (.long p1), .second, .val (.int p2), .val (.long p3), .second, .val (.int p4), .val (.int ms0_12), .val (.int ms0_26), .val (.int ms0_38), .val (.long ms0_51), .second, .val (.ref b10), .val (.ref b14), .val (.int ms0_95), .val (.ref io), .val .null, .unset, .unset, .unset, .unset, .unset] [(.ref b14), (.ref b10)])) _
        refine st52.trans ?_
        show Steps p.tables e below (T52.setTop (mkF m 113 #[.val (.int p0), .val (.long p1), .second, .val (.int p2), .val (.long p3), .second, .val (.int p4), .val (.int ms0_12), .val (.int ms0_26), .val (.int ms0_38), .val (.long ms0_51), .second, .val (.ref b10), .val (.ref b14), .val (.int ms0_95), .val (.ref io), .val .null, .unset, .unset, .unset, .unset, .unset] [(.int (f_4o p0 p1 ms0_38 ms0_51))])) _
        refine XS.istore X52.here hx rfl (hb hby at_113) rfl (l' := #[.val (.int p0), .val (.long p1), .second, .val (.int p2), .val (.long p3), .second, .val (.int p4), .val (.int ms0_12), .val (.int ms0_26), .val (.int ms0_38), .val (.long ms0_51), .second, .val (.ref b10), .val (.ref b14), .val (.int ms0_95), .val (.ref io), .val .null, .val (.int v17_113), .unset, .unset, .unset, .unset]) (by rw [hv17_113]; rfl) ?_
        show Steps p.tables e below (T52.setTop (mkF m 115 #[.val (.int p0), .val (.long p1), .second, .val (.int p2), .val (.long p3), .second, .val (.int p4), .val (.int ms0_12), .val (.int ms0_26), .val (.int ms0_38), .val (.long ms0_51), .second, .val (.ref b10), .val (.ref b14), .val (.int ms0_95), .val (.ref io), .val .null, .val (.int v17_113), .unset, .unset, .unset, .unset] [])) _
        refine XS.aload X52.here hx rfl (hb hby at_115) rfl rfl ?_
        show Steps p.tables e below (T52.setTop (mkF m 117 #[.val (.int p0), .val (.long p1), .second, .val (.int p2), .val (.long p3), .second, .val (.int p4), .val (.int ms0_12), .val (.int ms0_26), .val (.int ms0_38), .val (.long ms0_51), .second, .val (.ref b10), .val (.ref b14), .val (.int ms0_95), .val (.ref io), .val .null, .val (.int v17_113), .unset, .unset, .unset, .unset] [(.ref b14)])) _
        refine XS.aload X52.here hx rfl (hb hby at_117) rfl rfl ?_
        exact k
      obtain ⟨cq54, kq54, q54a, q54b, q54c⟩ := isOf hZ e52 Q15_0
      obtain ⟨_, _, ⟨T54, L54, k54, n54⟩, -, X54, ⟨Lc54, hQ54, l54, y54, z54⟩, st54⟩ := X52.virtualBack hx (y := (⟨"com/example/sibyl/sibyl/kernel/Label", "equals", "(Ljava/lang/Object;)Z"⟩ : MethodName)) (z := (⟨"com/example/sibyl/sibyl/kernel/Label", "equals", "(Ljava/lang/Object;)Z"⟩ : MethodName)) hown (mvT hZ (hw _ (List.mem_of_getElem? (i := 20) rfl))) (mvT hZ (hw _ (List.mem_of_getElem? (i := 21) rfl))) (notFace_of_selects (args := #[]) (mvT hZ (hw _ (List.mem_of_getElem? (i := 23) rfl)))) (mvT hZ (hw _ (List.mem_of_getElem? (i := 23) rfl))) (mvT hZ (hw _ (List.mem_of_getElem? (i := 22) rfl))) (by decide) (backOf (W := 0) (rm_4o l Z a0 hw [] b14 b10 ms0_38 ms0_51 p0 p1 T15.heap n0 Z15 ne_b10_b14.symm exa_b10_15 Q15_1 Q15_2 fld_b10_level_15 fld_b10_categories_15) hZ (hw _ (List.mem_of_getElem? (i := 24) rfl)) (hw _ (List.mem_of_getElem? (i := 2) rfl)) (by decide) (by decide)) q54a q54c (g := (mkF m 119 #[.val (.int p0), .val (.long p1), .second, .val (.int p2), .val (.long p3), .second, .val (.int p4), .val (.int ms0_12), .val (.int ms0_26), .val (.int ms0_38), .val (.long ms0_51), .second, .val (.ref b10), .val (.ref b14), .val (.int ms0_95), .val (.ref io), .val .null, .val (.int v17_113), .unset, .unset, .unset, .unset] [(.ref b10), (.ref b14)])) rfl (by rw [hml]; rfl) (Steps.refl _) (argsL := [(.ref b10)]) (rest := []) (lenOf pd_4 rfl) rfl (by show 2 * 0 + _ ≤ _; exact Nat.le_of_eq rfl) (hb hby at_119) (fun _ _ => ⟨rfl, e52, (by decide : 2 + 0 ≤ _), (by decide : 4 + 0 ≤ _)⟩)
      dsimp only [Pt.U, Pt.locs, Pt.cells, Pt.slots] at X54 l54 y54 z54 st54 hQ54
      rw [l54, y54, z54] at X54
      obtain ⟨rfl, N54q, e54⟩ := hQ54
      have N54 := Fr.app N52 N54q
      obtain ⟨v18_122, hv18_122⟩ : ∃ z : Int32, z = (f_4o ms0_38 ms0_51 p0 p1) := ⟨_, rfl⟩
      have pre57 : ∀ t, Steps p.tables e below (T54.setTop (mkF m 128 #[.val (.int p0), .val (.long p1), .second, .val (.int p2), .val (.long p3), .second, .val (.int p4), .val (.int ms0_12), .val (.int ms0_26), .val (.int ms0_38), .val (.long ms0_51), .second, .val (.ref b10), .val (.ref b14), .val (.int ms0_95), .val (.ref io), .val .null, .val (.int v17_113), .val (.int v18_122), .unset, .unset, .unset] [(.ref b10), (.ref b10)])) t → Steps p.tables e below (s₁.setTop (entryFrame m #[(.int p0), (.long p1), (.int p2), (.long p3), (.int p4)] maxLocals)) t := by
        intro t k
        refine pre55 t ?_
        show Steps p.tables e below (T52.setTop (mkF m 119 #[.val (.int p0), .val (.long p1), .second, .val (.int p2), .val (.long p3), .second, .val (.int p4), .val (.int ms0_12), .val (.int ms0_26), .val (.int ms0_38), .val (.long ms0_51), .second, .val (.ref b10), .val (.ref b14), .val (.int ms0_95), .val (.ref io), .val .null, .val (.int v17_113), .unset, .unset, .unset, .unset] [(.ref b10), (.ref b14)])) _
        refine st54.trans ?_
        show Steps p.tables e below (T54.setTop (mkF m 122 #[.val (.int p0), .val (.long p1), .second, .val (.int p2), .val (.long p3), .second, .val (.int p4), .val (.int ms0_12), .val (.int ms0_26), .val (.int ms0_38), .val (.long ms0_51), .second, .val (.ref b10), .val (.ref b14), .val (.int ms0_95), .val (.ref io), .val .null, .val (.int v17_113), .unset, .unset, .unset, .unset] [(.int (f_4o ms0_38 ms0_51 p0 p1))])) _
        refine XS.istore X54.here hx rfl (hb hby at_122) rfl (l' := #[.val (.int p0), .val (.long p1), .second, .val (.int p2), .val (.long p3), .second, .val (.int p4), .val (.int ms0_12), .val (.int ms0_26), .val (.int ms0_38), .val (.long ms0_51), .second, .val (.ref b10), .val (.ref b14), .val (.int ms0_95), .val (.ref io), .val .null, .val (.int v17_113), .val (.int v18_122), .unset, .unset, .unset]) (by rw [hv18_122]; rfl) ?_
        show Steps p.tables e below (T54.setTop (mkF m 124 #[.val (.int p0), .val (.long p1), .second, .val (.int p2), .val (.long p3), .second, .val (.int p4), .val (.int ms0_12), .val (.int ms0_26), .val (.int ms0_38), .val (.long ms0_51), .second, .val (.ref b10), .val (.ref b14), .val (.int ms0_95), .val (.ref io), .val .null, .val (.int v17_113), .val (.int v18_122), .unset, .unset, .unset] [])) _
        refine XS.aload X54.here hx rfl (hb hby at_124) rfl rfl ?_
        show Steps p.tables e below (T54.setTop (mkF m 126 #[.val (.int p0), .val (.long p1), .second, .val (.int p2), .val (.long p3), .second, .val (.int p4), .val (.int ms0_12), .val (.int ms0_26), .val (.int ms0_38), .val (.long ms0_51), .second, .val (.ref b10), .val (.ref b14), .val (.int ms0_95), .val (.ref io), .val .null, .val (.int v17_113), .val (.int v18_122), .unset, .unset, .unset] [(.ref b10)])) _
        refine XS.aload X54.here hx rfl (hb hby at_126) rfl rfl ?_
        exact k
      obtain ⟨cq56, kq56, q56a, q56b, q56c⟩ := isOf hZ e54 exa_b10_15
      obtain ⟨_, _, ⟨T56, L56, k56, n56⟩, -, X56, ⟨Lc56, hQ56, l56, y56, z56⟩, st56⟩ := X54.virtualBack hx (y := (⟨"com/example/sibyl/sibyl/kernel/Label", "equals", "(Ljava/lang/Object;)Z"⟩ : MethodName)) (z := (⟨"com/example/sibyl/sibyl/kernel/Label", "equals", "(Ljava/lang/Object;)Z"⟩ : MethodName)) hown (mvT hZ (hw _ (List.mem_of_getElem? (i := 20) rfl))) (mvT hZ (hw _ (List.mem_of_getElem? (i := 21) rfl))) (notFace_of_selects (args := #[]) (mvT hZ (hw _ (List.mem_of_getElem? (i := 23) rfl)))) (mvT hZ (hw _ (List.mem_of_getElem? (i := 23) rfl))) (mvT hZ (hw _ (List.mem_of_getElem? (i := 22) rfl))) (by decide) (backOf (W := 0) (rm_4s l Z a0 hw [] b10 T15.heap n0 Z15 ) hZ (hw _ (List.mem_of_getElem? (i := 24) rfl)) (hw _ (List.mem_of_getElem? (i := 2) rfl)) (by decide) (by decide)) q56a q56c (g := (mkF m 128 #[.val (.int p0), .val (.long p1), .second, .val (.int p2), .val (.long p3), .second, .val (.int p4), .val (.int ms0_12), .val (.int ms0_26), .val (.int ms0_38), .val (.long ms0_51), .second, .val (.ref b10), .val (.ref b14), .val (.int ms0_95), .val (.ref io), .val .null, .val (.int v17_113), .val (.int v18_122), .unset, .unset, .unset] [(.ref b10), (.ref b10)])) rfl (by rw [hml]; rfl) (Steps.refl _) (argsL := [(.ref b10)]) (rest := []) (lenOf pd_4 rfl) rfl (by show 2 * 0 + _ ≤ _; exact Nat.le_of_eq rfl) (hb hby at_128) (fun _ _ => ⟨rfl, e54, (by decide : 2 + 0 ≤ _), (by decide : 4 + 0 ≤ _)⟩)
      dsimp only [Pt.U, Pt.locs, Pt.cells, Pt.slots] at X56 l56 y56 z56 st56 hQ56
      rw [l56, y56, z56] at X56
      obtain ⟨rfl, N56q, e56⟩ := hQ56
      have N56 := Fr.app N54 N56q
      have pre59 : ∀ t, Steps p.tables e below (T56.setTop (mkF m 137 #[.val (.int p0), .val (.long p1), .second, .val (.int p2), .val (.long p3), .second, .val (.int p4), .val (.int ms0_12), .val (.int ms0_26), .val (.int ms0_38), .val (.long ms0_51), .second, .val (.ref b10), .val (.ref b14), .val (.int ms0_95), .val (.ref io), .val .null, .val (.int v17_113), .val (.int v18_122), .val (.int f_4s), .unset, .unset] [.null, (.ref b10)])) t → Steps p.tables e below (s₁.setTop (entryFrame m #[(.int p0), (.long p1), (.int p2), (.long p3), (.int p4)] maxLocals)) t := by
        intro t k
        refine pre57 t ?_
        show Steps p.tables e below (T54.setTop (mkF m 128 #[.val (.int p0), .val (.long p1), .second, .val (.int p2), .val (.long p3), .second, .val (.int p4), .val (.int ms0_12), .val (.int ms0_26), .val (.int ms0_38), .val (.long ms0_51), .second, .val (.ref b10), .val (.ref b14), .val (.int ms0_95), .val (.ref io), .val .null, .val (.int v17_113), .val (.int v18_122), .unset, .unset, .unset] [(.ref b10), (.ref b10)])) _
        refine st56.trans ?_
        show Steps p.tables e below (T56.setTop (mkF m 131 #[.val (.int p0), .val (.long p1), .second, .val (.int p2), .val (.long p3), .second, .val (.int p4), .val (.int ms0_12), .val (.int ms0_26), .val (.int ms0_38), .val (.long ms0_51), .second, .val (.ref b10), .val (.ref b14), .val (.int ms0_95), .val (.ref io), .val .null, .val (.int v17_113), .val (.int v18_122), .unset, .unset, .unset] [(.int f_4s)])) _
        refine XS.istore X56.here hx rfl (hb hby at_131) rfl (l' := #[.val (.int p0), .val (.long p1), .second, .val (.int p2), .val (.long p3), .second, .val (.int p4), .val (.int ms0_12), .val (.int ms0_26), .val (.int ms0_38), .val (.long ms0_51), .second, .val (.ref b10), .val (.ref b14), .val (.int ms0_95), .val (.ref io), .val .null, .val (.int v17_113), .val (.int v18_122), .val (.int f_4s), .unset, .unset]) rfl ?_
        show Steps p.tables e below (T56.setTop (mkF m 133 #[.val (.int p0), .val (.long p1), .second, .val (.int p2), .val (.long p3), .second, .val (.int p4), .val (.int ms0_12), .val (.int ms0_26), .val (.int ms0_38), .val (.long ms0_51), .second, .val (.ref b10), .val (.ref b14), .val (.int ms0_95), .val (.ref io), .val .null, .val (.int v17_113), .val (.int v18_122), .val (.int f_4s), .unset, .unset] [])) _
        refine XS.aload X56.here hx rfl (hb hby at_133) rfl rfl ?_
        show Steps p.tables e below (T56.setTop (mkF m 135 #[.val (.int p0), .val (.long p1), .second, .val (.int p2), .val (.long p3), .second, .val (.int p4), .val (.int ms0_12), .val (.int ms0_26), .val (.int ms0_38), .val (.long ms0_51), .second, .val (.ref b10), .val (.ref b14), .val (.int ms0_95), .val (.ref io), .val .null, .val (.int v17_113), .val (.int v18_122), .val (.int f_4s), .unset, .unset] [(.ref b10)])) _
        refine XS.aload X56.here hx rfl (hb hby at_135) rfl rfl ?_
        exact k
      obtain ⟨cq58, kq58, q58a, q58b, q58c⟩ := isOf hZ e56 exa_b10_15
      obtain ⟨_, _, ⟨T58, L58, k58, n58⟩, -, X58, ⟨Lc58, hQ58, l58, y58, z58⟩, st58⟩ := X56.virtualBack hx (y := (⟨"com/example/sibyl/sibyl/kernel/Label", "equals", "(Ljava/lang/Object;)Z"⟩ : MethodName)) (z := (⟨"com/example/sibyl/sibyl/kernel/Label", "equals", "(Ljava/lang/Object;)Z"⟩ : MethodName)) hown (mvT hZ (hw _ (List.mem_of_getElem? (i := 20) rfl))) (mvT hZ (hw _ (List.mem_of_getElem? (i := 21) rfl))) (notFace_of_selects (args := #[]) (mvT hZ (hw _ (List.mem_of_getElem? (i := 23) rfl)))) (mvT hZ (hw _ (List.mem_of_getElem? (i := 23) rfl))) (mvT hZ (hw _ (List.mem_of_getElem? (i := 22) rfl))) (by decide) (backOf (W := 0) (rm_4n l Z a0 hw [] b10 T15.heap n0 Z15 ) hZ (hw _ (List.mem_of_getElem? (i := 24) rfl)) (hw _ (List.mem_of_getElem? (i := 2) rfl)) (by decide) (by decide)) q58a q58c (g := (mkF m 137 #[.val (.int p0), .val (.long p1), .second, .val (.int p2), .val (.long p3), .second, .val (.int p4), .val (.int ms0_12), .val (.int ms0_26), .val (.int ms0_38), .val (.long ms0_51), .second, .val (.ref b10), .val (.ref b14), .val (.int ms0_95), .val (.ref io), .val .null, .val (.int v17_113), .val (.int v18_122), .val (.int f_4s), .unset, .unset] [.null, (.ref b10)])) rfl (by rw [hml]; rfl) (Steps.refl _) (argsL := [.null]) (rest := []) (lenOf pd_4 rfl) rfl (by show 2 * 0 + _ ≤ _; exact Nat.le_of_eq rfl) (hb hby at_137) (fun _ _ => ⟨rfl, e56, (by decide : 2 + 0 ≤ _), (by decide : 4 + 0 ≤ _)⟩)
      dsimp only [Pt.U, Pt.locs, Pt.cells, Pt.slots] at X58 l58 y58 z58 st58 hQ58
      rw [l58, y58, z58] at X58
      obtain ⟨rfl, N58q, e58⟩ := hQ58
      have N58 := Fr.app N56 N58q
      have pre61 : ∀ t, Steps p.tables e below (T58.setTop (mkF m 146 #[.val (.int p0), .val (.long p1), .second, .val (.int p2), .val (.long p3), .second, .val (.int p4), .val (.int ms0_12), .val (.int ms0_26), .val (.int ms0_38), .val (.long ms0_51), .second, .val (.ref b10), .val (.ref b14), .val (.int ms0_95), .val (.ref io), .val .null, .val (.int v17_113), .val (.int v18_122), .val (.int f_4s), .val (.int f_4n), .unset] [(.ref io), (.ref b10)])) t → Steps p.tables e below (s₁.setTop (entryFrame m #[(.int p0), (.long p1), (.int p2), (.long p3), (.int p4)] maxLocals)) t := by
        intro t k
        refine pre59 t ?_
        show Steps p.tables e below (T56.setTop (mkF m 137 #[.val (.int p0), .val (.long p1), .second, .val (.int p2), .val (.long p3), .second, .val (.int p4), .val (.int ms0_12), .val (.int ms0_26), .val (.int ms0_38), .val (.long ms0_51), .second, .val (.ref b10), .val (.ref b14), .val (.int ms0_95), .val (.ref io), .val .null, .val (.int v17_113), .val (.int v18_122), .val (.int f_4s), .unset, .unset] [.null, (.ref b10)])) _
        refine st58.trans ?_
        show Steps p.tables e below (T58.setTop (mkF m 140 #[.val (.int p0), .val (.long p1), .second, .val (.int p2), .val (.long p3), .second, .val (.int p4), .val (.int ms0_12), .val (.int ms0_26), .val (.int ms0_38), .val (.long ms0_51), .second, .val (.ref b10), .val (.ref b14), .val (.int ms0_95), .val (.ref io), .val .null, .val (.int v17_113), .val (.int v18_122), .val (.int f_4s), .unset, .unset] [(.int f_4n)])) _
        refine XS.istore X58.here hx rfl (hb hby at_140) rfl (l' := #[.val (.int p0), .val (.long p1), .second, .val (.int p2), .val (.long p3), .second, .val (.int p4), .val (.int ms0_12), .val (.int ms0_26), .val (.int ms0_38), .val (.long ms0_51), .second, .val (.ref b10), .val (.ref b14), .val (.int ms0_95), .val (.ref io), .val .null, .val (.int v17_113), .val (.int v18_122), .val (.int f_4s), .val (.int f_4n), .unset]) rfl ?_
        show Steps p.tables e below (T58.setTop (mkF m 142 #[.val (.int p0), .val (.long p1), .second, .val (.int p2), .val (.long p3), .second, .val (.int p4), .val (.int ms0_12), .val (.int ms0_26), .val (.int ms0_38), .val (.long ms0_51), .second, .val (.ref b10), .val (.ref b14), .val (.int ms0_95), .val (.ref io), .val .null, .val (.int v17_113), .val (.int v18_122), .val (.int f_4s), .val (.int f_4n), .unset] [])) _
        refine XS.aload X58.here hx rfl (hb hby at_142) rfl rfl ?_
        show Steps p.tables e below (T58.setTop (mkF m 144 #[.val (.int p0), .val (.long p1), .second, .val (.int p2), .val (.long p3), .second, .val (.int p4), .val (.int ms0_12), .val (.int ms0_26), .val (.int ms0_38), .val (.long ms0_51), .second, .val (.ref b10), .val (.ref b14), .val (.int ms0_95), .val (.ref io), .val .null, .val (.int v17_113), .val (.int v18_122), .val (.int f_4s), .val (.int f_4n), .unset] [(.ref b10)])) _
        refine XS.aload X58.here hx rfl (hb hby at_144) rfl rfl ?_
        exact k
      obtain ⟨cq60, kq60, q60a, q60b, q60c⟩ := isOf hZ e58 exa_b10_15
      obtain ⟨_, _, ⟨T60, L60, k60, n60⟩, -, X60, ⟨Lc60, hQ60, l60, y60, z60⟩, st60⟩ := X58.virtualBack hx (y := (⟨"com/example/sibyl/sibyl/kernel/Label", "equals", "(Ljava/lang/Object;)Z"⟩ : MethodName)) (z := (⟨"com/example/sibyl/sibyl/kernel/Label", "equals", "(Ljava/lang/Object;)Z"⟩ : MethodName)) hown (mvT hZ (hw _ (List.mem_of_getElem? (i := 20) rfl))) (mvT hZ (hw _ (List.mem_of_getElem? (i := 21) rfl))) (notFace_of_selects (args := #[]) (mvT hZ (hw _ (List.mem_of_getElem? (i := 23) rfl)))) (mvT hZ (hw _ (List.mem_of_getElem? (i := 23) rfl))) (mvT hZ (hw _ (List.mem_of_getElem? (i := 22) rfl))) (by decide) (backOf (W := 0) (rm_4l l Z a0 hw [] b10 io T15.heap n0 Z15 ne_io_b10.symm EI) hZ (hw _ (List.mem_of_getElem? (i := 24) rfl)) (hw _ (List.mem_of_getElem? (i := 2) rfl)) (by decide) (by decide)) q60a q60c (g := (mkF m 146 #[.val (.int p0), .val (.long p1), .second, .val (.int p2), .val (.long p3), .second, .val (.int p4), .val (.int ms0_12), .val (.int ms0_26), .val (.int ms0_38), .val (.long ms0_51), .second, .val (.ref b10), .val (.ref b14), .val (.int ms0_95), .val (.ref io), .val .null, .val (.int v17_113), .val (.int v18_122), .val (.int f_4s), .val (.int f_4n), .unset] [(.ref io), (.ref b10)])) rfl (by rw [hml]; rfl) (Steps.refl _) (argsL := [(.ref io)]) (rest := []) (lenOf pd_4 rfl) rfl (by show 2 * 0 + _ ≤ _; exact Nat.le_of_eq rfl) (hb hby at_146) (fun _ _ => ⟨rfl, e58, (by decide : 2 + 0 ≤ _), (by decide : 4 + 0 ≤ _)⟩)
      dsimp only [Pt.U, Pt.locs, Pt.cells, Pt.slots] at X60 l60 y60 z60 st60 hQ60
      rw [l60, y60, z60] at X60
      obtain ⟨rfl, N60q, e60⟩ := hQ60
      have N60 := Fr.app N58 N60q
      have pre62 : ∀ t, Steps p.tables e below (T60.setTop (mkF m 155 #[.val (.int p0), .val (.long p1), .second, .val (.int p2), .val (.long p3), .second, .val (.int p4), .val (.int ms0_12), .val (.int ms0_26), .val (.int ms0_38), .val (.long ms0_51), .second, .val (.ref b10), .val (.ref b14), .val (.int ms0_95), .val (.ref io), .val .null, .val (.int v17_113), .val (.int v18_122), .val (.int f_4s), .val (.int f_4n), .val (.int f_4l)] [(.int ms0_95), (.int v17_113)])) t → Steps p.tables e below (s₁.setTop (entryFrame m #[(.int p0), (.long p1), (.int p2), (.long p3), (.int p4)] maxLocals)) t := by
        intro t k
        refine pre61 t ?_
        show Steps p.tables e below (T58.setTop (mkF m 146 #[.val (.int p0), .val (.long p1), .second, .val (.int p2), .val (.long p3), .second, .val (.int p4), .val (.int ms0_12), .val (.int ms0_26), .val (.int ms0_38), .val (.long ms0_51), .second, .val (.ref b10), .val (.ref b14), .val (.int ms0_95), .val (.ref io), .val .null, .val (.int v17_113), .val (.int v18_122), .val (.int f_4s), .val (.int f_4n), .unset] [(.ref io), (.ref b10)])) _
        refine st60.trans ?_
        show Steps p.tables e below (T60.setTop (mkF m 149 #[.val (.int p0), .val (.long p1), .second, .val (.int p2), .val (.long p3), .second, .val (.int p4), .val (.int ms0_12), .val (.int ms0_26), .val (.int ms0_38), .val (.long ms0_51), .second, .val (.ref b10), .val (.ref b14), .val (.int ms0_95), .val (.ref io), .val .null, .val (.int v17_113), .val (.int v18_122), .val (.int f_4s), .val (.int f_4n), .unset] [(.int f_4l)])) _
        refine XS.istore X60.here hx rfl (hb hby at_149) rfl (l' := #[.val (.int p0), .val (.long p1), .second, .val (.int p2), .val (.long p3), .second, .val (.int p4), .val (.int ms0_12), .val (.int ms0_26), .val (.int ms0_38), .val (.long ms0_51), .second, .val (.ref b10), .val (.ref b14), .val (.int ms0_95), .val (.ref io), .val .null, .val (.int v17_113), .val (.int v18_122), .val (.int f_4s), .val (.int f_4n), .val (.int f_4l)]) rfl ?_
        show Steps p.tables e below (T60.setTop (mkF m 151 #[.val (.int p0), .val (.long p1), .second, .val (.int p2), .val (.long p3), .second, .val (.int p4), .val (.int ms0_12), .val (.int ms0_26), .val (.int ms0_38), .val (.long ms0_51), .second, .val (.ref b10), .val (.ref b14), .val (.int ms0_95), .val (.ref io), .val .null, .val (.int v17_113), .val (.int v18_122), .val (.int f_4s), .val (.int f_4n), .val (.int f_4l)] [])) _
        refine XS.iload X60.here hx rfl (hb hby at_151) rfl  ?_
        show Steps p.tables e below (T60.setTop (mkF m 153 #[.val (.int p0), .val (.long p1), .second, .val (.int p2), .val (.long p3), .second, .val (.int p4), .val (.int ms0_12), .val (.int ms0_26), .val (.int ms0_38), .val (.long ms0_51), .second, .val (.ref b10), .val (.ref b14), .val (.int ms0_95), .val (.ref io), .val .null, .val (.int v17_113), .val (.int v18_122), .val (.int f_4s), .val (.int f_4n), .val (.int f_4l)] [(.int v17_113)])) _
        refine XS.iload X60.here hx rfl (hb hby at_153) rfl  ?_
        exact k
      obtain ⟨ms0_185, hms0_185⟩ : ∃ z : Int32, z = (if v17_113 = ms0_95 then (if v18_122 = ms0_95 then (if f_4s = (0 : Int32) then (0 : Int32) else (if f_4n = (0 : Int32) then (if f_4l = (0 : Int32) then (1 : Int32) else (0 : Int32)) else (0 : Int32))) else (0 : Int32)) else (0 : Int32)) := ⟨_, rfl⟩
      have pre63 : ∀ t, Steps p.tables e below (T60.setTop (mkF m 185 #[.val (.int p0), .val (.long p1), .second, .val (.int p2), .val (.long p3), .second, .val (.int p4), .val (.int ms0_12), .val (.int ms0_26), .val (.int ms0_38), .val (.long ms0_51), .second, .val (.ref b10), .val (.ref b14), .val (.int ms0_95), .val (.ref io), .val .null, .val (.int v17_113), .val (.int v18_122), .val (.int f_4s), .val (.int f_4n), .val (.int f_4l)] [(.int ms0_185)])) t → Steps p.tables e below (s₁.setTop (entryFrame m #[(.int p0), (.long p1), (.int p2), (.long p3), (.int p4)] maxLocals)) t := by
        intro t k
        refine pre62 t ?_
        by_cases hc155 : v17_113 = ms0_95
        · show Steps p.tables e below (T60.setTop (mkF m 155 #[.val (.int p0), .val (.long p1), .second, .val (.int p2), .val (.long p3), .second, .val (.int p4), .val (.int ms0_12), .val (.int ms0_26), .val (.int ms0_38), .val (.long ms0_51), .second, .val (.ref b10), .val (.ref b14), .val (.int ms0_95), .val (.ref io), .val .null, .val (.int v17_113), .val (.int v18_122), .val (.int f_4s), .val (.int f_4n), .val (.int f_4l)] [(.int ms0_95), (.int v17_113)])) _
          refine XS.icmpNo X60.here hx rfl (hb hby at_155) rfl (teq hc155).2 ?_
          show Steps p.tables e below (T60.setTop (mkF m 158 #[.val (.int p0), .val (.long p1), .second, .val (.int p2), .val (.long p3), .second, .val (.int p4), .val (.int ms0_12), .val (.int ms0_26), .val (.int ms0_38), .val (.long ms0_51), .second, .val (.ref b10), .val (.ref b14), .val (.int ms0_95), .val (.ref io), .val .null, .val (.int v17_113), .val (.int v18_122), .val (.int f_4s), .val (.int f_4n), .val (.int f_4l)] [])) _
          refine XS.iload X60.here hx rfl (hb hby at_158) rfl  ?_
          show Steps p.tables e below (T60.setTop (mkF m 160 #[.val (.int p0), .val (.long p1), .second, .val (.int p2), .val (.long p3), .second, .val (.int p4), .val (.int ms0_12), .val (.int ms0_26), .val (.int ms0_38), .val (.long ms0_51), .second, .val (.ref b10), .val (.ref b14), .val (.int ms0_95), .val (.ref io), .val .null, .val (.int v17_113), .val (.int v18_122), .val (.int f_4s), .val (.int f_4n), .val (.int f_4l)] [(.int v18_122)])) _
          refine XS.iload X60.here hx rfl (hb hby at_160) rfl  ?_
          by_cases hc162 : v18_122 = ms0_95
          · show Steps p.tables e below (T60.setTop (mkF m 162 #[.val (.int p0), .val (.long p1), .second, .val (.int p2), .val (.long p3), .second, .val (.int p4), .val (.int ms0_12), .val (.int ms0_26), .val (.int ms0_38), .val (.long ms0_51), .second, .val (.ref b10), .val (.ref b14), .val (.int ms0_95), .val (.ref io), .val .null, .val (.int v17_113), .val (.int v18_122), .val (.int f_4s), .val (.int f_4n), .val (.int f_4l)] [(.int ms0_95), (.int v18_122)])) _
            refine XS.icmpNo X60.here hx rfl (hb hby at_162) rfl (teq hc162).2 ?_
            show Steps p.tables e below (T60.setTop (mkF m 165 #[.val (.int p0), .val (.long p1), .second, .val (.int p2), .val (.long p3), .second, .val (.int p4), .val (.int ms0_12), .val (.int ms0_26), .val (.int ms0_38), .val (.long ms0_51), .second, .val (.ref b10), .val (.ref b14), .val (.int ms0_95), .val (.ref io), .val .null, .val (.int v17_113), .val (.int v18_122), .val (.int f_4s), .val (.int f_4n), .val (.int f_4l)] [])) _
            refine XS.iload X60.here hx rfl (hb hby at_165) rfl  ?_
            by_cases hc167 : f_4s = (0 : Int32)
            · show Steps p.tables e below (T60.setTop (mkF m 167 #[.val (.int p0), .val (.long p1), .second, .val (.int p2), .val (.long p3), .second, .val (.int p4), .val (.int ms0_12), .val (.int ms0_26), .val (.int ms0_38), .val (.long ms0_51), .second, .val (.ref b10), .val (.ref b14), .val (.int ms0_95), .val (.ref io), .val .null, .val (.int v17_113), .val (.int v18_122), .val (.int f_4s), .val (.int f_4n), .val (.int f_4l)] [(.int f_4s)])) _
              refine XS.ifYes X60.here hx rfl (pc0 := 167) (pc' := 184) rfl (hb hby at_167) rfl ((if0 _ _).trans (teq hc167).1) (by decide) (by decide) ?_
              show Steps p.tables e below (T60.setTop (mkF m 184 #[.val (.int p0), .val (.long p1), .second, .val (.int p2), .val (.long p3), .second, .val (.int p4), .val (.int ms0_12), .val (.int ms0_26), .val (.int ms0_38), .val (.long ms0_51), .second, .val (.ref b10), .val (.ref b14), .val (.int ms0_95), .val (.ref io), .val .null, .val (.int v17_113), .val (.int v18_122), .val (.int f_4s), .val (.int f_4n), .val (.int f_4l)] [])) _
              refine XS.iconst X60.here hx rfl (hb hby at_184) ?_
              have qms0_185 : ms0_185 = (0 : Int32) := by rw [hms0_185, if_pos hc155, if_pos hc162, if_pos hc167]
              rw [qms0_185] at k
              exact k
            · show Steps p.tables e below (T60.setTop (mkF m 167 #[.val (.int p0), .val (.long p1), .second, .val (.int p2), .val (.long p3), .second, .val (.int p4), .val (.int ms0_12), .val (.int ms0_26), .val (.int ms0_38), .val (.long ms0_51), .second, .val (.ref b10), .val (.ref b14), .val (.int ms0_95), .val (.ref io), .val .null, .val (.int v17_113), .val (.int v18_122), .val (.int f_4s), .val (.int f_4n), .val (.int f_4l)] [(.int f_4s)])) _
              refine XS.ifNo X60.here hx rfl (hb hby at_167) rfl ((if0 _ _).trans (feq hc167).1) ?_
              show Steps p.tables e below (T60.setTop (mkF m 170 #[.val (.int p0), .val (.long p1), .second, .val (.int p2), .val (.long p3), .second, .val (.int p4), .val (.int ms0_12), .val (.int ms0_26), .val (.int ms0_38), .val (.long ms0_51), .second, .val (.ref b10), .val (.ref b14), .val (.int ms0_95), .val (.ref io), .val .null, .val (.int v17_113), .val (.int v18_122), .val (.int f_4s), .val (.int f_4n), .val (.int f_4l)] [])) _
              refine XS.iload X60.here hx rfl (hb hby at_170) rfl  ?_
              by_cases hc172 : f_4n = (0 : Int32)
              · show Steps p.tables e below (T60.setTop (mkF m 172 #[.val (.int p0), .val (.long p1), .second, .val (.int p2), .val (.long p3), .second, .val (.int p4), .val (.int ms0_12), .val (.int ms0_26), .val (.int ms0_38), .val (.long ms0_51), .second, .val (.ref b10), .val (.ref b14), .val (.int ms0_95), .val (.ref io), .val .null, .val (.int v17_113), .val (.int v18_122), .val (.int f_4s), .val (.int f_4n), .val (.int f_4l)] [(.int f_4n)])) _
                refine XS.ifNo X60.here hx rfl (hb hby at_172) rfl ((if0 _ _).trans (teq hc172).2) ?_
                show Steps p.tables e below (T60.setTop (mkF m 175 #[.val (.int p0), .val (.long p1), .second, .val (.int p2), .val (.long p3), .second, .val (.int p4), .val (.int ms0_12), .val (.int ms0_26), .val (.int ms0_38), .val (.long ms0_51), .second, .val (.ref b10), .val (.ref b14), .val (.int ms0_95), .val (.ref io), .val .null, .val (.int v17_113), .val (.int v18_122), .val (.int f_4s), .val (.int f_4n), .val (.int f_4l)] [])) _
                refine XS.iload X60.here hx rfl (hb hby at_175) rfl  ?_
                by_cases hc177 : f_4l = (0 : Int32)
                · show Steps p.tables e below (T60.setTop (mkF m 177 #[.val (.int p0), .val (.long p1), .second, .val (.int p2), .val (.long p3), .second, .val (.int p4), .val (.int ms0_12), .val (.int ms0_26), .val (.int ms0_38), .val (.long ms0_51), .second, .val (.ref b10), .val (.ref b14), .val (.int ms0_95), .val (.ref io), .val .null, .val (.int v17_113), .val (.int v18_122), .val (.int f_4s), .val (.int f_4n), .val (.int f_4l)] [(.int f_4l)])) _
                  refine XS.ifNo X60.here hx rfl (hb hby at_177) rfl ((if0 _ _).trans (teq hc177).2) ?_
                  show Steps p.tables e below (T60.setTop (mkF m 180 #[.val (.int p0), .val (.long p1), .second, .val (.int p2), .val (.long p3), .second, .val (.int p4), .val (.int ms0_12), .val (.int ms0_26), .val (.int ms0_38), .val (.long ms0_51), .second, .val (.ref b10), .val (.ref b14), .val (.int ms0_95), .val (.ref io), .val .null, .val (.int v17_113), .val (.int v18_122), .val (.int f_4s), .val (.int f_4n), .val (.int f_4l)] [])) _
                  refine XS.iconst X60.here hx rfl (hb hby at_180) ?_
                  show Steps p.tables e below (T60.setTop (mkF m 181 #[.val (.int p0), .val (.long p1), .second, .val (.int p2), .val (.long p3), .second, .val (.int p4), .val (.int ms0_12), .val (.int ms0_26), .val (.int ms0_38), .val (.long ms0_51), .second, .val (.ref b10), .val (.ref b14), .val (.int ms0_95), .val (.ref io), .val .null, .val (.int v17_113), .val (.int v18_122), .val (.int f_4s), .val (.int f_4n), .val (.int f_4l)] [(.int (1 : Int32))])) _
                  refine XS.goto X60.here hx rfl (pc0 := 181) (pc' := 185) rfl (hb hby at_181) (by decide) (by decide) ?_
                  have qms0_185 : ms0_185 = (1 : Int32) := by rw [hms0_185, if_pos hc155, if_pos hc162, if_neg hc167, if_pos hc172, if_pos hc177]
                  rw [qms0_185] at k
                  exact k
                · show Steps p.tables e below (T60.setTop (mkF m 177 #[.val (.int p0), .val (.long p1), .second, .val (.int p2), .val (.long p3), .second, .val (.int p4), .val (.int ms0_12), .val (.int ms0_26), .val (.int ms0_38), .val (.long ms0_51), .second, .val (.ref b10), .val (.ref b14), .val (.int ms0_95), .val (.ref io), .val .null, .val (.int v17_113), .val (.int v18_122), .val (.int f_4s), .val (.int f_4n), .val (.int f_4l)] [(.int f_4l)])) _
                  refine XS.ifYes X60.here hx rfl (pc0 := 177) (pc' := 184) rfl (hb hby at_177) rfl ((if0 _ _).trans (feq hc177).2) (by decide) (by decide) ?_
                  show Steps p.tables e below (T60.setTop (mkF m 184 #[.val (.int p0), .val (.long p1), .second, .val (.int p2), .val (.long p3), .second, .val (.int p4), .val (.int ms0_12), .val (.int ms0_26), .val (.int ms0_38), .val (.long ms0_51), .second, .val (.ref b10), .val (.ref b14), .val (.int ms0_95), .val (.ref io), .val .null, .val (.int v17_113), .val (.int v18_122), .val (.int f_4s), .val (.int f_4n), .val (.int f_4l)] [])) _
                  refine XS.iconst X60.here hx rfl (hb hby at_184) ?_
                  have qms0_185 : ms0_185 = (0 : Int32) := by rw [hms0_185, if_pos hc155, if_pos hc162, if_neg hc167, if_pos hc172, if_neg hc177]
                  rw [qms0_185] at k
                  exact k
              · show Steps p.tables e below (T60.setTop (mkF m 172 #[.val (.int p0), .val (.long p1), .second, .val (.int p2), .val (.long p3), .second, .val (.int p4), .val (.int ms0_12), .val (.int ms0_26), .val (.int ms0_38), .val (.long ms0_51), .second, .val (.ref b10), .val (.ref b14), .val (.int ms0_95), .val (.ref io), .val .null, .val (.int v17_113), .val (.int v18_122), .val (.int f_4s), .val (.int f_4n), .val (.int f_4l)] [(.int f_4n)])) _
                refine XS.ifYes X60.here hx rfl (pc0 := 172) (pc' := 184) rfl (hb hby at_172) rfl ((if0 _ _).trans (feq hc172).2) (by decide) (by decide) ?_
                show Steps p.tables e below (T60.setTop (mkF m 184 #[.val (.int p0), .val (.long p1), .second, .val (.int p2), .val (.long p3), .second, .val (.int p4), .val (.int ms0_12), .val (.int ms0_26), .val (.int ms0_38), .val (.long ms0_51), .second, .val (.ref b10), .val (.ref b14), .val (.int ms0_95), .val (.ref io), .val .null, .val (.int v17_113), .val (.int v18_122), .val (.int f_4s), .val (.int f_4n), .val (.int f_4l)] [])) _
                refine XS.iconst X60.here hx rfl (hb hby at_184) ?_
                have qms0_185 : ms0_185 = (0 : Int32) := by rw [hms0_185, if_pos hc155, if_pos hc162, if_neg hc167, if_neg hc172]
                rw [qms0_185] at k
                exact k
          · show Steps p.tables e below (T60.setTop (mkF m 162 #[.val (.int p0), .val (.long p1), .second, .val (.int p2), .val (.long p3), .second, .val (.int p4), .val (.int ms0_12), .val (.int ms0_26), .val (.int ms0_38), .val (.long ms0_51), .second, .val (.ref b10), .val (.ref b14), .val (.int ms0_95), .val (.ref io), .val .null, .val (.int v17_113), .val (.int v18_122), .val (.int f_4s), .val (.int f_4n), .val (.int f_4l)] [(.int ms0_95), (.int v18_122)])) _
            refine XS.icmpYes X60.here hx rfl (pc0 := 162) (pc' := 184) rfl (hb hby at_162) rfl (feq hc162).2 (by decide) (by decide) ?_
            show Steps p.tables e below (T60.setTop (mkF m 184 #[.val (.int p0), .val (.long p1), .second, .val (.int p2), .val (.long p3), .second, .val (.int p4), .val (.int ms0_12), .val (.int ms0_26), .val (.int ms0_38), .val (.long ms0_51), .second, .val (.ref b10), .val (.ref b14), .val (.int ms0_95), .val (.ref io), .val .null, .val (.int v17_113), .val (.int v18_122), .val (.int f_4s), .val (.int f_4n), .val (.int f_4l)] [])) _
            refine XS.iconst X60.here hx rfl (hb hby at_184) ?_
            have qms0_185 : ms0_185 = (0 : Int32) := by rw [hms0_185, if_pos hc155, if_neg hc162]
            rw [qms0_185] at k
            exact k
        · show Steps p.tables e below (T60.setTop (mkF m 155 #[.val (.int p0), .val (.long p1), .second, .val (.int p2), .val (.long p3), .second, .val (.int p4), .val (.int ms0_12), .val (.int ms0_26), .val (.int ms0_38), .val (.long ms0_51), .second, .val (.ref b10), .val (.ref b14), .val (.int ms0_95), .val (.ref io), .val .null, .val (.int v17_113), .val (.int v18_122), .val (.int f_4s), .val (.int f_4n), .val (.int f_4l)] [(.int ms0_95), (.int v17_113)])) _
          refine XS.icmpYes X60.here hx rfl (pc0 := 155) (pc' := 184) rfl (hb hby at_155) rfl (feq hc155).2 (by decide) (by decide) ?_
          show Steps p.tables e below (T60.setTop (mkF m 184 #[.val (.int p0), .val (.long p1), .second, .val (.int p2), .val (.long p3), .second, .val (.int p4), .val (.int ms0_12), .val (.int ms0_26), .val (.int ms0_38), .val (.long ms0_51), .second, .val (.ref b10), .val (.ref b14), .val (.int ms0_95), .val (.ref io), .val .null, .val (.int v17_113), .val (.int v18_122), .val (.int f_4s), .val (.int f_4n), .val (.int f_4l)] [])) _
          refine XS.iconst X60.here hx rfl (hb hby at_184) ?_
          have qms0_185 : ms0_185 = (0 : Int32) := by rw [hms0_185, if_neg hc155]
          rw [qms0_185] at k
          exact k
      have hnar : nar .boolean ms0_185 = ms0_185 := by rw [hms0_185]; (repeat' split) <;> rfl
      obtain ⟨fs, hr, hrun, hended, hW, hsame⟩ := X60.leave (v := some (.int ms0_185)) (fun h => by rw [Bd.returns] at h; cases h) (BodyLoose.notSynchronized Bd)
      refine ⟨_, _, pre63 _ ?_, hrun, hended, _, _, rfl, ?_, ⟨_, rfl⟩, hW, hsame.mono (by decide) (by decide)⟩
      · show Steps p.tables e below (T60.setTop (mkF m 185 #[.val (.int p0), .val (.long p1), .second, .val (.int p2), .val (.long p3), .second, .val (.int p4), .val (.int ms0_12), .val (.int ms0_26), .val (.int ms0_38), .val (.long ms0_51), .second, .val (.ref b10), .val (.ref b14), .val (.int ms0_95), .val (.ref io), .val .null, .val (.int v17_113), .val (.int v18_122), .val (.int f_4s), .val (.int f_4n), .val (.int f_4l)] [(.int ms0_185)])) _
        exact retN X60 hx (t := .boolean) Bd.returns (by simp) (hb hby at_185) (by rw [hnar]; exact hr)
      · show Q_0 Z p0 p1 p2 p3 p4 en ca h0 n0 _ T60.heap _
        rw [e60]
        exact ⟨congrArg (fun z => some (Value.int z)) (by subst hms0_12 hms0_26 hms0_38 hms0_51 hms0_95 hv17_113 hv18_122 hms0_185; exact ((if_neg hlo).trans (if_neg hhi)).symm : ms0_185 = f_0 p0 p1 p2 p3 p4 en), N60, trivial⟩
theorem own_le (l l2 : Int32) (c c2 : Int64) : (if (f_4o l c l2 c2) = (if l2 = l then (if c2 = c then (1 : Int32) else (0 : Int32)) else (0 : Int32)) then (if (f_4o l2 c2 l c) = (if l2 = l then (if c2 = c then (1 : Int32) else (0 : Int32)) else (0 : Int32)) then (if f_4s = (0 : Int32) then (0 : Int32) else (if f_4n = (0 : Int32) then (if f_4l = (0 : Int32) then (1 : Int32) else (0 : Int32)) else (0 : Int32))) else (0 : Int32)) else (0 : Int32)) = 1 := by
  simp only [f_4o, f_4s, f_4n, f_4l, show (l = l2) = (l2 = l) from propext eq_comm, show (c = c2) = (c2 = c) from propext eq_comm]
  by_cases a : l2 = l <;> by_cases b : c2 = c <;> simp [a, b]
theorem own_law (p0 : Int32) (p1 : Int64) (p2 : Int32) (p3 : Int64) (p4 : Int32) (en : Nat → Addr) : f_0 p0 p1 p2 p3 p4 en = 1 := by
  simp only [f_0, own_le]
  repeat' split
  all_goals rfl
set_option maxRecDepth 65536 in
set_option maxHeartbeats 40000000 in
theorem comes_1 {Post : Tables → Env → Array Value → State → Outcome → State → Prop} (hpost : ∀ tb e args s v u, (limb_1_1.after args s (.returned v) u = true ∧ limb_1_2.after args s (.returned v) u = true ∧ True) → FrameEnd s (.returned v) u (Jvm.fieldLocs frame_1_writes args s ++ Jvm.arrayLocs frame_1_arrays args s ++ Jvm.staticLocs frame_1_statics s) 16 128 → Post tb e args s (.returned v) u) :
    ArmFor flags0 classFile x code maxLocals ret World_1 tables_1 room_1 Calls_1 rest_1 Pre_1 Post := by
  intro l hfl _ _ p e ha hc hk s m args below hf hA hF happ hP
  obtain ⟨hcalls, hrest, hpre⟩ := hP
  obtain ⟨-, -, -, hnamed, -, -, -, hat⟩ := (Spec.applies_iff hf).mp happ
  obtain ⟨hg, hn⟩ := and_e (Cond.before_iff.mp (show (Jvm.Cond.and given_1 narrow_1).before args s = true from hpre))
  obtain ⟨g0, gt0⟩ := and_e hg
  obtain ⟨ga0, gt1⟩ := and_e gt0
  obtain ⟨ga1, gt2⟩ := and_e gt1
  obtain ⟨ga2, gt3⟩ := and_e gt2
  obtain ⟨ga3, gt4⟩ := and_e gt3
  obtain ⟨w0, w1, w2, w3, w4, rfl⟩ : ∃ w0 w1 w2 w3 w4 : Value, args = #[w0, w1, w2, w3, w4] := by
    have hs : args.size = 5 := by simpa [Cond.value, given_1] using g0
    obtain ⟨L⟩ := args
    match L, hs with
    | [w0, w1, w2, w3, w4], _ => exact ⟨w0, w1, w2, w3, w4, rfl⟩
  have hw := fun d (hd : d ∈ tables_1) => atoms_spec (ws := Jvm.Cond.code x code maxLocals ret :: tables_1) hat d (List.mem_cons_of_mem _ hd)
  have hfit : Fit s := fun {y c} hc i hi => by
    obtain ⟨ha, rfl⟩ := Array.getElem?_eq_some_iff.mp hc
    have q := List.all_eq_true.mp ((Array.all_eq_true_iff_forall_mem.mp hF) _ (Array.getElem_mem ha)) i (List.mem_range.mpr hi)
    simpa [Array.getElem?_eq_getElem hi] using q
  obtain ⟨i0, ei0⟩ := is_v ga0
  obtain rfl : w0 = (.int i0) := Option.some.inj ei0
  obtain ⟨i1, ei1⟩ := isL_v ga1
  obtain rfl : w1 = (.long i1) := Option.some.inj ei1
  obtain ⟨i2, ei2⟩ := is_v ga2
  obtain rfl : w2 = (.int i2) := Option.some.inj ei2
  obtain ⟨i3, ei3⟩ := isL_v ga3
  obtain rfl : w3 = (.long i3) := Option.some.inj ei3
  obtain ⟨i4, ei4⟩ := is_v gt4
  obtain rfl : w4 = (.int i4) := Option.some.inj ei4
  obtain ⟨hsets, hown0⟩ := atoms_of _ (rest_1_c_eq ▸ (show rest_1_c.before _ s = true from hrest))
  have hs := fun d (hd : d ∈ jdkStatics_1) => Cond.before_iff.mp (hsets d hd)
  have SH : Sta s s.heap "java/lang/Integer$IntegerCache" "high" "I" (.int (127 : Int32)) := Sta.start (own_eqi (hs _ (List.mem_of_getElem? (i := 3) rfl))) (Or.inl (hsets _ (List.mem_of_getElem? (i := 1) rfl)))
  obtain ⟨ca, ev⟩ := arr_v (hs _ (List.mem_of_getElem? (i := 4) rfl))
  have SC : Sta s s.heap "java/lang/Integer$IntegerCache" "cache" "[Ljava/lang/Integer;" (.ref ca) := Sta.start ev (Or.inr ⟨hw _ (List.mem_of_getElem? (i := 18) rfl), hsets _ (List.mem_of_getElem? (i := 2) rfl)⟩)
  obtain ⟨en, he, hE⟩ := own_cache ev (hs _ (List.mem_of_getElem? (i := 4) rfl)) (own_eqi (hs _ (List.mem_of_getElem? (i := 6) rfl))) (hs _ (List.mem_of_getElem? (i := 7) rfl))
  have AC : own_A s s.heap ca (.object "java/lang/Integer") 256 (fun i => own_rf en i) := own_AG_start hfit ev (hs _ (List.mem_of_getElem? (i := 4) rfl)) (own_eqi (hs _ (List.mem_of_getElem? (i := 6) rfl))) (by decide) he
  obtain ⟨n, o, h1, h2, h3, _, L, rfl, ⟨rfl, N⟩, hq⟩ := rm_0 l s _ hw tables_1 i0 i1 i2 i3 i4 en ca s.heap s.heap.size (Nat.le_refl _) SH SC AC hE p e ha hc hk s m _ below hf ((Spec.applies_iff_loose hf).mp happ).1 ⟨rfl, State.Warmed39.refl s, rfl⟩ trivial
  refine ⟨n, _, h1, h2, h3, hpost _ _ _ _ _ _ ⟨Cond.after_iff.mpr rfl, Cond.after_iff.mpr (eq_i res_at (Term.int_eval (1)) (congrArg Value.int (own_law _ _ _ _ _ _))), trivial⟩ ⟨hq.1, hq.2.1, (hq.2.2.sift fun y hy => Or.inr (N.1 y hy)).mono (by decide) (by decide)⟩⟩
theorem main_1_1 : Claimed_1_1 := comes_1 fun _ _ _ _ _ _ h hF => ⟨h.1, hF⟩
theorem main_1_2 : Claimed_1_2 := comes_1 fun _ _ _ _ _ _ h hF => ⟨h.2.1, hF⟩
end Jvm.Pilot.@@N@@
namespace Jvm.Pilot.@@N@@
open Jvm Jvm.ClassFile Sem Op Lib Jvm.Free Jvm.Stand Jvm.Pilot.@@N@@.Jvm.D
/-! MADE BY PROGRAM (witnessworld.py) out of the Statement's table words and the real class files: 16 classes; the members and pool entries that the words name. The judged class is class 1, her method 1. -/
namespace start1
open Jvm.ClassFile
def u (s : String) : CpInfo := .utf8 (stringToUtf16 s)
/-- a pool by its gaps: so many unusable entries, then the entry; so many at the end -/
def gap : Nat → List CpInfo → List CpInfo
  | 0, r => r
  | n + 1, r => .unusable :: gap n r
def poolList (es : List (Nat × CpInfo)) (last : Nat) : List CpInfo := es.foldr (fun e r => gap e.1 (e.2 :: r)) (gap last [])
def pool (es : List (Nat × CpInfo)) (last : Nat) : Array CpInfo := ⟨poolList es last⟩
def fileOf (pool : Array CpInfo) (this : Nat) (attrs : Array Attribute := #[]) (ms : Array MethodInfo := #[]) (fl : Nat := 33) (sup : Nat := 0) (ifs : Array Nat := #[]) (fds : Array FieldInfo := #[]) : ClassFile where
  minorVersion := 0
  majorVersion := 65
  constantPool := pool
  accessFlags := fl
  thisClass := this
  superClass := sup
  interfaces := ifs
  fields := fds
  methods := ms
  attributes := attrs
def plain (name : String) (sup : Option ClassId) : Class where
  name := name
  kind := .ordinary
  loader := none
  accessFlags := 33
  super := sup
  interfaces := #[]
  cf := none
  fields := #[]
  methods := #[]
  instanceTypes := #[]
  staticTypes := #[]
  resolved := #[]
  callSites := []
  init := .initialized
  statics := none
  mirror := none

def pool0 : Array CpInfo := pool [(5, u "<init>"), (0, u "()V"), (1, .class_ 10), (1, u "java/lang/Object")] 113

def k0c0 : Code := { maxStack := 0, maxLocals := 1, code := object_method_1_code, exceptionTable := #[], attributes := #[] }
def k0m0 : Method := { name := "<init>", desc := "()V", sig := { parameters := [], returnType := none }, accessFlags := 1, code := some k0c0 }
/-- java/lang/Object -/
def k0 : Class := { plain "java/lang/Object" none with
  accessFlags := 33
  interfaces := #[]
  cf := some (fileOf pool0 8 #[] #[{ accessFlags := 1, nameIndex := 5, descriptorIndex := 6, attributes := #[] }] 33 0 #[] #[])
  fields := #[]
  methods := #[k0m0]
  instanceTypes := #[]
  staticTypes := #[]
  resolved := Array.replicate 124 none
  statics := none }

def pool1 : Array CpInfo := pool [(2, .class_ 4), (1, u "java/lang/Object"), (0, u "<init>"), (0, u "()V"), (0, .class_ 8), (0, u "com/example/sibyl/sibyl/kernel/Label"), (0, .methodref 7 10), (0, .nameAndType 5 11), (0, u "(IJ)V"), (0, .methodref 13 14), (0, .class_ 15), (0, .nameAndType 16 17), (0, u "java/lang/Integer"), (0, u "valueOf"), (0, u "(I)Ljava/lang/Integer;"), (0, .methodref 7 19), (0, .nameAndType 20 21), (0, u "equals"), (0, u "(Ljava/lang/Object;)Z"), (0, .class_ 23), (0, u "com/example/sibyl/sibyl/kernel/LabelEqualsPinLaw"), (2, u "law"), (0, u "(IJIJI)Z")] 3

def k1m0 : Method := { name := "<init>", desc := "()V", sig := { parameters := [], returnType := none }, accessFlags := 1, code := none }
def k1c1 : Code := { maxStack := 5, maxLocals := 22, code := code, exceptionTable := #[], attributes := #[] }
def k1m1 : Method := { name := "law", desc := "(IJIJI)Z", sig := { parameters := [.int, .long, .int, .long, .int], returnType := some .boolean }, accessFlags := 9, code := some k1c1 }
/-- com/example/sibyl/sibyl/kernel/LabelEqualsPinLaw -/
def k1 : Class := { plain "com/example/sibyl/sibyl/kernel/LabelEqualsPinLaw" (some 0) with
  accessFlags := 49
  interfaces := #[]
  cf := some (fileOf pool1 22 #[] #[{ accessFlags := 1, nameIndex := 5, descriptorIndex := 6, attributes := #[] }, { accessFlags := 9, nameIndex := 26, descriptorIndex := 27, attributes := #[] }] 49 2 #[] #[])
  fields := #[]
  methods := #[k1m0, k1m1]
  instanceTypes := #[]
  staticTypes := #[]
  resolved := Array.replicate 31 none
  statics := none }

def pool2 : Array CpInfo := pool [(1, .methodref 2 3), (0, .class_ 4), (0, .nameAndType 5 6), (0, u "java/lang/Object"), (0, u "<init>"), (0, u "()V"), (0, .fieldref 8 9), (0, .class_ 10), (0, .nameAndType 11 12), (0, u "com/example/sibyl/sibyl/kernel/Label"), (0, u "level"), (0, u "I"), (0, .fieldref 8 14), (0, .nameAndType 15 16), (0, u "categories"), (0, u "J"), (14, u "(IJ)V"), (14, u "equals"), (0, u "(Ljava/lang/Object;)Z")] 2

def k2c0 : Code := { maxStack := 3, maxLocals := 4, code := prog_13_method_1_code, exceptionTable := #[], attributes := #[] }
def k2m0 : Method := { name := "<init>", desc := "(IJ)V", sig := { parameters := [.int, .long], returnType := none }, accessFlags := 0, code := some k2c0 }
def k2c1 : Code := { maxStack := 4, maxLocals := 3, code := prog_13_method_7_code, exceptionTable := #[], attributes := #[] }
def k2m1 : Method := { name := "equals", desc := "(Ljava/lang/Object;)Z", sig := { parameters := [(.object "java/lang/Object")], returnType := some .boolean }, accessFlags := 1, code := some k2c1 }
/-- com/example/sibyl/sibyl/kernel/Label -/
def k2 : Class := { plain "com/example/sibyl/sibyl/kernel/Label" (some 0) with
  accessFlags := 49
  interfaces := #[]
  cf := some (fileOf pool2 8 #[] #[{ accessFlags := 0, nameIndex := 5, descriptorIndex := 31, attributes := #[] }, { accessFlags := 1, nameIndex := 46, descriptorIndex := 47, attributes := #[] }] 49 2 #[] #[{ accessFlags := 18, nameIndex := 11, descriptorIndex := 12, attributes := #[] }, { accessFlags := 18, nameIndex := 15, descriptorIndex := 16, attributes := #[] }])
  fields := #[{ name := "level", type := .int, accessFlags := 18, slot := 0, constantValue := 0 }, { name := "categories", type := .long, accessFlags := 18, slot := 1, constantValue := 0 }]
  methods := #[k2m0, k2m1]
  instanceTypes := #[.int, .long]
  staticTypes := #[]
  resolved := Array.replicate 50 none
  statics := none }

def pool3 : Array CpInfo := pool [(1, .class_ 2), (0, u "java/io/Serializable"), (0, .class_ 4), (0, u "java/lang/Object")] 2

/-- java/io/Serializable -/
def k3 : Class := { plain "java/io/Serializable" (some 0) with
  accessFlags := 1537
  interfaces := #[]
  cf := some (fileOf pool3 1 #[] #[] 1537 3 #[] #[])
  fields := #[]
  methods := #[]
  instanceTypes := #[]
  staticTypes := #[]
  resolved := Array.replicate 7 none
  statics := none }

def pool4 : Array CpInfo := pool [(1, .methodref 2 3), (0, .class_ 4), (0, .nameAndType 5 6), (0, u "java/lang/Object"), (0, u "<init>"), (0, u "()V"), (1, .class_ 10), (1, u "java/lang/Number"), (2, .class_ 14), (0, u "java/io/Serializable"), (0, u "serialVersionUID"), (0, u "J")] 20

def k4c0 : Code := { maxStack := 1, maxLocals := 1, code := jdk_18_method_1_code, exceptionTable := #[], attributes := #[] }
def k4m0 : Method := { name := "<init>", desc := "()V", sig := { parameters := [], returnType := none }, accessFlags := 1, code := some k4c0 }
/-- java/lang/Number -/
def k4 : Class := { plain "java/lang/Number" (some 0) with
  accessFlags := 1057
  interfaces := #[3]
  cf := some (fileOf pool4 8 #[] #[{ accessFlags := 1, nameIndex := 5, descriptorIndex := 6, attributes := #[] }] 1057 2 #[13] #[{ accessFlags := 26, nameIndex := 15, descriptorIndex := 16, attributes := #[] }])
  fields := #[{ name := "serialVersionUID", type := .long, accessFlags := 26, slot := 0, constantValue := 0 }]
  methods := #[k4m0]
  instanceTypes := #[]
  staticTypes := #[.long]
  resolved := Array.replicate 37 none
  statics := none }

def pool5 : Array CpInfo := pool [(1, .class_ 2), (0, u "java/lang/Comparable"), (0, .class_ 4), (0, u "java/lang/Object")] 7

/-- java/lang/Comparable -/
def k5 : Class := { plain "java/lang/Comparable" (some 0) with
  accessFlags := 1537
  interfaces := #[]
  cf := some (fileOf pool5 1 #[] #[] 1537 3 #[] #[])
  fields := #[]
  methods := #[]
  instanceTypes := #[]
  staticTypes := #[]
  resolved := Array.replicate 12 none
  statics := none }

def pool6 : Array CpInfo := pool [(1, .class_ 2), (0, u "java/lang/constant/Constable"), (0, .class_ 4), (0, u "java/lang/Object")] 6

/-- java/lang/constant/Constable -/
def k6 : Class := { plain "java/lang/constant/Constable" (some 0) with
  accessFlags := 1537
  interfaces := #[]
  cf := some (fileOf pool6 1 #[] #[] 1537 3 #[] #[])
  fields := #[]
  methods := #[]
  instanceTypes := #[]
  staticTypes := #[]
  resolved := Array.replicate 11 none
  statics := none }

def pool7 : Array CpInfo := pool [(1, .class_ 2), (0, u "java/lang/constant/ConstantDesc"), (0, .class_ 4), (0, u "java/lang/Object")] 32

/-- java/lang/constant/ConstantDesc -/
def k7 : Class := { plain "java/lang/constant/ConstantDesc" (some 0) with
  accessFlags := 1537
  interfaces := #[]
  cf := some (fileOf pool7 1 #[] #[] 1537 3 #[] #[])
  fields := #[]
  methods := #[]
  instanceTypes := #[]
  staticTypes := #[]
  resolved := Array.replicate 37 none
  statics := none }

def pool8 : Array CpInfo := pool [(1, .class_ 2), (0, u "java/lang/Integer"), (16, u "digits"), (0, u "[C"), (46, u "<init>"), (17, u "DigitOnes"), (0, u "[B"), (2, u "DigitTens"), (10, .nameAndType 67 101), (0, u "()V"), (85, u "valueOf"), (0, u "(I)Ljava/lang/Integer;"), (0, .class_ 190), (0, u "java/lang/Integer$IntegerCache"), (0, .fieldref 189 192), (0, .nameAndType 193 194), (0, u "high"), (0, u "I"), (0, .fieldref 189 196), (0, .nameAndType 197 198), (0, u "cache"), (0, u "[Ljava/lang/Integer;"), (0, .methodref 1 200), (0, .nameAndType 67 201), (0, u "(I)V"), (0, .methodref 203 100), (0, .class_ 204), (0, u "java/lang/Number"), (0, .fieldref 1 206), (0, .nameAndType 207 194), (0, u "value"), (94, u "TYPE"), (0, u "Ljava/lang/Class;"), (0, .class_ 305), (0, u "java/lang/Comparable"), (0, .class_ 307), (0, u "java/lang/constant/Constable"), (0, .class_ 309), (0, u "java/lang/constant/ConstantDesc"), (0, u "MIN_VALUE"), (1, u "MAX_VALUE"), (3, u "SIZE"), (1, u "BYTES"), (1, u "serialVersionUID"), (0, u "J")] 131

def k8c0 : Code := { maxStack := 3, maxLocals := 1, code := jdk_33_method_22_code, exceptionTable := #[], attributes := #[] }
def k8m0 : Method := { name := "valueOf", desc := "(I)Ljava/lang/Integer;", sig := { parameters := [.int], returnType := some (.object "java/lang/Integer") }, accessFlags := 9, code := some k8c0 }
def k8c1 : Code := { maxStack := 2, maxLocals := 2, code := jdk_33_method_23_code, exceptionTable := #[], attributes := #[] }
def k8m1 : Method := { name := "<init>", desc := "(I)V", sig := { parameters := [.int], returnType := none }, accessFlags := 1, code := some k8c1 }
/-- java/lang/Integer -/
def k8 : Class := { plain "java/lang/Integer" (some 4) with
  accessFlags := 49
  interfaces := #[5, 6, 7]
  cf := some (fileOf pool8 1 #[.nestMembers #[189]] #[{ accessFlags := 9, nameIndex := 187, descriptorIndex := 188, attributes := #[] }, { accessFlags := 1, nameIndex := 67, descriptorIndex := 201, attributes := #[] }] 49 203 #[304, 306, 308] #[{ accessFlags := 25, nameIndex := 310, descriptorIndex := 194, attributes := #[] }, { accessFlags := 25, nameIndex := 312, descriptorIndex := 194, attributes := #[] }, { accessFlags := 25, nameIndex := 302, descriptorIndex := 303, attributes := #[] }, { accessFlags := 24, nameIndex := 19, descriptorIndex := 20, attributes := #[] }, { accessFlags := 24, nameIndex := 89, descriptorIndex := 86, attributes := #[] }, { accessFlags := 24, nameIndex := 85, descriptorIndex := 86, attributes := #[] }, { accessFlags := 18, nameIndex := 207, descriptorIndex := 194, attributes := #[] }, { accessFlags := 25, nameIndex := 316, descriptorIndex := 194, attributes := #[] }, { accessFlags := 25, nameIndex := 318, descriptorIndex := 194, attributes := #[] }, { accessFlags := 26, nameIndex := 320, descriptorIndex := 321, attributes := #[] }])
  fields := #[{ name := "MIN_VALUE", type := .int, accessFlags := 25, slot := 0, constantValue := 0 }, { name := "MAX_VALUE", type := .int, accessFlags := 25, slot := 1, constantValue := 0 }, { name := "TYPE", type := (.object "java/lang/Class"), accessFlags := 25, slot := 2, constantValue := 0 }, { name := "digits", type := (.array .char), accessFlags := 24, slot := 3, constantValue := 0 }, { name := "DigitTens", type := (.array .byte), accessFlags := 24, slot := 4, constantValue := 0 }, { name := "DigitOnes", type := (.array .byte), accessFlags := 24, slot := 5, constantValue := 0 }, { name := "value", type := .int, accessFlags := 18, slot := 0, constantValue := 0 }, { name := "SIZE", type := .int, accessFlags := 25, slot := 6, constantValue := 0 }, { name := "BYTES", type := .int, accessFlags := 25, slot := 7, constantValue := 0 }, { name := "serialVersionUID", type := .long, accessFlags := 26, slot := 8, constantValue := 0 }]
  methods := #[k8m0, k8m1]
  instanceTypes := #[.int]
  staticTypes := #[.int, .int, (.object "java/lang/Class"), (.array .char), (.array .byte), (.array .byte), .int, .int, .long]
  resolved := Array.replicate 453 none
  statics := none }

def pool9 : Array CpInfo := pool [(2, .class_ 4), (1, u "java/lang/Object"), (0, u "<init>"), (0, u "()V"), (0, .class_ 8), (0, u "java/lang/Integer"), (7, .class_ 18), (1, u "java/lang/Integer$IntegerCache"), (0, u "$assertionsDisabled"), (0, u "Z"), (26, u "high"), (0, u "I"), (8, u "archivedCache"), (0, u "[Ljava/lang/Integer;"), (12, u "cache"), (0, u "low")] 27

def k9m0 : Method := { name := "<init>", desc := "()V", sig := { parameters := [], returnType := none }, accessFlags := 2, code := none }
/-- java/lang/Integer$IntegerCache -/
def k9 : Class := { plain "java/lang/Integer$IntegerCache" (some 0) with
  accessFlags := 48
  interfaces := #[]
  cf := some (fileOf pool9 16 #[.nestHost 7] #[{ accessFlags := 2, nameIndex := 5, descriptorIndex := 6, attributes := #[] }] 48 2 #[] #[{ accessFlags := 24, nameIndex := 72, descriptorIndex := 48, attributes := #[] }, { accessFlags := 24, nameIndex := 47, descriptorIndex := 48, attributes := #[] }, { accessFlags := 24, nameIndex := 71, descriptorIndex := 58, attributes := #[] }, { accessFlags := 8, nameIndex := 57, descriptorIndex := 58, attributes := #[] }, { accessFlags := 4120, nameIndex := 19, descriptorIndex := 20, attributes := #[] }])
  fields := #[{ name := "low", type := .int, accessFlags := 24, slot := 0, constantValue := 0 }, { name := "high", type := .int, accessFlags := 24, slot := 1, constantValue := 0 }, { name := "cache", type := (.array (.object "java/lang/Integer")), accessFlags := 24, slot := 2, constantValue := 0 }, { name := "archivedCache", type := (.array (.object "java/lang/Integer")), accessFlags := 8, slot := 3, constantValue := 0 }, { name := "$assertionsDisabled", type := .boolean, accessFlags := 4120, slot := 4, constantValue := 0 }]
  methods := #[k9m0]
  instanceTypes := #[]
  staticTypes := #[.int, .int, (.array (.object "java/lang/Integer")), (.array (.object "java/lang/Integer")), .boolean]
  resolved := Array.replicate 100 none
  statics := some 0 }

def pool10 : Array CpInfo := pool [(1, u "java/lang/Cloneable"), (0, .class_ 1), (0, u "java/lang/Object"), (0, .class_ 3)] 3

/-- java/lang/Cloneable -/
def k10 : Class := { plain "java/lang/Cloneable" (some 0) with
  accessFlags := 1537
  interfaces := #[]
  cf := some (fileOf pool10 2 #[] #[] 1537 4 #[] #[])
  fields := #[]
  methods := #[]
  instanceTypes := #[]
  staticTypes := #[]
  resolved := Array.replicate 8 none
  statics := none }

/-- the primitive byte -/
def k11 : Class := { plain "byte" none with kind := .primitive 'B', accessFlags := 0x411 }
/-- [B -/
def k12 : Class := { plain "[B" (some 0) with kind := .array 11 .byte, interfaces := #[10, 3], accessFlags := 1041 }

/-- the primitive int -/
def k13 : Class := { plain "int" none with kind := .primitive 'I', accessFlags := 0x411 }
/-- [I -/
def k14 : Class := { plain "[I" (some 0) with kind := .array 13 .int, interfaces := #[10, 3], accessFlags := 1041 }

/-- [Ljava/lang/Integer; -/
def k15 : Class := { plain "[Ljava/lang/Integer;" (some 0) with kind := .array 8 (.object "java/lang/Integer"), interfaces := #[10, 3], accessFlags := 1041 }

def heap : Heap := #[{ cls := 9, slots := #[.int 0, .int 127, .ref 1, .null, .int 0], vm := .statics 9 },
  { cls := 15, slots := #[.ref 2, .ref 3, .ref 4, .ref 5, .ref 6, .ref 7, .ref 8, .ref 9, .ref 10, .ref 11, .ref 12, .ref 13, .ref 14, .ref 15, .ref 16, .ref 17, .ref 18, .ref 19, .ref 20, .ref 21, .ref 22, .ref 23, .ref 24, .ref 25, .ref 26, .ref 27, .ref 28, .ref 29, .ref 30, .ref 31, .ref 32, .ref 33, .ref 34, .ref 35, .ref 36, .ref 37, .ref 38, .ref 39, .ref 40, .ref 41, .ref 42, .ref 43, .ref 44, .ref 45, .ref 46, .ref 47, .ref 48, .ref 49, .ref 50, .ref 51, .ref 52, .ref 53, .ref 54, .ref 55, .ref 56, .ref 57, .ref 58, .ref 59, .ref 60, .ref 61, .ref 62, .ref 63, .ref 64, .ref 65, .ref 66, .ref 67, .ref 68, .ref 69, .ref 70, .ref 71, .ref 72, .ref 73, .ref 74, .ref 75, .ref 76, .ref 77, .ref 78, .ref 79, .ref 80, .ref 81, .ref 82, .ref 83, .ref 84, .ref 85, .ref 86, .ref 87, .ref 88, .ref 89, .ref 90, .ref 91, .ref 92, .ref 93, .ref 94, .ref 95, .ref 96, .ref 97, .ref 98, .ref 99, .ref 100, .ref 101, .ref 102, .ref 103, .ref 104, .ref 105, .ref 106, .ref 107, .ref 108, .ref 109, .ref 110, .ref 111, .ref 112, .ref 113, .ref 114, .ref 115, .ref 116, .ref 117, .ref 118, .ref 119, .ref 120, .ref 121, .ref 122, .ref 123, .ref 124, .ref 125, .ref 126, .ref 127, .ref 128, .ref 129, .ref 130, .ref 131, .ref 132, .ref 133, .ref 134, .ref 135, .ref 136, .ref 137, .ref 138, .ref 139, .ref 140, .ref 141, .ref 142, .ref 143, .ref 144, .ref 145, .ref 146, .ref 147, .ref 148, .ref 149, .ref 150, .ref 151, .ref 152, .ref 153, .ref 154, .ref 155, .ref 156, .ref 157, .ref 158, .ref 159, .ref 160, .ref 161, .ref 162, .ref 163, .ref 164, .ref 165, .ref 166, .ref 167, .ref 168, .ref 169, .ref 170, .ref 171, .ref 172, .ref 173, .ref 174, .ref 175, .ref 176, .ref 177, .ref 178, .ref 179, .ref 180, .ref 181, .ref 182, .ref 183, .ref 184, .ref 185, .ref 186, .ref 187, .ref 188, .ref 189, .ref 190, .ref 191, .ref 192, .ref 193, .ref 194, .ref 195, .ref 196, .ref 197, .ref 198, .ref 199, .ref 200, .ref 201, .ref 202, .ref 203, .ref 204, .ref 205, .ref 206, .ref 207, .ref 208, .ref 209, .ref 210, .ref 211, .ref 212, .ref 213, .ref 214, .ref 215, .ref 216, .ref 217, .ref 218, .ref 219, .ref 220, .ref 221, .ref 222, .ref 223, .ref 224, .ref 225, .ref 226, .ref 227, .ref 228, .ref 229, .ref 230, .ref 231, .ref 232, .ref 233, .ref 234, .ref 235, .ref 236, .ref 237, .ref 238, .ref 239, .ref 240, .ref 241, .ref 242, .ref 243, .ref 244, .ref 245, .ref 246, .ref 247, .ref 248, .ref 249, .ref 250, .ref 251, .ref 252, .ref 253, .ref 254, .ref 255, .ref 256, .ref 257], vm := .none },
  { cls := 8, slots := #[.int (-128)], vm := .none },
  { cls := 8, slots := #[.int (-127)], vm := .none },
  { cls := 8, slots := #[.int (-126)], vm := .none },
  { cls := 8, slots := #[.int (-125)], vm := .none },
  { cls := 8, slots := #[.int (-124)], vm := .none },
  { cls := 8, slots := #[.int (-123)], vm := .none },
  { cls := 8, slots := #[.int (-122)], vm := .none },
  { cls := 8, slots := #[.int (-121)], vm := .none },
  { cls := 8, slots := #[.int (-120)], vm := .none },
  { cls := 8, slots := #[.int (-119)], vm := .none },
  { cls := 8, slots := #[.int (-118)], vm := .none },
  { cls := 8, slots := #[.int (-117)], vm := .none },
  { cls := 8, slots := #[.int (-116)], vm := .none },
  { cls := 8, slots := #[.int (-115)], vm := .none },
  { cls := 8, slots := #[.int (-114)], vm := .none },
  { cls := 8, slots := #[.int (-113)], vm := .none },
  { cls := 8, slots := #[.int (-112)], vm := .none },
  { cls := 8, slots := #[.int (-111)], vm := .none },
  { cls := 8, slots := #[.int (-110)], vm := .none },
  { cls := 8, slots := #[.int (-109)], vm := .none },
  { cls := 8, slots := #[.int (-108)], vm := .none },
  { cls := 8, slots := #[.int (-107)], vm := .none },
  { cls := 8, slots := #[.int (-106)], vm := .none },
  { cls := 8, slots := #[.int (-105)], vm := .none },
  { cls := 8, slots := #[.int (-104)], vm := .none },
  { cls := 8, slots := #[.int (-103)], vm := .none },
  { cls := 8, slots := #[.int (-102)], vm := .none },
  { cls := 8, slots := #[.int (-101)], vm := .none },
  { cls := 8, slots := #[.int (-100)], vm := .none },
  { cls := 8, slots := #[.int (-99)], vm := .none },
  { cls := 8, slots := #[.int (-98)], vm := .none },
  { cls := 8, slots := #[.int (-97)], vm := .none },
  { cls := 8, slots := #[.int (-96)], vm := .none },
  { cls := 8, slots := #[.int (-95)], vm := .none },
  { cls := 8, slots := #[.int (-94)], vm := .none },
  { cls := 8, slots := #[.int (-93)], vm := .none },
  { cls := 8, slots := #[.int (-92)], vm := .none },
  { cls := 8, slots := #[.int (-91)], vm := .none },
  { cls := 8, slots := #[.int (-90)], vm := .none },
  { cls := 8, slots := #[.int (-89)], vm := .none },
  { cls := 8, slots := #[.int (-88)], vm := .none },
  { cls := 8, slots := #[.int (-87)], vm := .none },
  { cls := 8, slots := #[.int (-86)], vm := .none },
  { cls := 8, slots := #[.int (-85)], vm := .none },
  { cls := 8, slots := #[.int (-84)], vm := .none },
  { cls := 8, slots := #[.int (-83)], vm := .none },
  { cls := 8, slots := #[.int (-82)], vm := .none },
  { cls := 8, slots := #[.int (-81)], vm := .none },
  { cls := 8, slots := #[.int (-80)], vm := .none },
  { cls := 8, slots := #[.int (-79)], vm := .none },
  { cls := 8, slots := #[.int (-78)], vm := .none },
  { cls := 8, slots := #[.int (-77)], vm := .none },
  { cls := 8, slots := #[.int (-76)], vm := .none },
  { cls := 8, slots := #[.int (-75)], vm := .none },
  { cls := 8, slots := #[.int (-74)], vm := .none },
  { cls := 8, slots := #[.int (-73)], vm := .none },
  { cls := 8, slots := #[.int (-72)], vm := .none },
  { cls := 8, slots := #[.int (-71)], vm := .none },
  { cls := 8, slots := #[.int (-70)], vm := .none },
  { cls := 8, slots := #[.int (-69)], vm := .none },
  { cls := 8, slots := #[.int (-68)], vm := .none },
  { cls := 8, slots := #[.int (-67)], vm := .none },
  { cls := 8, slots := #[.int (-66)], vm := .none },
  { cls := 8, slots := #[.int (-65)], vm := .none },
  { cls := 8, slots := #[.int (-64)], vm := .none },
  { cls := 8, slots := #[.int (-63)], vm := .none },
  { cls := 8, slots := #[.int (-62)], vm := .none },
  { cls := 8, slots := #[.int (-61)], vm := .none },
  { cls := 8, slots := #[.int (-60)], vm := .none },
  { cls := 8, slots := #[.int (-59)], vm := .none },
  { cls := 8, slots := #[.int (-58)], vm := .none },
  { cls := 8, slots := #[.int (-57)], vm := .none },
  { cls := 8, slots := #[.int (-56)], vm := .none },
  { cls := 8, slots := #[.int (-55)], vm := .none },
  { cls := 8, slots := #[.int (-54)], vm := .none },
  { cls := 8, slots := #[.int (-53)], vm := .none },
  { cls := 8, slots := #[.int (-52)], vm := .none },
  { cls := 8, slots := #[.int (-51)], vm := .none },
  { cls := 8, slots := #[.int (-50)], vm := .none },
  { cls := 8, slots := #[.int (-49)], vm := .none },
  { cls := 8, slots := #[.int (-48)], vm := .none },
  { cls := 8, slots := #[.int (-47)], vm := .none },
  { cls := 8, slots := #[.int (-46)], vm := .none },
  { cls := 8, slots := #[.int (-45)], vm := .none },
  { cls := 8, slots := #[.int (-44)], vm := .none },
  { cls := 8, slots := #[.int (-43)], vm := .none },
  { cls := 8, slots := #[.int (-42)], vm := .none },
  { cls := 8, slots := #[.int (-41)], vm := .none },
  { cls := 8, slots := #[.int (-40)], vm := .none },
  { cls := 8, slots := #[.int (-39)], vm := .none },
  { cls := 8, slots := #[.int (-38)], vm := .none },
  { cls := 8, slots := #[.int (-37)], vm := .none },
  { cls := 8, slots := #[.int (-36)], vm := .none },
  { cls := 8, slots := #[.int (-35)], vm := .none },
  { cls := 8, slots := #[.int (-34)], vm := .none },
  { cls := 8, slots := #[.int (-33)], vm := .none },
  { cls := 8, slots := #[.int (-32)], vm := .none },
  { cls := 8, slots := #[.int (-31)], vm := .none },
  { cls := 8, slots := #[.int (-30)], vm := .none },
  { cls := 8, slots := #[.int (-29)], vm := .none },
  { cls := 8, slots := #[.int (-28)], vm := .none },
  { cls := 8, slots := #[.int (-27)], vm := .none },
  { cls := 8, slots := #[.int (-26)], vm := .none },
  { cls := 8, slots := #[.int (-25)], vm := .none },
  { cls := 8, slots := #[.int (-24)], vm := .none },
  { cls := 8, slots := #[.int (-23)], vm := .none },
  { cls := 8, slots := #[.int (-22)], vm := .none },
  { cls := 8, slots := #[.int (-21)], vm := .none },
  { cls := 8, slots := #[.int (-20)], vm := .none },
  { cls := 8, slots := #[.int (-19)], vm := .none },
  { cls := 8, slots := #[.int (-18)], vm := .none },
  { cls := 8, slots := #[.int (-17)], vm := .none },
  { cls := 8, slots := #[.int (-16)], vm := .none },
  { cls := 8, slots := #[.int (-15)], vm := .none },
  { cls := 8, slots := #[.int (-14)], vm := .none },
  { cls := 8, slots := #[.int (-13)], vm := .none },
  { cls := 8, slots := #[.int (-12)], vm := .none },
  { cls := 8, slots := #[.int (-11)], vm := .none },
  { cls := 8, slots := #[.int (-10)], vm := .none },
  { cls := 8, slots := #[.int (-9)], vm := .none },
  { cls := 8, slots := #[.int (-8)], vm := .none },
  { cls := 8, slots := #[.int (-7)], vm := .none },
  { cls := 8, slots := #[.int (-6)], vm := .none },
  { cls := 8, slots := #[.int (-5)], vm := .none },
  { cls := 8, slots := #[.int (-4)], vm := .none },
  { cls := 8, slots := #[.int (-3)], vm := .none },
  { cls := 8, slots := #[.int (-2)], vm := .none },
  { cls := 8, slots := #[.int (-1)], vm := .none },
  { cls := 8, slots := #[.int (0)], vm := .none },
  { cls := 8, slots := #[.int (1)], vm := .none },
  { cls := 8, slots := #[.int (2)], vm := .none },
  { cls := 8, slots := #[.int (3)], vm := .none },
  { cls := 8, slots := #[.int (4)], vm := .none },
  { cls := 8, slots := #[.int (5)], vm := .none },
  { cls := 8, slots := #[.int (6)], vm := .none },
  { cls := 8, slots := #[.int (7)], vm := .none },
  { cls := 8, slots := #[.int (8)], vm := .none },
  { cls := 8, slots := #[.int (9)], vm := .none },
  { cls := 8, slots := #[.int (10)], vm := .none },
  { cls := 8, slots := #[.int (11)], vm := .none },
  { cls := 8, slots := #[.int (12)], vm := .none },
  { cls := 8, slots := #[.int (13)], vm := .none },
  { cls := 8, slots := #[.int (14)], vm := .none },
  { cls := 8, slots := #[.int (15)], vm := .none },
  { cls := 8, slots := #[.int (16)], vm := .none },
  { cls := 8, slots := #[.int (17)], vm := .none },
  { cls := 8, slots := #[.int (18)], vm := .none },
  { cls := 8, slots := #[.int (19)], vm := .none },
  { cls := 8, slots := #[.int (20)], vm := .none },
  { cls := 8, slots := #[.int (21)], vm := .none },
  { cls := 8, slots := #[.int (22)], vm := .none },
  { cls := 8, slots := #[.int (23)], vm := .none },
  { cls := 8, slots := #[.int (24)], vm := .none },
  { cls := 8, slots := #[.int (25)], vm := .none },
  { cls := 8, slots := #[.int (26)], vm := .none },
  { cls := 8, slots := #[.int (27)], vm := .none },
  { cls := 8, slots := #[.int (28)], vm := .none },
  { cls := 8, slots := #[.int (29)], vm := .none },
  { cls := 8, slots := #[.int (30)], vm := .none },
  { cls := 8, slots := #[.int (31)], vm := .none },
  { cls := 8, slots := #[.int (32)], vm := .none },
  { cls := 8, slots := #[.int (33)], vm := .none },
  { cls := 8, slots := #[.int (34)], vm := .none },
  { cls := 8, slots := #[.int (35)], vm := .none },
  { cls := 8, slots := #[.int (36)], vm := .none },
  { cls := 8, slots := #[.int (37)], vm := .none },
  { cls := 8, slots := #[.int (38)], vm := .none },
  { cls := 8, slots := #[.int (39)], vm := .none },
  { cls := 8, slots := #[.int (40)], vm := .none },
  { cls := 8, slots := #[.int (41)], vm := .none },
  { cls := 8, slots := #[.int (42)], vm := .none },
  { cls := 8, slots := #[.int (43)], vm := .none },
  { cls := 8, slots := #[.int (44)], vm := .none },
  { cls := 8, slots := #[.int (45)], vm := .none },
  { cls := 8, slots := #[.int (46)], vm := .none },
  { cls := 8, slots := #[.int (47)], vm := .none },
  { cls := 8, slots := #[.int (48)], vm := .none },
  { cls := 8, slots := #[.int (49)], vm := .none },
  { cls := 8, slots := #[.int (50)], vm := .none },
  { cls := 8, slots := #[.int (51)], vm := .none },
  { cls := 8, slots := #[.int (52)], vm := .none },
  { cls := 8, slots := #[.int (53)], vm := .none },
  { cls := 8, slots := #[.int (54)], vm := .none },
  { cls := 8, slots := #[.int (55)], vm := .none },
  { cls := 8, slots := #[.int (56)], vm := .none },
  { cls := 8, slots := #[.int (57)], vm := .none },
  { cls := 8, slots := #[.int (58)], vm := .none },
  { cls := 8, slots := #[.int (59)], vm := .none },
  { cls := 8, slots := #[.int (60)], vm := .none },
  { cls := 8, slots := #[.int (61)], vm := .none },
  { cls := 8, slots := #[.int (62)], vm := .none },
  { cls := 8, slots := #[.int (63)], vm := .none },
  { cls := 8, slots := #[.int (64)], vm := .none },
  { cls := 8, slots := #[.int (65)], vm := .none },
  { cls := 8, slots := #[.int (66)], vm := .none },
  { cls := 8, slots := #[.int (67)], vm := .none },
  { cls := 8, slots := #[.int (68)], vm := .none },
  { cls := 8, slots := #[.int (69)], vm := .none },
  { cls := 8, slots := #[.int (70)], vm := .none },
  { cls := 8, slots := #[.int (71)], vm := .none },
  { cls := 8, slots := #[.int (72)], vm := .none },
  { cls := 8, slots := #[.int (73)], vm := .none },
  { cls := 8, slots := #[.int (74)], vm := .none },
  { cls := 8, slots := #[.int (75)], vm := .none },
  { cls := 8, slots := #[.int (76)], vm := .none },
  { cls := 8, slots := #[.int (77)], vm := .none },
  { cls := 8, slots := #[.int (78)], vm := .none },
  { cls := 8, slots := #[.int (79)], vm := .none },
  { cls := 8, slots := #[.int (80)], vm := .none },
  { cls := 8, slots := #[.int (81)], vm := .none },
  { cls := 8, slots := #[.int (82)], vm := .none },
  { cls := 8, slots := #[.int (83)], vm := .none },
  { cls := 8, slots := #[.int (84)], vm := .none },
  { cls := 8, slots := #[.int (85)], vm := .none },
  { cls := 8, slots := #[.int (86)], vm := .none },
  { cls := 8, slots := #[.int (87)], vm := .none },
  { cls := 8, slots := #[.int (88)], vm := .none },
  { cls := 8, slots := #[.int (89)], vm := .none },
  { cls := 8, slots := #[.int (90)], vm := .none },
  { cls := 8, slots := #[.int (91)], vm := .none },
  { cls := 8, slots := #[.int (92)], vm := .none },
  { cls := 8, slots := #[.int (93)], vm := .none },
  { cls := 8, slots := #[.int (94)], vm := .none },
  { cls := 8, slots := #[.int (95)], vm := .none },
  { cls := 8, slots := #[.int (96)], vm := .none },
  { cls := 8, slots := #[.int (97)], vm := .none },
  { cls := 8, slots := #[.int (98)], vm := .none },
  { cls := 8, slots := #[.int (99)], vm := .none },
  { cls := 8, slots := #[.int (100)], vm := .none },
  { cls := 8, slots := #[.int (101)], vm := .none },
  { cls := 8, slots := #[.int (102)], vm := .none },
  { cls := 8, slots := #[.int (103)], vm := .none },
  { cls := 8, slots := #[.int (104)], vm := .none },
  { cls := 8, slots := #[.int (105)], vm := .none },
  { cls := 8, slots := #[.int (106)], vm := .none },
  { cls := 8, slots := #[.int (107)], vm := .none },
  { cls := 8, slots := #[.int (108)], vm := .none },
  { cls := 8, slots := #[.int (109)], vm := .none },
  { cls := 8, slots := #[.int (110)], vm := .none },
  { cls := 8, slots := #[.int (111)], vm := .none },
  { cls := 8, slots := #[.int (112)], vm := .none },
  { cls := 8, slots := #[.int (113)], vm := .none },
  { cls := 8, slots := #[.int (114)], vm := .none },
  { cls := 8, slots := #[.int (115)], vm := .none },
  { cls := 8, slots := #[.int (116)], vm := .none },
  { cls := 8, slots := #[.int (117)], vm := .none },
  { cls := 8, slots := #[.int (118)], vm := .none },
  { cls := 8, slots := #[.int (119)], vm := .none },
  { cls := 8, slots := #[.int (120)], vm := .none },
  { cls := 8, slots := #[.int (121)], vm := .none },
  { cls := 8, slots := #[.int (122)], vm := .none },
  { cls := 8, slots := #[.int (123)], vm := .none },
  { cls := 8, slots := #[.int (124)], vm := .none },
  { cls := 8, slots := #[.int (125)], vm := .none },
  { cls := 8, slots := #[.int (126)], vm := .none },
  { cls := 8, slots := #[.int (127)], vm := .none }]
def classes : Array Class := #[k0, k1, k2, k3, k4, k5, k6, k7, k8, k9, k10, k11, k12, k13, k14, k15]
def interned : List (Array UInt16 × Addr) := []
def slotsUsed : Nat := 517
def theMethod : MethodId := ⟨1, 1⟩
def args0 : Array Value := #[.int 500, .long 7, .int 9, .long 3, .int 2]
def aboutOver (below : List Frame) : State where
  vm := { classes := classes, interned := interned.toArray }
  heap := heap
  slotsUsed := slotsUsed
  threads := #[{ frames := .invoking theMethod args0 :: below }]
def below0 : List Frame := [.native { method := ⟨0, 0⟩, args := #[] }]
def about1 : State := aboutOver below0
def p0 : Program := .bare "" "" ""
def e0 : Env := launch0.env 0 0 0
theorem w_frames : about1.frames = Frame.invoking theMethod args0 :: below0 := rfl
set_option maxRecDepth 65536 in
theorem w_args : argsFit about1.vm theMethod args0 = true := by decide +kernel
set_option maxRecDepth 65536 in
theorem w_heap : heapFits about1 = true := by decide +kernel
set_option maxRecDepth 65536 in
theorem w_runnable : about1.curStatus? = some .runnable := by decide +kernel
set_option maxRecDepth 65536 in
theorem w_alone : about1.alone = true := by decide +kernel
set_option maxRecDepth 65536 in
theorem w_named : about1.methodNamed? x = some theMethod := by decide +kernel
set_option maxRecDepth 65536 in
theorem w_hears : about1.hears theMethod below0 = true := by decide +kernel
set_option maxRecDepth 65536 in
theorem w_ripe : about1.ripe theMethod args0 below0 = true := by decide +kernel
theorem w_running : about1.status = .running := rfl
set_option maxRecDepth 65536 in
theorem w_room : about1.hasRoom e0.platform room_1 = true :=
  launch0.hasRoom_least _ room_1 (by decide +kernel) (by decide +kernel) (by decide +kernel) (by decide +kernel) (by decide +kernel) (by decide +kernel)
theorem allAtoms_all (ts : List Jvm.Cond) (a : Array Jvm.Value) (st : Jvm.State) : (allAtoms ts).before a st = ts.all (fun c => c.before a st) := by
  induction ts with
  | nil => rfl
  | cons c t ih =>
    show (Jvm.Cond.and c (allAtoms t)).before a st = _
    rw [Jvm.Cond.before_and, ih, List.all_cons]
def words1 : List Jvm.Cond := Jvm.Cond.code x code maxLocals ret :: tables_1
/-- a 'code' word, met by the world's own term for the bytes: nothing is compared byte by byte -/
theorem code_word {y : MethodName} {bytes : ByteArray} {mx : Nat} {rt : Option FieldType} {a : Array Value} {s : State} {m : MethodId} {meth : Method} {c : Code} (h1 : s.methodNamed? y = some m) (h2 : s.vm.method? m = some meth) (h3 : meth.code = some c) (h4 : c.code = bytes)
    (h5 : (c.maxLocals == mx && c.exceptionTable.isEmpty && decide (c.maxStack ≤ mostOperands) && decide (meth.sig.returnType = rt) && !meth.locks && decide (parseMethodDescriptor y.desc = some meth.sig)) = true) : (Jvm.Cond.code y bytes mx rt).before a s = true := by
  simp only [Bool.and_eq_true, beq_iff_eq, Bool.not_eq_true', decide_eq_true_eq] at h5
  obtain ⟨⟨⟨⟨⟨g1, g2⟩, g3⟩, g4⟩, g5⟩, g6⟩ := h5
  simp [Cond.before, Cond.holds, Cond.value, h1, h2, h3, h4, g1, g2, g3, g4, g5, g6]
def isCode : Jvm.Cond → Bool
  | .code _ _ _ _ => true
  | _ => false
theorem all_split {L : List Jvm.Cond} {P : Jvm.Cond → Bool} (h1 : L.all (fun c => isCode c || P c) = true) (h2 : ∀ c ∈ L.filter isCode, P c = true) : L.all P = true := by
  refine List.all_eq_true.mpr fun c hc => ?_
  have h := List.all_eq_true.mp h1 c hc
  rcases Bool.eq_false_or_eq_true (isCode c) with hi | hi
  · exact h2 c (List.mem_filter.mpr ⟨hc, hi⟩)
  · simpa [hi] using h
set_option maxRecDepth 65536 in
theorem w_c0 : (Jvm.Cond.code x code maxLocals ret).before args0 about1 = true := code_word (m := ⟨1, 1⟩) (meth := k1m1) (c := k1c1) (by decide +kernel) rfl rfl rfl (by decide +kernel)
set_option maxRecDepth 65536 in
theorem w_c1 : (Jvm.Cond.code ({ cls := "com/example/sibyl/sibyl/kernel/Label", name := "<init>", desc := "(IJ)V" } : Jvm.MethodName) prog_13_method_1_code (4 : Nat) (Option.none : Option Jvm.ClassFile.FieldType)).before args0 about1 = true := code_word (m := ⟨2, 0⟩) (meth := k2m0) (c := k2c0) (by decide +kernel) rfl rfl rfl (by decide +kernel)
set_option maxRecDepth 65536 in
theorem w_c2 : (Jvm.Cond.code ({ cls := "java/lang/Object", name := "<init>", desc := "()V" } : Jvm.MethodName) object_method_1_code (1 : Nat) (Option.none : Option Jvm.ClassFile.FieldType)).before args0 about1 = true := code_word (m := ⟨0, 0⟩) (meth := k0m0) (c := k0c0) (by decide +kernel) rfl rfl rfl (by decide +kernel)
set_option maxRecDepth 65536 in
theorem w_c3 : (Jvm.Cond.code ({ cls := "java/lang/Integer", name := "valueOf", desc := "(I)Ljava/lang/Integer;" } : Jvm.MethodName) jdk_33_method_22_code (1 : Nat) (Option.some (Jvm.ClassFile.FieldType.object "java/lang/Integer"))).before args0 about1 = true := code_word (m := ⟨8, 0⟩) (meth := k8m0) (c := k8c0) (by decide +kernel) rfl rfl rfl (by decide +kernel)
set_option maxRecDepth 65536 in
theorem w_c4 : (Jvm.Cond.code ({ cls := "com/example/sibyl/sibyl/kernel/Label", name := "equals", desc := "(Ljava/lang/Object;)Z" } : Jvm.MethodName) prog_13_method_7_code (3 : Nat) (Option.some Jvm.ClassFile.FieldType.boolean)).before args0 about1 = true := code_word (m := ⟨2, 1⟩) (meth := k2m1) (c := k2c1) (by decide +kernel) rfl rfl rfl (by decide +kernel)
set_option maxRecDepth 65536 in
theorem w_c5 : (Jvm.Cond.code ({ cls := "java/lang/Integer", name := "<init>", desc := "(I)V" } : Jvm.MethodName) jdk_33_method_23_code (2 : Nat) (Option.none : Option Jvm.ClassFile.FieldType)).before args0 about1 = true := code_word (m := ⟨8, 1⟩) (meth := k8m1) (c := k8c1) (by decide +kernel) rfl rfl rfl (by decide +kernel)
set_option maxRecDepth 65536 in
theorem w_c6 : (Jvm.Cond.code ({ cls := "java/lang/Number", name := "<init>", desc := "()V" } : Jvm.MethodName) jdk_18_method_1_code (1 : Nat) (Option.none : Option Jvm.ClassFile.FieldType)).before args0 about1 = true := code_word (m := ⟨4, 0⟩) (meth := k4m0) (c := k4c0) (by decide +kernel) rfl rfl rfl (by decide +kernel)
def codes1 : List Jvm.Cond := [Jvm.Cond.code x code maxLocals ret, Jvm.Cond.code ({ cls := "com/example/sibyl/sibyl/kernel/Label", name := "<init>", desc := "(IJ)V" } : Jvm.MethodName) prog_13_method_1_code (4 : Nat) (Option.none : Option Jvm.ClassFile.FieldType), Jvm.Cond.code ({ cls := "java/lang/Object", name := "<init>", desc := "()V" } : Jvm.MethodName) object_method_1_code (1 : Nat) (Option.none : Option Jvm.ClassFile.FieldType), Jvm.Cond.code ({ cls := "java/lang/Integer", name := "valueOf", desc := "(I)Ljava/lang/Integer;" } : Jvm.MethodName) jdk_33_method_22_code (1 : Nat) (Option.some (Jvm.ClassFile.FieldType.object "java/lang/Integer")), Jvm.Cond.code ({ cls := "com/example/sibyl/sibyl/kernel/Label", name := "equals", desc := "(Ljava/lang/Object;)Z" } : Jvm.MethodName) prog_13_method_7_code (3 : Nat) (Option.some Jvm.ClassFile.FieldType.boolean), Jvm.Cond.code ({ cls := "java/lang/Integer", name := "<init>", desc := "(I)V" } : Jvm.MethodName) jdk_33_method_23_code (2 : Nat) (Option.none : Option Jvm.ClassFile.FieldType), Jvm.Cond.code ({ cls := "java/lang/Number", name := "<init>", desc := "()V" } : Jvm.MethodName) jdk_18_method_1_code (1 : Nat) (Option.none : Option Jvm.ClassFile.FieldType)]
set_option maxRecDepth 65536 in
theorem codes_eq : words1.filter isCode = codes1 := rfl
theorem w_codes : ∀ c ∈ words1.filter isCode, c.before args0 about1 = true := by
  rw [codes_eq]
  intro c hc
  simp only [codes1, List.mem_cons, List.not_mem_nil, or_false] at hc
  rcases hc with rfl | rfl | rfl | rfl | rfl | rfl | rfl
  · exact w_c0
  · exact w_c1
  · exact w_c2
  · exact w_c3
  · exact w_c4
  · exact w_c5
  · exact w_c6
set_option maxRecDepth 65536 in
theorem w_t1 : (words1.take 24).all (fun c => isCode c || c.before args0 about1) = true := by decide +kernel
set_option maxRecDepth 65536 in
theorem w_t2 : (words1.drop 24).all (fun c => isCode c || c.before args0 about1) = true := by decide +kernel
theorem w_tables : (allAtoms (Jvm.Cond.code x code maxLocals ret :: tables_1)).before args0 about1 = true := by
  rw [allAtoms_all]
  show words1.all (fun c => c.before args0 about1) = true
  refine all_split ?_ w_codes
  rw [← List.take_append_drop 24 words1, List.all_append, w_t1, w_t2]
  rfl
set_option maxRecDepth 65536 in
theorem w_rest : rest_1_c.before args0 about1 = true := by decide +kernel
set_option maxRecDepth 65536 in
theorem w_case : (Jvm.Cond.and given_1 narrow_1).before args0 about1 = true := by decide +kernel
theorem w_applies : (headSpec (Jvm.Cond.code x code maxLocals ret :: tables_1) room_1).applies x e0.platform about1 = true :=
  (Spec.applies_iff w_frames).mpr ⟨w_running, w_runnable, w_alone, w_named, w_hears, w_ripe, w_room, w_tables⟩
theorem atStart : AtStart classFile x code maxLocals ret World_1 tables_1 room_1 Calls_1 rest_1 Pre_1 launch0 p0 e0 about1 theMethod args0 below0 :=
  ⟨lists_1, trivial, launch0.admits_env _ _ _, launch0.least_env, fairChoices_fair.cas, fairChoices_fair.clock, w_frames, w_args, w_heap, w_applies, trivial, w_rest, w_case⟩
end start1
theorem witness_1 : WitnessClaimed_1 := ⟨start1.p0, start1.e0, start1.about1, start1.theMethod, start1.args0, start1.below0, start1.atStart⟩
end Jvm.Pilot.@@N@@
