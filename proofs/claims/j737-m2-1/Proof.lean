import JvmDerived
import JvmDerived.Pilot.@@N@@Statement
import JvmDerived.Pilot.@@N@@Code
set_option linter.unusedVariables false
set_option linter.unusedSimpArgs false
namespace Jvm.RoadKit
open Sem ClassFile Op Lib Jvm.Stand Jvm.Free Jvm.LawKit
section New
variable {p : Program} {l : Launch} {e : Env} {R : Room} {s : State} {m : MethodId} {args : Array Value} {below : List Frame} {meth : Method} {c : Code} {T : State} {locs : List Loc} {cells slots : Nat}
theorem retI (X : Stand p l e R s m args below meth c T locs cells slots) (hx : p.tables.exec = Jvm.exec) {pc : Nat} {Ls : Array Slot} {z : Int32} {rest : List Value} (hret : meth.sig.returnType = some .int) (hd : decode c.code pc = .ok (.ireturn, 1)) {fs : List Frame}
    (hl : ∀ (f : JFrame) (acts : List Action), f.method = m → f.locked = none → f.entered = [] → (doReturn e (T.setTop f) acts (some (.int z))).1 = T.setFrames fs) : Steps p.tables e below (T.setTop (mkF m pc Ls (.int z :: rest))) (T.setFrames fs) := by
  have hm' : T.vm.method? m = some meth := X.method'
  have hn : narrow .int (.int z) = .int z := rfl
  show Steps p.tables e below (T.setTop { method := m, pc := pc, locals := Ls, stack := _ :: rest, locked := none }) _
  jvm_step X.here [X.here.top, hx, hd, hm', hret, hn]
  first | (intro acts; rw [hl _ acts rfl rfl rfl]) | rw [hl _ _ rfl rfl rfl]
  exact Steps.refl _
theorem own_lremM {g : JFrame} {target : State} (X : Stand p l e R s m args below meth c T locs cells slots) (hx : p.tables.exec = Jvm.exec) (hg : g.method = m) {x y : Int64} {rest : List Value} (hd : decode c.code g.pc = .ok (.lrem, 1)) (hs : g.stack = .long y :: .long x :: rest) (hy : y ≠ 0)
    (hr : Steps p.tables e below (T.setTop { g with pc := g.pc + 1, stack := .long (x % y) :: rest }) target) : Steps p.tables e below (T.setTop g) target := by
  have q : x - x / y * y = x % y := lrem_mod x y
  exact XS.lrem X.here hx hg hd hs hy (by rw [q]; exact hr)
end New
end Jvm.RoadKit
namespace Jvm.RoadKit
open Sem ClassFile Op Lib Jvm.Stand Jvm.Free Jvm.LawKit
section OwnA
variable {p : Program} {l : Launch} {e : Env} {R : Room} {s : State} {m : MethodId} {args : Array Value} {below : List Frame} {meth : Method} {c : Code} {T : State} {locs : List Loc} {cells slots : Nat} {Z : State} {a0 : Array Value} {h h' : Heap} {a b : Addr} {ty : FieldType} {n : Nat} {G : Nat → Value}
def own_upd {α : Type} (g : Nat → α) (k : Nat) (x : α) (i : Nat) : α := if i = k then x else g i
def own_zI (_ : Nat) : Int32 := 0
def own_zJ (_ : Nat) : Int64 := 0
def own_A (Z : State) (h : Heap) (a : Addr) (ty : FieldType) (n : Nat) (G : Nat → Value) : Prop := ∃ c : Cell, Arr Z h a c ty ∧ c.slots.size = n ∧ ∀ i, i < n → c.slots[i]? = some (G i) ∧ fits ty (G i) = true
theorem own_A.lt (F : own_A Z h a ty n G) : a < h.size := by obtain ⟨c, A, -⟩ := F; exact A.lt
theorem own_A.ext (F : own_A Z h a ty n G) (E : Ext h h') : own_A Z h' a ty n G := by obtain ⟨c, A, r⟩ := F; exact ⟨c, A.ext E, r⟩
theorem own_A.other {sl : Nat} {v : Value} (F : own_A Z h b ty n G) (W : Wr h h' a sl v) (q : b ≠ a) : own_A Z h' b ty n G := by obtain ⟨c, A, r⟩ := F; exact ⟨c, A.other W q, r⟩
theorem own_A.keep {ws : List Addr} (F : own_A Z h a ty n G) (K : Keep h h' ws) (q : a ∉ ws) : own_A Z h' a ty n G := by obtain ⟨c, A, r⟩ := F; exact ⟨c, ⟨K.2.1 a c A.1 q, A.2⟩, r⟩
theorem own_A.new {k : ClassId} {z : Int32} (A : Arr Z h a (newA k ty z) ty) (q : z.toNatClampNeg = n) (hG : ∀ i, G i = defaultValue ty) : own_A Z h a ty n G :=
  ⟨_, A, by rw [sz_new, q], fun i hi => ⟨by rw [hG]; rw [← q] at hi; simp [newA, hi], by rw [hG]; cases ty <;> rfl⟩⟩
theorem own_A.set {k : Nat} {v : Value} (F : own_A Z h a ty n G) (W : Wr h h' a k v) (hk : k < n) (hf : fits ty v = true) : own_A Z h' a ty n (own_upd G k v) := by
  obtain ⟨c, A, q, r⟩ := F
  refine ⟨c.setSlot k v, A.same W, by rw [sz_set, q], fun i hi => ?_⟩
  by_cases e : i = k
  · subst e
    exact ⟨by simp [Cell.setSlot, own_upd, q, hk], by simpa [own_upd] using hf⟩
  · have r1 := r i hi
    have r2 : (c.setSlot k v).slots[i]? = c.slots[i]? := Array.getElem?_setIfInBounds_ne (Ne.symm e)
    have r3 : own_upd G k v i = G i := if_neg e
    rw [r2, r3]; exact r1
theorem own_upd_int (g : Nat → Int32) (k : Nat) (x : Int32) : own_upd (fun i => Value.int (g i)) k (.int x) = fun i => Value.int (own_upd g k x i) := by funext i; unfold own_upd; split <;> rfl
theorem own_upd_long (g : Nat → Int64) (k : Nat) (x : Int64) : own_upd (fun i => Value.long (g i)) k (.long x) = fun i => Value.long (own_upd g k x i) := by funext i; unfold own_upd; split <;> rfl
theorem own_inb {c : Cell} {j : Int32} {k : Nat} (q : c.slots.size = n) (hj0 : ¬ j < 0) (hk : j.toNatClampNeg = k) (hkn : k < n) : ¬ (j < 0 ∨ c.slots.size ≤ j.toNatClampNeg) := fun y => y.elim hj0 fun z => by rw [q, hk] at z; exact absurd hkn (Nat.not_lt.mpr z)
theorem own_stI {g0 : Nat → Int32} (X : Stand p l e R s m args below meth c T locs cells slots) (hx : p.tables.exec = Jvm.exec) (hZ : Z.Warmed39 s.vm) (eT : T.heap = h) (F : own_A Z h a .int n (fun i => .int (g0 i))) {j x : Int32} {k : Nat} (hj0 : ¬ j < 0) (hk : j.toNatClampNeg = k) (hkn : k < n) {g : JFrame} (hg : g.method = m) {rest : List Value} (hs : g.stack = .int x :: .int j :: .ref a :: rest) (hd : decode c.code g.pc = .ok (.iastore, 1)) :
    ∃ T' h', Stand p l e R s m args below meth c T' (locs ++ [⟨a, j.toNatClampNeg⟩]) cells slots ∧ T'.heap = h' ∧ Wr h h' a j.toNatClampNeg (.int x) ∧ own_A Z h' a .int n (fun i => .int (own_upd g0 k x i)) ∧ ∀ target, Steps p.tables e below (T'.setTop { g with pc := g.pc + 1, stack := rest }) target → Steps p.tables e below (T.setTop g) target := by
  obtain ⟨cl, A, q, r⟩ := id F
  obtain ⟨T', h', X', e', W, st⟩ := stI X hx hZ eT A (j := j) (x := x) (own_inb q hj0 hk hkn) hg hs hd
  exact ⟨T', h', X', e', W, own_upd_int g0 k x ▸ hk ▸ F.set W (by rw [hk]; exact hkn) rfl, st⟩
theorem own_stJ {g0 : Nat → Int64} (X : Stand p l e R s m args below meth c T locs cells slots) (hx : p.tables.exec = Jvm.exec) (hZ : Z.Warmed39 s.vm) (eT : T.heap = h) (F : own_A Z h a .long n (fun i => .long (g0 i))) {j : Int32} {x : Int64} {k : Nat} (hj0 : ¬ j < 0) (hk : j.toNatClampNeg = k) (hkn : k < n) {g : JFrame} (hg : g.method = m) {rest : List Value} (hs : g.stack = .long x :: .int j :: .ref a :: rest) (hd : decode c.code g.pc = .ok (.lastore, 1)) :
    ∃ T' h', Stand p l e R s m args below meth c T' (locs ++ [⟨a, j.toNatClampNeg⟩]) cells slots ∧ T'.heap = h' ∧ Wr h h' a j.toNatClampNeg (.long x) ∧ own_A Z h' a .long n (fun i => .long (own_upd g0 k x i)) ∧ ∀ target, Steps p.tables e below (T'.setTop { g with pc := g.pc + 1, stack := rest }) target → Steps p.tables e below (T.setTop g) target := by
  obtain ⟨cl, A, q, r⟩ := id F
  obtain ⟨T', h', X', e', W, st⟩ := stJ X hx hZ eT A (j := j) (x := x) (own_inb q hj0 hk hkn) hg hs hd
  exact ⟨T', h', X', e', W, own_upd_long g0 k x ▸ hk ▸ F.set W (by rw [hk]; exact hkn) rfl, st⟩
theorem own_stB {g0 : Nat → Int32} (X : Stand p l e R s m args below meth c T locs cells slots) (hx : p.tables.exec = Jvm.exec) (hZ : Z.Warmed39 s.vm) (eT : T.heap = h) (F : own_A Z h a .byte n (fun i => .int (g0 i))) {j x : Int32} {k : Nat} (hj0 : ¬ j < 0) (hk : j.toNatClampNeg = k) (hkn : k < n) {g : JFrame} (hg : g.method = m) {rest : List Value} (hs : g.stack = .int x :: .int j :: .ref a :: rest) (hd : decode c.code g.pc = .ok (.bastore, 1)) :
    ∃ T' h', Stand p l e R s m args below meth c T' (locs ++ [⟨a, j.toNatClampNeg⟩]) cells slots ∧ T'.heap = h' ∧ Wr h h' a j.toNatClampNeg (.int x.toInt8.toInt32) ∧ own_A Z h' a .byte n (fun i => .int (own_upd g0 k x.toInt8.toInt32 i)) ∧ ∀ target, Steps p.tables e below (T'.setTop { g with pc := g.pc + 1, stack := rest }) target → Steps p.tables e below (T.setTop g) target := by
  obtain ⟨cl, A, q, r⟩ := id F
  obtain ⟨T', h', X', e', W, st⟩ := stB X hx hZ eT A (j := j) (x := x) (own_inb q hj0 hk hkn) hg hs hd
  have hfb : fits .byte (.int (nar .byte x)) = true := fits_nar_byte x
  exact ⟨T', h', X', e', W, own_upd_int g0 k _ ▸ hk ▸ F.set W (by rw [hk]; exact hkn) hfb, st⟩
theorem own_ldI {g0 : Nat → Int32} (X : Stand p l e R s m args below meth c T locs cells slots) (hx : p.tables.exec = Jvm.exec) (hZ : Z.Warmed39 s.vm) (eT : T.heap = h) (F : own_A Z h a .int n (fun i => .int (g0 i))) {j : Int32} {k : Nat} (hj0 : ¬ j < 0) (hk : j.toNatClampNeg = k) (hkn : k < n) {g : JFrame} (hg : g.method = m) {rest : List Value} (hs : g.stack = .int j :: .ref a :: rest) (hd : decode c.code g.pc = .ok (.iaload, 1)) {target : State}
    (hr : Steps p.tables e below (T.setTop { g with pc := g.pc + 1, stack := .int (g0 k) :: rest }) target) : Steps p.tables e below (T.setTop g) target := by
  obtain ⟨cl, A, q, r⟩ := F
  exact X.iaload hx (j := j) (v := .int (g0 k)) (by rw [eT]; exact A.1) (State.isArrayOf_alike hZ.alike A.2.1) A.2.2 (own_inb q hj0 hk hkn) (by rw [hk]; exact (r k hkn).1) hg hs hd _ hr
theorem own_ldJ {g0 : Nat → Int64} (X : Stand p l e R s m args below meth c T locs cells slots) (hx : p.tables.exec = Jvm.exec) (hZ : Z.Warmed39 s.vm) (eT : T.heap = h) (F : own_A Z h a .long n (fun i => .long (g0 i))) {j : Int32} {k : Nat} (hj0 : ¬ j < 0) (hk : j.toNatClampNeg = k) (hkn : k < n) {g : JFrame} (hg : g.method = m) {rest : List Value} (hs : g.stack = .int j :: .ref a :: rest) (hd : decode c.code g.pc = .ok (.laload, 1)) {target : State}
    (hr : Steps p.tables e below (T.setTop { g with pc := g.pc + 1, stack := .long (g0 k) :: rest }) target) : Steps p.tables e below (T.setTop g) target := by
  obtain ⟨cl, A, q, r⟩ := F
  exact X.laload hx (j := j) (v := .long (g0 k)) (by rw [eT]; exact A.1) (State.isArrayOf_alike hZ.alike A.2.1) A.2.2 (own_inb q hj0 hk hkn) (by rw [hk]; exact (r k hkn).1) hg hs hd _ hr
theorem own_ldB {g0 : Nat → Int32} (X : Stand p l e R s m args below meth c T locs cells slots) (hx : p.tables.exec = Jvm.exec) (hZ : Z.Warmed39 s.vm) (eT : T.heap = h) (F : own_A Z h a .byte n (fun i => .int (g0 i))) {j : Int32} {k : Nat} (hj0 : ¬ j < 0) (hk : j.toNatClampNeg = k) (hkn : k < n) {g : JFrame} (hg : g.method = m) {rest : List Value} (hs : g.stack = .int j :: .ref a :: rest) (hd : decode c.code g.pc = .ok (.baload, 1)) {target : State}
    (hr : Steps p.tables e below (T.setTop { g with pc := g.pc + 1, stack := .int (g0 k) :: rest }) target) : Steps p.tables e below (T.setTop g) target := by
  obtain ⟨cl, A, q, r⟩ := F
  exact X.baloadBytes hx (j := j) (v := .int (g0 k)) (by rw [eT]; exact A.1) (State.isArrayOf_alike hZ.alike A.2.1) A.2.2 (own_inb q hj0 hk hkn) (by rw [hk]; exact (r k hkn).1) hg hs hd _ hr
theorem own_ldR {G : Nat → Value} (X : Stand p l e R s m args below meth c T locs cells slots) (hx : p.tables.exec = Jvm.exec) (hZ : Z.Warmed39 s.vm) (eT : T.heap = h) (F : own_A Z h a ty n G) (hty : ty.isReference = true) {j : Int32} {k : Nat} {v : Value} (hv : G k = v) (hj0 : ¬ j < 0) (hk : j.toNatClampNeg = k) (hkn : k < n) {g : JFrame} (hg : g.method = m) {rest : List Value} (hs : g.stack = .int j :: .ref a :: rest) (hd : decode c.code g.pc = .ok (.aaload, 1)) {target : State}
    (hr : Steps p.tables e below (T.setTop { g with pc := g.pc + 1, stack := v :: rest }) target) : Steps p.tables e below (T.setTop g) target := by
  obtain ⟨cl, A, q, r⟩ := F
  exact X.aaload hx (j := j) (v := v) (by rw [eT]; exact A.1) (State.isArrayOf_alike hZ.alike A.2.1) hty A.2.2 (own_inb q hj0 hk hkn) (by rw [hk, ← hv]; exact (r k hkn).1) hg hs hd _ hr
theorem own_len (X : Stand p l e R s m args below meth c T locs cells slots) (hx : p.tables.exec = Jvm.exec) (hZ : Z.Warmed39 s.vm) (eT : T.heap = h) (F : own_A Z h a ty n G) {z : Int32} (hz : n.toInt32 = z) {g : JFrame} (hg : g.method = m) {rest : List Value} (hs : g.stack = .ref a :: rest) (hd : decode c.code g.pc = .ok (.arraylength, 1)) {target : State}
    (hr : Steps p.tables e below (T.setTop { g with pc := g.pc + 1, stack := .int z :: rest }) target) : Steps p.tables e below (T.setTop g) target := by
  obtain ⟨cl, A, q, r⟩ := F
  exact X.arraylength hx (by rw [eT]; exact A.1) (State.isArrayOf_alike hZ.alike A.2.1) hg hs hd _ (by rw [q, hz]; exact hr)
theorem own_newP {aty : ArrayType} (X : Stand p l e R s m args below meth c T locs cells slots) (hx : p.tables.exec = Jvm.exec) (hZ : Z.Warmed39 s.vm) (w : (Cond.arrayClass (newarray.typeOf aty)).before a0 Z = true) (eT : T.heap = h) {g : JFrame} (hg : g.method = m) (hd : decode c.code g.pc = .ok (.newarray aty, 2)) {z : Int32} {rest : List Value} (hs : g.stack = .int z :: rest)
    (hn : ¬ z < 0) (hzn : z.toNatClampNeg = n) {G : Nat → Value} (hG : ∀ i, G i = defaultValue (newarray.typeOf aty)) {cap : Nat} (hcap : n ≤ cap) (hb : cap * 8 ≤ 536870912) (hc : cells + 1 ≤ R.cells) (hl : slots + cap ≤ R.slots) :
    ∃ (T' : State) (h' : Heap) (b : Addr), b = h.size ∧ Stand p l e R s m args below meth c T' locs (cells + 1) (slots + cap) ∧ T'.heap = h' ∧ Ext h h' ∧ own_A Z h' b (newarray.typeOf aty) n G ∧
      ∀ target, Steps p.tables e below (T'.setTop { g with pc := g.pc + 2, stack := .ref b :: rest }) target → Steps p.tables e below (T.setTop g) target := by
  obtain ⟨T', h', cA, X', e', E', A', st⟩ := newP X hx hZ w eT hg hd hs hn (cap := cap) (by rw [hzn]; exact hcap) hb hc hl
  exact ⟨T', h', _, rfl, X', e', E', own_A.new A' hzn hG, st⟩
theorem own_newPE {aty : ArrayType} (X : Stand p l e R s m args below meth c T locs cells slots) (hx : p.tables.exec = Jvm.exec) (hZ : Z.Warmed39 s.vm) (w : (Cond.arrayClass (newarray.typeOf aty)).before a0 Z = true) (eT : T.heap = h) {g : JFrame} (hg : g.method = m) (hd : decode c.code g.pc = .ok (.newarray aty, 2)) {z : Int32} {rest : List Value} (hs : g.stack = .int z :: rest)
    (hn : ¬ z < 0) (hzn : z.toNatClampNeg = n) {G : Nat → Value} (hG : ∀ i, G i = defaultValue (newarray.typeOf aty)) {cap : Nat} (hcap : n ≤ cap) (hb : cap * 8 ≤ 536870912) (hc : cells + 1 ≤ R.cells) (hl : slots + cap ≤ R.slots) {ad : String} (had : "[" ++ (newarray.typeOf aty).toString = ad) :
    ∃ (T' : State) (h' : Heap) (b : Addr), b = h.size ∧ Stand p l e R s m args below meth c T' locs (cells + 1) (slots + cap) ∧ T'.heap = h' ∧ Ext h h' ∧ own_A Z h' b (newarray.typeOf aty) n G ∧ Exa Z h' b ad ∧
      ∀ target, Steps p.tables e below (T'.setTop { g with pc := g.pc + 2, stack := .ref b :: rest }) target → Steps p.tables e below (T.setTop g) target := by
  obtain ⟨T', h', cA, X', e', E', A', B', st⟩ := newPE X hx hZ w eT hg hd hs hn (cap := cap) (by rw [hzn]; exact hcap) hb hc hl had
  exact ⟨T', h', _, rfl, X', e', E', own_A.new A' hzn hG, B', st⟩
theorem own_clone (X : Stand p l e R s m args below meth c T locs cells slots) (hx : p.tables.exec = Jvm.exec) (hZ : Z.Warmed39 s.vm) {own ad : String} {index : Nat} (hown : s.vm.findClass own = some m.cls)
    (w1 : (Cond.methodLink own index ⟨ad, "clone", "()Ljava/lang/Object;"⟩).before a0 Z = true) (w2 : (Cond.sameMethod ad "java/lang/Object" "clone" "()Ljava/lang/Object;").before a0 Z = true) (w3 : (Cond.native ⟨"java/lang/Object", "clone", "()Ljava/lang/Object;"⟩).before a0 Z = true)
    (w4 : (Cond.instanceMethod ⟨"java/lang/Object", "clone", "()Ljava/lang/Object;"⟩).before a0 Z = true) (w5 : (Cond.selects ad ⟨ad, "clone", "()Ljava/lang/Object;"⟩ ⟨"java/lang/Object", "clone", "()Ljava/lang/Object;"⟩).before a0 Z = true) (w6 : (Cond.castable ad "java/lang/Cloneable").before a0 Z = true)
    (eT : T.heap = h) (F : own_A Z h a ty n G) (E : Exa Z h a ad) {g : JFrame} (hg : g.method = m) (hsize : g.locals.size = c.maxLocals) {rest : List Value} (hs : g.stack = .ref a :: rest) (hd : decode c.code g.pc = .ok (.invokevirtual index, 3))
    (hf : 1 ≤ R.frames) {W cap : Nat} (hW : 2 * g.monitorRoom + (rest.map fun v => v.category).sum ≤ W) (hl : W + 14 ≤ R.locals) (hcap : n ≤ cap) (hc : cells + 1 ≤ R.cells) (hsl : slots + cap ≤ R.slots) :
    ∃ (T' : State) (h' : Heap) (b : Addr), b = h.size ∧ Stand p l e R s m args below meth c T' locs (cells + 1) (slots + cap) ∧ T'.heap = h' ∧ Ext h h' ∧ own_A Z h' b ty n G ∧ Exa Z h' b ad ∧
      ∀ target, Steps p.tables e below (T'.setTop { g with pc := g.pc + 3, stack := .ref b :: rest }) target → Steps p.tables e below (T.setTop g) target := by
  obtain ⟨cl, A, q, r⟩ := F
  have FC : FitC Z cl := fitC_of A fun i hi v hv => by
    have r1 := r i (by rw [← q]; exact hi)
    rw [r1.1] at hv; cases hv; exact r1.2
  obtain ⟨T', h', X', e', ex, A', E', st⟩ := cloneA X hx hZ hown w1 w2 w3 w4 w5 w6 eT A E FC hg hsize hs hd hf hW hl (by rw [q]; exact hcap) hc hsl
  exact ⟨T', h', _, rfl, X', e', ex, ⟨cloneOf cl, A', q, r⟩, E', st⟩
theorem own_A.congr {G' : Nat → Value} (F : own_A Z h a ty n G) (q : ∀ i, i < n → G i = G' i) : own_A Z h a ty n G' := by
  obtain ⟨c, A, s, r⟩ := F
  exact ⟨c, A, s, fun i hi => by rw [← q i hi]; exact r i hi⟩
theorem own_A_plain (F : own_A Z h a ty n G) : ∀ c : Cell, h[a]? = some c → c.vm.isStatics = false := fun c hc => by
  obtain ⟨cl, A, -⟩ := F
  cases hc.symm.trans A.1
  exact A.plain
theorem own_E_plain {C : String} (F : Exa Z h a C) : ∀ c : Cell, h[a]? = some c → c.vm.isStatics = false := fun c hc => by
  obtain ⟨cl, k, h1, -, -, h4, -⟩ := F
  cases hc.symm.trans h1
  exact h4
theorem own_sta_keep {C f d : String} {v : Value} {ws : List Addr} (F : Sta Z h C f d v) (K : Keep h h' ws) (q : ∀ x ∈ ws, ∀ c : Cell, h[x]? = some c → c.vm.isStatics = false) : Sta Z h' C f d v := by
  obtain ⟨cf, i, k, f, st, cell, h1, h2, h3, h4, h5, h6, h7⟩ := F
  exact ⟨cf, i, k, f, st, cell, h1, h2, h3, h4, K.2.1 st cell h5 (fun z => by rw [q st z cell h5] at h6; cases h6), h6, h7⟩
end OwnA
end Jvm.RoadKit
namespace Jvm.Pilot.@@N@@
open Jvm Jvm.ClassFile Sem Op Lib Jvm.Free Jvm.Stand Jvm.LawKit Jvm.RoadKit Bundle Jvm.Pilot.@@N@@.Jvm.D
theorem d1_0 : decode prog_13_method_1_code 0 = .ok (.aload_n 0, 1) := by decide +kernel
theorem d1_1 : decode prog_13_method_1_code 1 = .ok (.invokespecial 1, 3) := by decide +kernel
theorem d1_4 : decode prog_13_method_1_code 4 = .ok (.aload_n 0, 1) := by decide +kernel
theorem d1_5 : decode prog_13_method_1_code 5 = .ok (.iload_n 1, 1) := by decide +kernel
theorem d1_6 : decode prog_13_method_1_code 6 = .ok (.putfield 7, 3) := by decide +kernel
theorem d1_9 : decode prog_13_method_1_code 9 = .ok (.aload_n 0, 1) := by decide +kernel
theorem d1_10 : decode prog_13_method_1_code 10 = .ok (.lload_n 2, 1) := by decide +kernel
theorem d1_11 : decode prog_13_method_1_code 11 = .ok (.putfield 13, 3) := by decide +kernel
theorem d1_14 : decode prog_13_method_1_code 14 = .ok (.return_, 1) := by decide +kernel
theorem pn_1 : plainName "com/example/sibyl/sibyl/kernel/Label" = true := by first | (simp [plainName, overriddenIn]; done) | decide +kernel
theorem ef_1 (m : MethodId) (p0 : Addr) (p1 : Int32) (p2 : Int64) : entryFrame m #[(.ref p0), (.int p1), (.long p2)] 4 = mkF m 0 #[.val (.ref p0), .val (.int p1), .val (.long p2), .second] [] := by first | (simp [entryFrame, mkF, argsToLocals, Value.category]; done) | rfl
def Q_1 (Z : State) (p0 : Addr) (p1 : Int32) (p2 : Int64)  (h0 : Heap) (n0 : Nat) (v : Option Value) (h : Heap) (L : List Loc) : Prop := v = none ∧ Fr n0 L ∧ Keep h0 h [p0] ∧ Exa Z h p0 "com/example/sibyl/sibyl/kernel/Label" ∧ Fld Z h p0 "com/example/sibyl/sibyl/kernel/Label" "level" "I" (.int p1) ∧ Fld Z h p0 "com/example/sibyl/sibyl/kernel/Label" "categories" "J" (.long p2)
set_option maxRecDepth 65536 in
set_option maxHeartbeats 40000000 in
theorem rm_1 (l : Launch) (Z : State) (a0 : Array Value) (hw : ∀ d ∈ tables_1, d.before a0 Z = true) (ws : List Jvm.Cond) (p0 : Addr) (p1 : Int32) (p2 : Int64)  (h0 : Heap) (n0 : Nat) (Z0 : n0 ≤ h0.size) (E_p0 : Exa Z h0 p0 "com/example/sibyl/sibyl/kernel/Label") (F_p0_level : Fld Z h0 p0 "com/example/sibyl/sibyl/kernel/Label" "level" "I" (.int (0 : Int32))) (F_p0_categories : Fld Z h0 p0 "com/example/sibyl/sibyl/kernel/Label" "categories" "J" (.long (0 : Int64))) (ge_p0 : n0 ≤ p0) :
    MetFree l (⟨"com/example/sibyl/sibyl/kernel/Label", "<init>", "(IJ)V"⟩ : MethodName) (head1 (Jvm.Cond.code (⟨"com/example/sibyl/sibyl/kernel/Label", "<init>", "(IJ)V"⟩ : MethodName) prog_13_method_1_code 4 none :: ws) ({ frames := 1, cells := 0, slots := 0, locals := 12 } : Room)) (fun a U => a = #[(.ref p0), (.int p1), (.long p2)] ∧ Z.Warmed39 U.vm ∧ U.heap = h0) (fun _ _ _ _ _ => True) (fun _ U o U' => ∃ v L, o = .returned v ∧ Q_1 Z p0 p1 p2 h0 n0 v U'.heap L ∧ FrameEnd U o U' L ({ frames := 1, cells := 0, slots := 0, locals := 12 } : Room).cells ({ frames := 1, cells := 0, slots := 0, locals := 12 } : Room).slots) := by
  refine MetFree.of_bodySF (plainFor_of_name pn_1) hisR ?_
  intro p e s m args below meth c s₁ Bd hml0 hP hK
  obtain ⟨rfl, hZ, hh⟩ := hP
  have hx := Bd.exec
  have hby := Bd.bytes
  have hml : c.maxLocals = 4 := hml0
  have hown : s.vm.findClass "com/example/sibyl/sibyl/kernel/Label" = some m.cls := findClass_of_methodNamed Bd.named
  have hnm := (name_of_methodNamed Bd.named Bd.method).1
  have X0 : Stand p l e ({ frames := 1, cells := 0, slots := 0, locals := 12 } : Room) s m #[(.ref p0), (.int p1), (.long p2)] below meth c s₁ [] 0 0 := Stand.of_body Bd
  have e0 : s₁.heap = h0 := by rw [← hh, Bd.state]; rfl
  have N0 := Fr.nil n0
  have K0 : Keep h0 h0 [p0] := Keep.refl h0 _
  have pre0 : ∀ t, Steps p.tables e below (s₁.setTop (mkF m 0 #[.val (.ref p0), .val (.int p1), .val (.long p2), .second] [])) t → Steps p.tables e below (s₁.setTop (entryFrame m #[(.ref p0), (.int p1), (.long p2)] 4)) t := fun t k => castTop (ef_1 m p0 p1 p2) k
  have pre1 : ∀ t, Steps p.tables e below (s₁.setTop (mkF m 1 #[.val (.ref p0), .val (.int p1), .val (.long p2), .second] [(.ref p0)])) t → Steps p.tables e below (s₁.setTop (entryFrame m #[(.ref p0), (.int p1), (.long p2)] 4)) t := by
    intro t k
    refine pre0 t ?_
    show Steps p.tables e below (s₁.setTop (mkF m 0 #[.val (.ref p0), .val (.int p1), .val (.long p2), .second] [])) _
    refine XS.aloadN X0.here hx rfl (hb hby d1_0) rfl rfl ?_
    exact k
  obtain ⟨T2, X2, e2, st2⟩ := initO X0 hx hZ hown (hw _ (List.mem_of_getElem? (i := 6) rfl)) (hw _ (List.mem_of_getElem? (i := 7) rfl)) (hw _ (List.mem_of_getElem? (i := 8) rfl)) e0 (g := (mkF m 1 #[.val (.ref p0), .val (.int p1), .val (.long p2), .second] [(.ref p0)])) rfl (by rw [hml]; rfl) rfl (hb hby d1_1) (by decide) (W := 0) (by show 2 * 0 + _ ≤ _; exact Nat.le_of_eq rfl) (by decide)
  have pre3 : ∀ t, Steps p.tables e below (T2.setTop (mkF m 6 #[.val (.ref p0), .val (.int p1), .val (.long p2), .second] [(.int p1), (.ref p0)])) t → Steps p.tables e below (s₁.setTop (entryFrame m #[(.ref p0), (.int p1), (.long p2)] 4)) t := by
    intro t k
    refine pre1 t ?_
    show Steps p.tables e below (s₁.setTop (mkF m 1 #[.val (.ref p0), .val (.int p1), .val (.long p2), .second] [(.ref p0)])) _
    refine st2 _ ?_
    show Steps p.tables e below (T2.setTop (mkF m 4 #[.val (.ref p0), .val (.int p1), .val (.long p2), .second] [])) _
    refine XS.aloadN X2.here hx rfl (hb hby d1_4) rfl rfl ?_
    show Steps p.tables e below (T2.setTop (mkF m 5 #[.val (.ref p0), .val (.int p1), .val (.long p2), .second] [(.ref p0)])) _
    refine XS.iloadN X2.here hx rfl (hb hby d1_5) rfl  ?_
    exact k
  obtain ⟨T4, h4, X4, e4, W4, st4⟩ := putF X2 hx hZ hown (host := "") (Or.inl (hw _ (List.mem_of_getElem? (i := 9) rfl))) Via.refl e2 F_p0_level E_p0 (Or.inr ⟨(hw _ (List.mem_of_getElem? (i := 10) rfl)), rfl, hnm⟩) (hw _ (List.mem_of_getElem? (i := 1) rfl)) (ty := .int) (by decide) rfl rfl (g := (mkF m 6 #[.val (.ref p0), .val (.int p1), .val (.long p2), .second] [(.int p1), (.ref p0)])) rfl rfl (hb hby d1_6)
  have Fw4 := F_p0_level.same W4
  have exa_p0_4 := E_p0.wr W4
  have fld_p0_categories_4 := F_p0_categories.other W4 (Or.inr (slot_ne (Or.inr (hw _ (List.mem_of_getElem? (i := 12) rfl))) (Or.inr (hw _ (List.mem_of_getElem? (i := 10) rfl))) (by decide) (t := .long) (t' := .int) (by decide) (by decide)))
  have K4 := K0.wr W4 (Or.inl (List.mem_of_getElem? (i := 0) rfl))
  have Z4 := Nat.le_trans Z0 (Nat.le_of_eq W4.size.symm)
  have N4 := Fr.snoc X4 N0 ge_p0
  have pre5 : ∀ t, Steps p.tables e below (T4.setTop (mkF m 11 #[.val (.ref p0), .val (.int p1), .val (.long p2), .second] [(.long p2), (.ref p0)])) t → Steps p.tables e below (s₁.setTop (entryFrame m #[(.ref p0), (.int p1), (.long p2)] 4)) t := by
    intro t k
    refine pre3 t ?_
    show Steps p.tables e below (T2.setTop (mkF m 6 #[.val (.ref p0), .val (.int p1), .val (.long p2), .second] [(.int p1), (.ref p0)])) _
    refine st4 _ ?_
    show Steps p.tables e below (T4.setTop (mkF m 9 #[.val (.ref p0), .val (.int p1), .val (.long p2), .second] [])) _
    refine XS.aloadN X4.here hx rfl (hb hby d1_9) rfl rfl ?_
    show Steps p.tables e below (T4.setTop (mkF m 10 #[.val (.ref p0), .val (.int p1), .val (.long p2), .second] [(.ref p0)])) _
    refine XS.lloadN X4.here hx rfl (hb hby d1_10) rfl  ?_
    exact k
  obtain ⟨T6, h6, X6, e6, W6, st6⟩ := putF X4 hx hZ hown (host := "") (Or.inl (hw _ (List.mem_of_getElem? (i := 11) rfl))) Via.refl e4 fld_p0_categories_4 exa_p0_4 (Or.inr ⟨(hw _ (List.mem_of_getElem? (i := 12) rfl)), rfl, hnm⟩) (hw _ (List.mem_of_getElem? (i := 1) rfl)) (ty := .long) (by decide) rfl rfl (g := (mkF m 11 #[.val (.ref p0), .val (.int p1), .val (.long p2), .second] [(.long p2), (.ref p0)])) rfl rfl (hb hby d1_11)
  have Fw6 := fld_p0_categories_4.same W6
  have exa_p0_6 := exa_p0_4.wr W6
  have fld_p0_level_6 := Fw4.other W6 (Or.inr (slot_ne (Or.inr (hw _ (List.mem_of_getElem? (i := 10) rfl))) (Or.inr (hw _ (List.mem_of_getElem? (i := 12) rfl))) (by decide) (t := .int) (t' := .long) (by decide) (by decide)))
  have K6 := K4.wr W6 (Or.inl (List.mem_of_getElem? (i := 0) rfl))
  have Z6 := Nat.le_trans Z4 (Nat.le_of_eq W6.size.symm)
  have N6 := Fr.snoc X6 N4 ge_p0
  obtain ⟨fs, hr, hrun, hended, hW, hsame⟩ := X6.leave (v := none) (fun _ => rfl)
  refine ⟨_, _, pre5 _ ?_, hrun, hended, _, _, rfl, ?_, ⟨_, rfl⟩, hW, hsame.mono (by decide) (by decide)⟩
  · show Steps p.tables e below (T4.setTop (mkF m 11 #[.val (.ref p0), .val (.int p1), .val (.long p2), .second] [(.long p2), (.ref p0)])) _
    refine st6 _ ?_
    show Steps p.tables e below (T6.setTop (mkF m 14 #[.val (.ref p0), .val (.int p1), .val (.long p2), .second] [])) _
    exact X6.returnOut hx Bd.returns (hb hby d1_14) hr
  · show Q_1 Z p0 p1 p2 h0 n0 _ T6.heap _
    rw [e6]
    exact ⟨rfl, N6, K6, exa_p0_6, fld_p0_level_6, Fw6⟩
theorem d3_0 : decode jdk_29_method_65_code 0 = .ok (.iload_n 0, 1) := by decide +kernel
theorem d3_1 : decode jdk_29_method_65_code 1 = .ok (.iload_n 1, 1) := by decide +kernel
theorem d3_2 : decode jdk_29_method_65_code 2 = .ok (.if_icmp .lt 7, 3) := by decide +kernel
theorem d3_5 : decode jdk_29_method_65_code 5 = .ok (.iload_n 0, 1) := by decide +kernel
theorem d3_6 : decode jdk_29_method_65_code 6 = .ok (.goto 4, 3) := by decide +kernel
theorem d3_9 : decode jdk_29_method_65_code 9 = .ok (.iload_n 1, 1) := by decide +kernel
theorem d3_10 : decode jdk_29_method_65_code 10 = .ok (.ireturn, 1) := by decide +kernel
theorem ef_3 (m : MethodId) (p0 : Int32) (p1 : Int32) : entryFrame m #[(.int p0), (.int p1)] 2 = mkF m 0 #[.val (.int p0), .val (.int p1)] [] := by first | (simp [entryFrame, mkF, argsToLocals, Value.category]; done) | rfl
def f_3 (p0 : Int32) (p1 : Int32) : Int32 := let ms0_10 : Int32 := (if p0 < p1 then p1 else p0); ms0_10
def Q_3 (Z : State) (p0 : Int32) (p1 : Int32)  (h0 : Heap) (n0 : Nat) (v : Option Value) (h : Heap) (L : List Loc) : Prop := v = some (.int (f_3 p0 p1)) ∧ Fr n0 L ∧ h = h0
set_option maxRecDepth 65536 in
set_option maxHeartbeats 40000000 in
theorem rm_3 (l : Launch) (Z : State) (a0 : Array Value) (hw : ∀ d ∈ tables_1, d.before a0 Z = true) (ws : List Jvm.Cond) (p0 : Int32) (p1 : Int32)  (h0 : Heap) (n0 : Nat) (Z0 : n0 ≤ h0.size)  :
    MetFree l (⟨"java/lang/Math", "max", "(II)I"⟩ : MethodName) (head1 (Jvm.Cond.code (⟨"java/lang/Math", "max", "(II)I"⟩ : MethodName) jdk_29_method_65_code 2 (some .int) :: ws) ({ frames := 0, cells := 0, slots := 0, locals := 0 } : Room)) (fun a U => a = #[(.int p0), (.int p1)] ∧ Z.Warmed39 U.vm ∧ U.heap = h0) (fun _ _ _ _ _ => True) (fun _ U o U' => ∃ v L, o = .returned v ∧ Q_3 Z p0 p1 h0 n0 v U'.heap L ∧ FrameEnd U o U' L ({ frames := 0, cells := 0, slots := 0, locals := 0 } : Room).cells ({ frames := 0, cells := 0, slots := 0, locals := 0 } : Room).slots) := by
  refine MetFree.of_bodySF (Jvm.Free.JP.mathPlain rfl (by decide +kernel)) hisR ?_
  intro p e s m args below meth c s₁ Bd hml0 hP hK
  obtain ⟨rfl, hZ, hh⟩ := hP
  have hx := Bd.exec
  have hby := Bd.bytes
  have hml : c.maxLocals = 2 := hml0
  have hown : s.vm.findClass "java/lang/Math" = some m.cls := findClass_of_methodNamed Bd.named
  have hnm := (name_of_methodNamed Bd.named Bd.method).1
  have X0 : Stand p l e ({ frames := 0, cells := 0, slots := 0, locals := 0 } : Room) s m #[(.int p0), (.int p1)] below meth c s₁ [] 0 0 := Stand.of_body Bd
  have e0 : s₁.heap = h0 := by rw [← hh, Bd.state]; rfl
  have N0 := Fr.nil n0
  have K0 : Keep h0 h0 [] := Keep.refl h0 _
  have pre0 : ∀ t, Steps p.tables e below (s₁.setTop (mkF m 0 #[.val (.int p0), .val (.int p1)] [])) t → Steps p.tables e below (s₁.setTop (entryFrame m #[(.int p0), (.int p1)] 2)) t := fun t k => castTop (ef_3 m p0 p1) k
  have pre1 : ∀ t, Steps p.tables e below (s₁.setTop (mkF m 2 #[.val (.int p0), .val (.int p1)] [(.int p1), (.int p0)])) t → Steps p.tables e below (s₁.setTop (entryFrame m #[(.int p0), (.int p1)] 2)) t := by
    intro t k
    refine pre0 t ?_
    show Steps p.tables e below (s₁.setTop (mkF m 0 #[.val (.int p0), .val (.int p1)] [])) _
    refine XS.iloadN X0.here hx rfl (hb hby d3_0) rfl  ?_
    show Steps p.tables e below (s₁.setTop (mkF m 1 #[.val (.int p0), .val (.int p1)] [(.int p0)])) _
    refine XS.iloadN X0.here hx rfl (hb hby d3_1) rfl  ?_
    exact k
  obtain ⟨ms0_10, hms0_10⟩ : ∃ z : Int32, z = (if p0 < p1 then p1 else p0) := ⟨_, rfl⟩
  have pre2 : ∀ t, Steps p.tables e below (s₁.setTop (mkF m 10 #[.val (.int p0), .val (.int p1)] [(.int ms0_10)])) t → Steps p.tables e below (s₁.setTop (entryFrame m #[(.int p0), (.int p1)] 2)) t := by
    intro t k
    refine pre1 t ?_
    by_cases hc2 : p0 < p1
    · show Steps p.tables e below (s₁.setTop (mkF m 2 #[.val (.int p0), .val (.int p1)] [(.int p1), (.int p0)])) _
      refine XS.icmpYes X0.here hx rfl (pc0 := 2) (pc' := 9) rfl (hb hby d3_2) rfl (tlt hc2).1 (by decide) (by decide) ?_
      show Steps p.tables e below (s₁.setTop (mkF m 9 #[.val (.int p0), .val (.int p1)] [])) _
      refine XS.iloadN X0.here hx rfl (hb hby d3_9) rfl  ?_
      have qms0_10 : ms0_10 = p1 := by rw [hms0_10, if_pos hc2]
      rw [qms0_10] at k
      exact k
    · show Steps p.tables e below (s₁.setTop (mkF m 2 #[.val (.int p0), .val (.int p1)] [(.int p1), (.int p0)])) _
      refine XS.icmpNo X0.here hx rfl (hb hby d3_2) rfl (flt hc2).1 ?_
      show Steps p.tables e below (s₁.setTop (mkF m 5 #[.val (.int p0), .val (.int p1)] [])) _
      refine XS.iloadN X0.here hx rfl (hb hby d3_5) rfl  ?_
      show Steps p.tables e below (s₁.setTop (mkF m 6 #[.val (.int p0), .val (.int p1)] [(.int p0)])) _
      refine XS.goto X0.here hx rfl (pc0 := 6) (pc' := 10) rfl (hb hby d3_6) (by decide) (by decide) ?_
      have qms0_10 : ms0_10 = p0 := by rw [hms0_10, if_neg hc2]
      rw [qms0_10] at k
      exact k
  obtain ⟨fs, hr, hrun, hended, hW, hsame⟩ := X0.leave (v := some (.int ms0_10)) (fun h => by rw [Bd.returns] at h; cases h)
  refine ⟨_, _, pre2 _ ?_, hrun, hended, _, _, rfl, ?_, ⟨_, rfl⟩, hW, hsame.mono (by decide) (by decide)⟩
  · show Steps p.tables e below (s₁.setTop (mkF m 10 #[.val (.int p0), .val (.int p1)] [(.int ms0_10)])) _
    exact retI X0 hx Bd.returns (hb hby d3_10) hr
  · show Q_3 Z p0 p1 h0 n0 _ s₁.heap _
    rw [e0]
    exact ⟨congrArg (fun z => some (Value.int z)) (by subst hms0_10; rfl : ms0_10 = f_3 p0 p1), N0, rfl⟩
theorem d4_0 : decode prog_13_method_2_code 0 = .ok (.aload_n 0, 1) := by decide +kernel
theorem d4_1 : decode prog_13_method_2_code 1 = .ok (.getfield 7, 3) := by decide +kernel
theorem d4_4 : decode prog_13_method_2_code 4 = .ok (.aload_n 1, 1) := by decide +kernel
theorem d4_5 : decode prog_13_method_2_code 5 = .ok (.getfield 7, 3) := by decide +kernel
theorem d4_8 : decode prog_13_method_2_code 8 = .ok (.if_icmp .lt 24, 3) := by decide +kernel
theorem d4_11 : decode prog_13_method_2_code 11 = .ok (.aload_n 0, 1) := by decide +kernel
theorem d4_12 : decode prog_13_method_2_code 12 = .ok (.getfield 13, 3) := by decide +kernel
theorem d4_15 : decode prog_13_method_2_code 15 = .ok (.aload_n 1, 1) := by decide +kernel
theorem d4_16 : decode prog_13_method_2_code 16 = .ok (.getfield 13, 3) := by decide +kernel
theorem d4_19 : decode prog_13_method_2_code 19 = .ok (.land, 1) := by decide +kernel
theorem d4_20 : decode prog_13_method_2_code 20 = .ok (.aload_n 1, 1) := by decide +kernel
theorem d4_21 : decode prog_13_method_2_code 21 = .ok (.getfield 13, 3) := by decide +kernel
theorem d4_24 : decode prog_13_method_2_code 24 = .ok (.lcmp, 1) := by decide +kernel
theorem d4_25 : decode prog_13_method_2_code 25 = .ok (.ifCond .ne 7, 3) := by decide +kernel
theorem d4_28 : decode prog_13_method_2_code 28 = .ok (.iconst 1, 1) := by decide +kernel
theorem d4_29 : decode prog_13_method_2_code 29 = .ok (.goto 4, 3) := by decide +kernel
theorem d4_32 : decode prog_13_method_2_code 32 = .ok (.iconst 0, 1) := by decide +kernel
theorem d4_33 : decode prog_13_method_2_code 33 = .ok (.ireturn, 1) := by decide +kernel
theorem pn_4 : plainName "com/example/sibyl/sibyl/kernel/Label" = true := by first | (simp [plainName, overriddenIn]; done) | decide +kernel
theorem ef_4 (m : MethodId) (p0 : Addr) (p1 : Addr) : entryFrame m #[(.ref p0), (.ref p1)] 2 = mkF m 0 #[.val (.ref p0), .val (.ref p1)] [] := by first | (simp [entryFrame, mkF, argsToLocals, Value.category]; done) | rfl
def f_4 (l0_ : Int32) (c0_ : Int64) (l1_ : Int32) (c1_ : Int64) : Int32 := (if l0_ < l1_ then (0 : Int32) else let ms0_33 : Int32 := (if (c0_ &&& c1_) = c1_ then (1 : Int32) else (0 : Int32)); ms0_33)
def Q_4 (Z : State) (p0 : Addr) (p1 : Addr) (l0_ : Int32) (c0_ : Int64) (l1_ : Int32) (c1_ : Int64) (h0 : Heap) (n0 : Nat) (v : Option Value) (h : Heap) (L : List Loc) : Prop := v = some (.int (f_4 l0_ c0_ l1_ c1_)) ∧ Fr n0 L ∧ h = h0
set_option maxRecDepth 65536 in
set_option maxHeartbeats 40000000 in
theorem rm_4 (l : Launch) (Z : State) (a0 : Array Value) (hw : ∀ d ∈ tables_1, d.before a0 Z = true) (ws : List Jvm.Cond) (p0 : Addr) (p1 : Addr) (l0_ : Int32) (c0_ : Int64) (l1_ : Int32) (c1_ : Int64) (h0 : Heap) (n0 : Nat) (Z0 : n0 ≤ h0.size) (F_p0_level : Fld Z h0 p0 "com/example/sibyl/sibyl/kernel/Label" "level" "I" (.int l0_)) (F_p0_categories : Fld Z h0 p0 "com/example/sibyl/sibyl/kernel/Label" "categories" "J" (.long c0_)) (F_p1_level : Fld Z h0 p1 "com/example/sibyl/sibyl/kernel/Label" "level" "I" (.int l1_)) (F_p1_categories : Fld Z h0 p1 "com/example/sibyl/sibyl/kernel/Label" "categories" "J" (.long c1_)) :
    MetFree l (⟨"com/example/sibyl/sibyl/kernel/Label", "dominates", "(Lcom/example/sibyl/sibyl/kernel/Label;)Z"⟩ : MethodName) (head1 (Jvm.Cond.code (⟨"com/example/sibyl/sibyl/kernel/Label", "dominates", "(Lcom/example/sibyl/sibyl/kernel/Label;)Z"⟩ : MethodName) prog_13_method_2_code 2 (some .boolean) :: ws) ({ frames := 0, cells := 0, slots := 0, locals := 0 } : Room)) (fun a U => a = #[(.ref p0), (.ref p1)] ∧ Z.Warmed39 U.vm ∧ U.heap = h0) (fun _ _ _ _ _ => True) (fun _ U o U' => ∃ v L, o = .returned v ∧ Q_4 Z p0 p1 l0_ c0_ l1_ c1_ h0 n0 v U'.heap L ∧ FrameEnd U o U' L ({ frames := 0, cells := 0, slots := 0, locals := 0 } : Room).cells ({ frames := 0, cells := 0, slots := 0, locals := 0 } : Room).slots) := by
  refine MetFree.of_bodySF (plainFor_of_name pn_4) hisR ?_
  intro p e s m args below meth c s₁ Bd hml0 hP hK
  obtain ⟨rfl, hZ, hh⟩ := hP
  have hx := Bd.exec
  have hby := Bd.bytes
  have hml : c.maxLocals = 2 := hml0
  have hown : s.vm.findClass "com/example/sibyl/sibyl/kernel/Label" = some m.cls := findClass_of_methodNamed Bd.named
  have hnm := (name_of_methodNamed Bd.named Bd.method).1
  have X0 : Stand p l e ({ frames := 0, cells := 0, slots := 0, locals := 0 } : Room) s m #[(.ref p0), (.ref p1)] below meth c s₁ [] 0 0 := Stand.of_body Bd
  have e0 : s₁.heap = h0 := by rw [← hh, Bd.state]; rfl
  have N0 := Fr.nil n0
  have K0 : Keep h0 h0 [] := Keep.refl h0 _
  have pre0 : ∀ t, Steps p.tables e below (s₁.setTop (mkF m 0 #[.val (.ref p0), .val (.ref p1)] [])) t → Steps p.tables e below (s₁.setTop (entryFrame m #[(.ref p0), (.ref p1)] 2)) t := fun t k => castTop (ef_4 m p0 p1) k
  have pre1 : ∀ t, Steps p.tables e below (s₁.setTop (mkF m 1 #[.val (.ref p0), .val (.ref p1)] [(.ref p0)])) t → Steps p.tables e below (s₁.setTop (entryFrame m #[(.ref p0), (.ref p1)] 2)) t := by
    intro t k
    refine pre0 t ?_
    show Steps p.tables e below (s₁.setTop (mkF m 0 #[.val (.ref p0), .val (.ref p1)] [])) _
    refine XS.aloadN X0.here hx rfl (hb hby d4_0) rfl rfl ?_
    exact k
  obtain ⟨T2, X2, e2, st2⟩ := getF X0 hx hZ hown (host := "") (Or.inl (hw _ (List.mem_of_getElem? (i := 9) rfl))) Via.refl e0 F_p0_level (g := (mkF m 1 #[.val (.ref p0), .val (.ref p1)] [(.ref p0)])) rfl rfl (hb hby d4_1)
  have pre3 : ∀ t, Steps p.tables e below (T2.setTop (mkF m 5 #[.val (.ref p0), .val (.ref p1)] [(.ref p1), (.int l0_)])) t → Steps p.tables e below (s₁.setTop (entryFrame m #[(.ref p0), (.ref p1)] 2)) t := by
    intro t k
    refine pre1 t ?_
    show Steps p.tables e below (s₁.setTop (mkF m 1 #[.val (.ref p0), .val (.ref p1)] [(.ref p0)])) _
    refine st2 _ ?_
    show Steps p.tables e below (T2.setTop (mkF m 4 #[.val (.ref p0), .val (.ref p1)] [(.int l0_)])) _
    refine XS.aloadN X2.here hx rfl (hb hby d4_4) rfl rfl ?_
    exact k
  obtain ⟨T4, X4, e4, st4⟩ := getF X2 hx hZ hown (host := "") (Or.inl (hw _ (List.mem_of_getElem? (i := 9) rfl))) Via.refl e2 F_p1_level (g := (mkF m 5 #[.val (.ref p0), .val (.ref p1)] [(.ref p1), (.int l0_)])) rfl rfl (hb hby d4_5)
  have pre5 : ∀ t, Steps p.tables e below (T4.setTop (mkF m 8 #[.val (.ref p0), .val (.ref p1)] [(.int l1_), (.int l0_)])) t → Steps p.tables e below (s₁.setTop (entryFrame m #[(.ref p0), (.ref p1)] 2)) t := by
    intro t k
    refine pre3 t ?_
    show Steps p.tables e below (T2.setTop (mkF m 5 #[.val (.ref p0), .val (.ref p1)] [(.ref p1), (.int l0_)])) _
    refine st4 _ ?_
    exact k
  by_cases hc8 : l0_ < l1_
  · obtain ⟨fs, hr, hrun, hended, hW, hsame⟩ := X4.leave (v := some (.int (0 : Int32))) (fun h => by rw [Bd.returns] at h; cases h)
    refine ⟨_, _, pre5 _ ?_, hrun, hended, _, _, rfl, ?_, ⟨_, rfl⟩, hW, hsame.mono (by decide) (by decide)⟩
    · show Steps p.tables e below (T4.setTop (mkF m 8 #[.val (.ref p0), .val (.ref p1)] [(.int l1_), (.int l0_)])) _
      refine XS.icmpYes X4.here hx rfl (pc0 := 8) (pc' := 32) rfl (hb hby d4_8) rfl (tlt hc8).1 (by decide) (by decide) ?_
      show Steps p.tables e below (T4.setTop (mkF m 32 #[.val (.ref p0), .val (.ref p1)] [])) _
      refine XS.iconst X4.here hx rfl (hb hby d4_32) ?_
      show Steps p.tables e below (T4.setTop (mkF m 33 #[.val (.ref p0), .val (.ref p1)] [(.int (0 : Int32))])) _
      exact retN X4 hx (t := .boolean) Bd.returns (by simp) (hb hby d4_33) hr
    · show Q_4 Z p0 p1 l0_ c0_ l1_ c1_ h0 n0 _ T4.heap _
      rw [e4]
      exact ⟨congrArg (fun z => some (Value.int z)) (by exact (if_pos hc8).symm : (0 : Int32) = f_4 l0_ c0_ l1_ c1_), N0, rfl⟩
  · have pre6 : ∀ t, Steps p.tables e below (T4.setTop (mkF m 12 #[.val (.ref p0), .val (.ref p1)] [(.ref p0)])) t → Steps p.tables e below (s₁.setTop (entryFrame m #[(.ref p0), (.ref p1)] 2)) t := by
      intro t k
      refine pre5 t ?_
      show Steps p.tables e below (T4.setTop (mkF m 8 #[.val (.ref p0), .val (.ref p1)] [(.int l1_), (.int l0_)])) _
      refine XS.icmpNo X4.here hx rfl (hb hby d4_8) rfl (flt hc8).1 ?_
      show Steps p.tables e below (T4.setTop (mkF m 11 #[.val (.ref p0), .val (.ref p1)] [])) _
      refine XS.aloadN X4.here hx rfl (hb hby d4_11) rfl rfl ?_
      exact k
    obtain ⟨T7, X7, e7, st7⟩ := getF X4 hx hZ hown (host := "") (Or.inl (hw _ (List.mem_of_getElem? (i := 11) rfl))) Via.refl e4 F_p0_categories (g := (mkF m 12 #[.val (.ref p0), .val (.ref p1)] [(.ref p0)])) rfl rfl (hb hby d4_12)
    have pre8 : ∀ t, Steps p.tables e below (T7.setTop (mkF m 16 #[.val (.ref p0), .val (.ref p1)] [(.ref p1), (.long c0_)])) t → Steps p.tables e below (s₁.setTop (entryFrame m #[(.ref p0), (.ref p1)] 2)) t := by
      intro t k
      refine pre6 t ?_
      show Steps p.tables e below (T4.setTop (mkF m 12 #[.val (.ref p0), .val (.ref p1)] [(.ref p0)])) _
      refine st7 _ ?_
      show Steps p.tables e below (T7.setTop (mkF m 15 #[.val (.ref p0), .val (.ref p1)] [(.long c0_)])) _
      refine XS.aloadN X7.here hx rfl (hb hby d4_15) rfl rfl ?_
      exact k
    obtain ⟨T9, X9, e9, st9⟩ := getF X7 hx hZ hown (host := "") (Or.inl (hw _ (List.mem_of_getElem? (i := 11) rfl))) Via.refl e7 F_p1_categories (g := (mkF m 16 #[.val (.ref p0), .val (.ref p1)] [(.ref p1), (.long c0_)])) rfl rfl (hb hby d4_16)
    have pre10 : ∀ t, Steps p.tables e below (T9.setTop (mkF m 21 #[.val (.ref p0), .val (.ref p1)] [(.ref p1), (.long (c0_ &&& c1_))])) t → Steps p.tables e below (s₁.setTop (entryFrame m #[(.ref p0), (.ref p1)] 2)) t := by
      intro t k
      refine pre8 t ?_
      show Steps p.tables e below (T7.setTop (mkF m 16 #[.val (.ref p0), .val (.ref p1)] [(.ref p1), (.long c0_)])) _
      refine st9 _ ?_
      show Steps p.tables e below (T9.setTop (mkF m 19 #[.val (.ref p0), .val (.ref p1)] [(.long c1_), (.long c0_)])) _
      refine XS.land X9.here hx rfl (hb hby d4_19) rfl ?_
      show Steps p.tables e below (T9.setTop (mkF m 20 #[.val (.ref p0), .val (.ref p1)] [(.long (c0_ &&& c1_))])) _
      refine XS.aloadN X9.here hx rfl (hb hby d4_20) rfl rfl ?_
      exact k
    obtain ⟨T11, X11, e11, st11⟩ := getF X9 hx hZ hown (host := "") (Or.inl (hw _ (List.mem_of_getElem? (i := 11) rfl))) Via.refl e9 F_p1_categories (g := (mkF m 21 #[.val (.ref p0), .val (.ref p1)] [(.ref p1), (.long (c0_ &&& c1_))])) rfl rfl (hb hby d4_21)
    have pre12 : ∀ t, Steps p.tables e below (T11.setTop (mkF m 25 #[.val (.ref p0), .val (.ref p1)] [(.int (lcmpW (c0_ &&& c1_) c1_))])) t → Steps p.tables e below (s₁.setTop (entryFrame m #[(.ref p0), (.ref p1)] 2)) t := by
      intro t k
      refine pre10 t ?_
      show Steps p.tables e below (T9.setTop (mkF m 21 #[.val (.ref p0), .val (.ref p1)] [(.ref p1), (.long (c0_ &&& c1_))])) _
      refine st11 _ ?_
      show Steps p.tables e below (T11.setTop (mkF m 24 #[.val (.ref p0), .val (.ref p1)] [(.long c1_), (.long (c0_ &&& c1_))])) _
      refine XS.lcmp X11.here hx rfl (hb hby d4_24) rfl ?_
      exact k
    obtain ⟨ms0_33, hms0_33⟩ : ∃ z : Int32, z = (if (c0_ &&& c1_) = c1_ then (1 : Int32) else (0 : Int32)) := ⟨_, rfl⟩
    have pre13 : ∀ t, Steps p.tables e below (T11.setTop (mkF m 33 #[.val (.ref p0), .val (.ref p1)] [(.int ms0_33)])) t → Steps p.tables e below (s₁.setTop (entryFrame m #[(.ref p0), (.ref p1)] 2)) t := by
      intro t k
      refine pre12 t ?_
      by_cases hc25 : (c0_ &&& c1_) = c1_
      · show Steps p.tables e below (T11.setTop (mkF m 25 #[.val (.ref p0), .val (.ref p1)] [(.int (lcmpW (c0_ &&& c1_) c1_))])) _
        refine XS.ifNo X11.here hx rfl (hb hby d4_25) rfl ((if0 _ _).trans (teq ((lw_eq _ _).mpr hc25)).2) ?_
        show Steps p.tables e below (T11.setTop (mkF m 28 #[.val (.ref p0), .val (.ref p1)] [])) _
        refine XS.iconst X11.here hx rfl (hb hby d4_28) ?_
        show Steps p.tables e below (T11.setTop (mkF m 29 #[.val (.ref p0), .val (.ref p1)] [(.int (1 : Int32))])) _
        refine XS.goto X11.here hx rfl (pc0 := 29) (pc' := 33) rfl (hb hby d4_29) (by decide) (by decide) ?_
        have qms0_33 : ms0_33 = (1 : Int32) := by rw [hms0_33, if_pos hc25]
        rw [qms0_33] at k
        exact k
      · show Steps p.tables e below (T11.setTop (mkF m 25 #[.val (.ref p0), .val (.ref p1)] [(.int (lcmpW (c0_ &&& c1_) c1_))])) _
        refine XS.ifYes X11.here hx rfl (pc0 := 25) (pc' := 32) rfl (hb hby d4_25) rfl ((if0 _ _).trans (feq (fun q => hc25 ((lw_eq _ _).mp q))).2) (by decide) (by decide) ?_
        show Steps p.tables e below (T11.setTop (mkF m 32 #[.val (.ref p0), .val (.ref p1)] [])) _
        refine XS.iconst X11.here hx rfl (hb hby d4_32) ?_
        have qms0_33 : ms0_33 = (0 : Int32) := by rw [hms0_33, if_neg hc25]
        rw [qms0_33] at k
        exact k
    have hnar : nar .boolean ms0_33 = ms0_33 := by rw [hms0_33]; (repeat' split) <;> rfl
    obtain ⟨fs, hr, hrun, hended, hW, hsame⟩ := X11.leave (v := some (.int ms0_33)) (fun h => by rw [Bd.returns] at h; cases h)
    refine ⟨_, _, pre13 _ ?_, hrun, hended, _, _, rfl, ?_, ⟨_, rfl⟩, hW, hsame.mono (by decide) (by decide)⟩
    · show Steps p.tables e below (T11.setTop (mkF m 33 #[.val (.ref p0), .val (.ref p1)] [(.int ms0_33)])) _
      exact retN X11 hx (t := .boolean) Bd.returns (by simp) (hb hby d4_33) (by rw [hnar]; exact hr)
    · show Q_4 Z p0 p1 l0_ c0_ l1_ c1_ h0 n0 _ T11.heap _
      rw [e11]
      exact ⟨congrArg (fun z => some (Value.int z)) (by subst hms0_33; exact (if_neg hc8).symm : ms0_33 = f_4 l0_ c0_ l1_ c1_), N0, rfl⟩
theorem pd_0 : parseMethodDescriptor "(IJ)V" = some ⟨[.int, .long], none⟩ := by decide +kernel
theorem pd_1 : parseMethodDescriptor "(II)I" = some ⟨[.int, .int], some .int⟩ := by decide +kernel
theorem pd_2 : parseMethodDescriptor "(Lcom/example/sibyl/sibyl/kernel/Label;)Z" = some ⟨[(.object "com/example/sibyl/sibyl/kernel/Label")], some .boolean⟩ := by decide +kernel
theorem pn_0 : plainName "com/example/sibyl/sibyl/kernel/LabelDominatesPinLaw" = true := by first | (simp [plainName, overriddenIn]; done) | decide +kernel
theorem ef_0 (m : MethodId) (p0 : Int32) (p1 : Int64) (p2 : Int32) (p3 : Int64) (p4 : Int32) : entryFrame m #[(.int p0), (.long p1), (.int p2), (.long p3), (.int p4)] maxLocals = mkF m 0 #[.val (.int p0), .val (.long p1), .second, .val (.int p2), .val (.long p3), .second, .val (.int p4), .unset, .unset, .unset, .unset, .unset, .unset, .unset, .unset, .unset] [] := by first | (simp [entryFrame, mkF, argsToLocals, Value.category, maxLocals]; done) | rfl
def f_0 (p0 : Int32) (p1 : Int64) (p2 : Int32) (p3 : Int64) (p4 : Int32) : Int32 := let v7_4 : Int32 := (p4 &&& (3 : Int32)); let m8_52 : Int64 := (if v7_4 = (1 : Int32) then (p1 &&& p3) else (if v7_4 = (2 : Int32) then (p1 ||| p3) else (if v7_4 = (3 : Int32) then p1 else p3))); let v10_58 : Int32 := (((p4.toUInt32 >>> ((2 : Int32) &&& 31).toUInt32).toInt32) &&& (3 : Int32)); let m11_103 : Int32 := (if v10_58 = (1 : Int32) then p0 else (if v10_58 = (2 : Int32) then (p0 + (1 : Int32)) else (if v10_58 = (3 : Int32) then (p0 - (1 : Int32)) else p2))); let ms0_142 : Int32 := (if (f_3 p0 m11_103) = p0 then (1 : Int32) else (0 : Int32)); let ms0_162 : Int32 := (if (m8_52 &&& (p1 ^^^ (-1 : Int64))) = (0 : Int64) then (1 : Int32) else (0 : Int32)); let ms0_186 : Int32 := (if ms0_142 = (0 : Int32) then (0 : Int32) else (if ms0_162 = (0 : Int32) then (0 : Int32) else (1 : Int32))); let ms0_194 : Int32 := (if (f_4 p0 p1 m11_103 m8_52) = ms0_186 then (1 : Int32) else (0 : Int32)); ms0_194
def Q_0 (Z : State) (p0 : Int32) (p1 : Int64) (p2 : Int32) (p3 : Int64) (p4 : Int32)  (h0 : Heap) (n0 : Nat) (v : Option Value) (h : Heap) (L : List Loc) : Prop := v = some (.int (f_0 p0 p1 p2 p3 p4)) ∧ Fr n0 L ∧ True
set_option maxRecDepth 65536 in
set_option maxHeartbeats 40000000 in
theorem rm_0 (l : Launch) (Z : State) (a0 : Array Value) (hw : ∀ d ∈ tables_1, d.before a0 Z = true) (ws : List Jvm.Cond) (p0 : Int32) (p1 : Int64) (p2 : Int32) (p3 : Int64) (p4 : Int32)  (h0 : Heap) (n0 : Nat) (Z0 : n0 ≤ h0.size)  :
    MetFree l x (head1 (Jvm.Cond.code x code maxLocals ret :: ws) room_1) (fun a U => a = #[(.int p0), (.long p1), (.int p2), (.long p3), (.int p4)] ∧ Z.Warmed39 U.vm ∧ U.heap = h0) (fun _ _ _ _ _ => True) (fun _ U o U' => ∃ v L, o = .returned v ∧ Q_0 Z p0 p1 p2 p3 p4 h0 n0 v U'.heap L ∧ FrameEnd U o U' L 2 4) := by
  refine MetFree.of_bodySF (plainFor_of_name pn_0) hisR ?_
  intro p e s m args below meth c s₁ Bd hml0 hP hK
  obtain ⟨rfl, hZ, hh⟩ := hP
  have hx := Bd.exec
  have hby := Bd.bytes
  have hml : c.maxLocals = 16 := hml0
  have hown : s.vm.findClass "com/example/sibyl/sibyl/kernel/LabelDominatesPinLaw" = some m.cls := findClass_of_methodNamed Bd.named
  have hnm := (name_of_methodNamed Bd.named Bd.method).1
  have X0 : Stand p l e room_1 s m #[(.int p0), (.long p1), (.int p2), (.long p3), (.int p4)] below meth c s₁ [] 0 0 := Stand.of_body Bd
  have e0 : s₁.heap = h0 := by rw [← hh, Bd.state]; rfl
  have N0 := Fr.nil n0
  have K0 : Keep h0 h0 [] := Keep.refl h0 _
  have pre0 : ∀ t, Steps p.tables e below (s₁.setTop (mkF m 0 #[.val (.int p0), .val (.long p1), .second, .val (.int p2), .val (.long p3), .second, .val (.int p4), .unset, .unset, .unset, .unset, .unset, .unset, .unset, .unset, .unset] [])) t → Steps p.tables e below (s₁.setTop (entryFrame m #[(.int p0), (.long p1), (.int p2), (.long p3), (.int p4)] maxLocals)) t := fun t k => castTop (ef_0 m p0 p1 p2 p3 p4) k
  obtain ⟨v7_4, hv7_4⟩ : ∃ z : Int32, z = (p4 &&& (3 : Int32)) := ⟨_, rfl⟩
  have pre1 : ∀ t, Steps p.tables e below (s₁.setTop (mkF m 9 #[.val (.int p0), .val (.long p1), .second, .val (.int p2), .val (.long p3), .second, .val (.int p4), .val (.int v7_4), .unset, .unset, .unset, .unset, .unset, .unset, .unset, .unset] [(.int (1 : Int32)), (.int v7_4)])) t → Steps p.tables e below (s₁.setTop (entryFrame m #[(.int p0), (.long p1), (.int p2), (.long p3), (.int p4)] maxLocals)) t := by
    intro t k
    refine pre0 t ?_
    show Steps p.tables e below (s₁.setTop (mkF m 0 #[.val (.int p0), .val (.long p1), .second, .val (.int p2), .val (.long p3), .second, .val (.int p4), .unset, .unset, .unset, .unset, .unset, .unset, .unset, .unset, .unset] [])) _
    refine XS.iload X0.here hx rfl (hb hby at_0) rfl  ?_
    show Steps p.tables e below (s₁.setTop (mkF m 2 #[.val (.int p0), .val (.long p1), .second, .val (.int p2), .val (.long p3), .second, .val (.int p4), .unset, .unset, .unset, .unset, .unset, .unset, .unset, .unset, .unset] [(.int p4)])) _
    refine XS.iconst X0.here hx rfl (hb hby at_2) ?_
    show Steps p.tables e below (s₁.setTop (mkF m 3 #[.val (.int p0), .val (.long p1), .second, .val (.int p2), .val (.long p3), .second, .val (.int p4), .unset, .unset, .unset, .unset, .unset, .unset, .unset, .unset, .unset] [(.int (3 : Int32)), (.int p4)])) _
    refine XS.iand X0.here hx rfl (hb hby at_3) rfl ?_
    show Steps p.tables e below (s₁.setTop (mkF m 4 #[.val (.int p0), .val (.long p1), .second, .val (.int p2), .val (.long p3), .second, .val (.int p4), .unset, .unset, .unset, .unset, .unset, .unset, .unset, .unset, .unset] [(.int (p4 &&& (3 : Int32)))])) _
    refine XS.istore X0.here hx rfl (hb hby at_4) rfl (l' := #[.val (.int p0), .val (.long p1), .second, .val (.int p2), .val (.long p3), .second, .val (.int p4), .val (.int v7_4), .unset, .unset, .unset, .unset, .unset, .unset, .unset, .unset]) (by rw [hv7_4]; rfl) ?_
    show Steps p.tables e below (s₁.setTop (mkF m 6 #[.val (.int p0), .val (.long p1), .second, .val (.int p2), .val (.long p3), .second, .val (.int p4), .val (.int v7_4), .unset, .unset, .unset, .unset, .unset, .unset, .unset, .unset] [])) _
    refine XS.iload X0.here hx rfl (hb hby at_6) rfl  ?_
    show Steps p.tables e below (s₁.setTop (mkF m 8 #[.val (.int p0), .val (.long p1), .second, .val (.int p2), .val (.long p3), .second, .val (.int p4), .val (.int v7_4), .unset, .unset, .unset, .unset, .unset, .unset, .unset, .unset] [(.int v7_4)])) _
    refine XS.iconst X0.here hx rfl (hb hby at_8) ?_
    exact k
  obtain ⟨m8_52, hm8_52⟩ : ∃ z : Int64, z = (if v7_4 = (1 : Int32) then (p1 &&& p3) else (if v7_4 = (2 : Int32) then (p1 ||| p3) else (if v7_4 = (3 : Int32) then p1 else p3))) := ⟨_, rfl⟩
  have pre2 : ∀ t, Steps p.tables e below (s₁.setTop (mkF m 52 #[.val (.int p0), .val (.long p1), .second, .val (.int p2), .val (.long p3), .second, .val (.int p4), .val (.int v7_4), .val (.long m8_52), .second, .unset, .unset, .unset, .unset, .unset, .unset] [])) t → Steps p.tables e below (s₁.setTop (entryFrame m #[(.int p0), (.long p1), (.int p2), (.long p3), (.int p4)] maxLocals)) t := by
    intro t k
    refine pre1 t ?_
    by_cases hc9 : v7_4 = (1 : Int32)
    · show Steps p.tables e below (s₁.setTop (mkF m 9 #[.val (.int p0), .val (.long p1), .second, .val (.int p2), .val (.long p3), .second, .val (.int p4), .val (.int v7_4), .unset, .unset, .unset, .unset, .unset, .unset, .unset, .unset] [(.int (1 : Int32)), (.int v7_4)])) _
      refine XS.icmpNo X0.here hx rfl (hb hby at_9) rfl (teq hc9).2 ?_
      show Steps p.tables e below (s₁.setTop (mkF m 12 #[.val (.int p0), .val (.long p1), .second, .val (.int p2), .val (.long p3), .second, .val (.int p4), .val (.int v7_4), .unset, .unset, .unset, .unset, .unset, .unset, .unset, .unset] [])) _
      refine XS.lloadN X0.here hx rfl (hb hby at_12) rfl  ?_
      show Steps p.tables e below (s₁.setTop (mkF m 13 #[.val (.int p0), .val (.long p1), .second, .val (.int p2), .val (.long p3), .second, .val (.int p4), .val (.int v7_4), .unset, .unset, .unset, .unset, .unset, .unset, .unset, .unset] [(.long p1)])) _
      refine XS.lload X0.here hx rfl (hb hby at_13) rfl  ?_
      show Steps p.tables e below (s₁.setTop (mkF m 15 #[.val (.int p0), .val (.long p1), .second, .val (.int p2), .val (.long p3), .second, .val (.int p4), .val (.int v7_4), .unset, .unset, .unset, .unset, .unset, .unset, .unset, .unset] [(.long p3), (.long p1)])) _
      refine XS.land X0.here hx rfl (hb hby at_15) rfl ?_
      show Steps p.tables e below (s₁.setTop (mkF m 16 #[.val (.int p0), .val (.long p1), .second, .val (.int p2), .val (.long p3), .second, .val (.int p4), .val (.int v7_4), .unset, .unset, .unset, .unset, .unset, .unset, .unset, .unset] [(.long (p1 &&& p3))])) _
      refine XS.lstore X0.here hx rfl (hb hby at_16) rfl (l' := #[.val (.int p0), .val (.long p1), .second, .val (.int p2), .val (.long p3), .second, .val (.int p4), .val (.int v7_4), .val (.long (p1 &&& p3)), .second, .unset, .unset, .unset, .unset, .unset, .unset]) rfl ?_
      show Steps p.tables e below (s₁.setTop (mkF m 18 #[.val (.int p0), .val (.long p1), .second, .val (.int p2), .val (.long p3), .second, .val (.int p4), .val (.int v7_4), .val (.long (p1 &&& p3)), .second, .unset, .unset, .unset, .unset, .unset, .unset] [])) _
      refine XS.goto X0.here hx rfl (pc0 := 18) (pc' := 52) rfl (hb hby at_18) (by decide) (by decide) ?_
      have qm8_52 : m8_52 = (p1 &&& p3) := by rw [hm8_52, if_pos hc9]
      rw [qm8_52] at k
      exact k
    · show Steps p.tables e below (s₁.setTop (mkF m 9 #[.val (.int p0), .val (.long p1), .second, .val (.int p2), .val (.long p3), .second, .val (.int p4), .val (.int v7_4), .unset, .unset, .unset, .unset, .unset, .unset, .unset, .unset] [(.int (1 : Int32)), (.int v7_4)])) _
      refine XS.icmpYes X0.here hx rfl (pc0 := 9) (pc' := 21) rfl (hb hby at_9) rfl (feq hc9).2 (by decide) (by decide) ?_
      show Steps p.tables e below (s₁.setTop (mkF m 21 #[.val (.int p0), .val (.long p1), .second, .val (.int p2), .val (.long p3), .second, .val (.int p4), .val (.int v7_4), .unset, .unset, .unset, .unset, .unset, .unset, .unset, .unset] [])) _
      refine XS.iload X0.here hx rfl (hb hby at_21) rfl  ?_
      show Steps p.tables e below (s₁.setTop (mkF m 23 #[.val (.int p0), .val (.long p1), .second, .val (.int p2), .val (.long p3), .second, .val (.int p4), .val (.int v7_4), .unset, .unset, .unset, .unset, .unset, .unset, .unset, .unset] [(.int v7_4)])) _
      refine XS.iconst X0.here hx rfl (hb hby at_23) ?_
      by_cases hc24 : v7_4 = (2 : Int32)
      · show Steps p.tables e below (s₁.setTop (mkF m 24 #[.val (.int p0), .val (.long p1), .second, .val (.int p2), .val (.long p3), .second, .val (.int p4), .val (.int v7_4), .unset, .unset, .unset, .unset, .unset, .unset, .unset, .unset] [(.int (2 : Int32)), (.int v7_4)])) _
        refine XS.icmpNo X0.here hx rfl (hb hby at_24) rfl (teq hc24).2 ?_
        show Steps p.tables e below (s₁.setTop (mkF m 27 #[.val (.int p0), .val (.long p1), .second, .val (.int p2), .val (.long p3), .second, .val (.int p4), .val (.int v7_4), .unset, .unset, .unset, .unset, .unset, .unset, .unset, .unset] [])) _
        refine XS.lloadN X0.here hx rfl (hb hby at_27) rfl  ?_
        show Steps p.tables e below (s₁.setTop (mkF m 28 #[.val (.int p0), .val (.long p1), .second, .val (.int p2), .val (.long p3), .second, .val (.int p4), .val (.int v7_4), .unset, .unset, .unset, .unset, .unset, .unset, .unset, .unset] [(.long p1)])) _
        refine XS.lload X0.here hx rfl (hb hby at_28) rfl  ?_
        show Steps p.tables e below (s₁.setTop (mkF m 30 #[.val (.int p0), .val (.long p1), .second, .val (.int p2), .val (.long p3), .second, .val (.int p4), .val (.int v7_4), .unset, .unset, .unset, .unset, .unset, .unset, .unset, .unset] [(.long p3), (.long p1)])) _
        refine XS.lor X0.here hx rfl (hb hby at_30) rfl ?_
        show Steps p.tables e below (s₁.setTop (mkF m 31 #[.val (.int p0), .val (.long p1), .second, .val (.int p2), .val (.long p3), .second, .val (.int p4), .val (.int v7_4), .unset, .unset, .unset, .unset, .unset, .unset, .unset, .unset] [(.long (p1 ||| p3))])) _
        refine XS.lstore X0.here hx rfl (hb hby at_31) rfl (l' := #[.val (.int p0), .val (.long p1), .second, .val (.int p2), .val (.long p3), .second, .val (.int p4), .val (.int v7_4), .val (.long (p1 ||| p3)), .second, .unset, .unset, .unset, .unset, .unset, .unset]) rfl ?_
        show Steps p.tables e below (s₁.setTop (mkF m 33 #[.val (.int p0), .val (.long p1), .second, .val (.int p2), .val (.long p3), .second, .val (.int p4), .val (.int v7_4), .val (.long (p1 ||| p3)), .second, .unset, .unset, .unset, .unset, .unset, .unset] [])) _
        refine XS.goto X0.here hx rfl (pc0 := 33) (pc' := 52) rfl (hb hby at_33) (by decide) (by decide) ?_
        have qm8_52 : m8_52 = (p1 ||| p3) := by rw [hm8_52, if_neg hc9, if_pos hc24]
        rw [qm8_52] at k
        exact k
      · show Steps p.tables e below (s₁.setTop (mkF m 24 #[.val (.int p0), .val (.long p1), .second, .val (.int p2), .val (.long p3), .second, .val (.int p4), .val (.int v7_4), .unset, .unset, .unset, .unset, .unset, .unset, .unset, .unset] [(.int (2 : Int32)), (.int v7_4)])) _
        refine XS.icmpYes X0.here hx rfl (pc0 := 24) (pc' := 36) rfl (hb hby at_24) rfl (feq hc24).2 (by decide) (by decide) ?_
        show Steps p.tables e below (s₁.setTop (mkF m 36 #[.val (.int p0), .val (.long p1), .second, .val (.int p2), .val (.long p3), .second, .val (.int p4), .val (.int v7_4), .unset, .unset, .unset, .unset, .unset, .unset, .unset, .unset] [])) _
        refine XS.iload X0.here hx rfl (hb hby at_36) rfl  ?_
        show Steps p.tables e below (s₁.setTop (mkF m 38 #[.val (.int p0), .val (.long p1), .second, .val (.int p2), .val (.long p3), .second, .val (.int p4), .val (.int v7_4), .unset, .unset, .unset, .unset, .unset, .unset, .unset, .unset] [(.int v7_4)])) _
        refine XS.iconst X0.here hx rfl (hb hby at_38) ?_
        by_cases hc39 : v7_4 = (3 : Int32)
        · show Steps p.tables e below (s₁.setTop (mkF m 39 #[.val (.int p0), .val (.long p1), .second, .val (.int p2), .val (.long p3), .second, .val (.int p4), .val (.int v7_4), .unset, .unset, .unset, .unset, .unset, .unset, .unset, .unset] [(.int (3 : Int32)), (.int v7_4)])) _
          refine XS.icmpNo X0.here hx rfl (hb hby at_39) rfl (teq hc39).2 ?_
          show Steps p.tables e below (s₁.setTop (mkF m 42 #[.val (.int p0), .val (.long p1), .second, .val (.int p2), .val (.long p3), .second, .val (.int p4), .val (.int v7_4), .unset, .unset, .unset, .unset, .unset, .unset, .unset, .unset] [])) _
          refine XS.lloadN X0.here hx rfl (hb hby at_42) rfl  ?_
          show Steps p.tables e below (s₁.setTop (mkF m 43 #[.val (.int p0), .val (.long p1), .second, .val (.int p2), .val (.long p3), .second, .val (.int p4), .val (.int v7_4), .unset, .unset, .unset, .unset, .unset, .unset, .unset, .unset] [(.long p1)])) _
          refine XS.lstore X0.here hx rfl (hb hby at_43) rfl (l' := #[.val (.int p0), .val (.long p1), .second, .val (.int p2), .val (.long p3), .second, .val (.int p4), .val (.int v7_4), .val (.long p1), .second, .unset, .unset, .unset, .unset, .unset, .unset]) rfl ?_
          show Steps p.tables e below (s₁.setTop (mkF m 45 #[.val (.int p0), .val (.long p1), .second, .val (.int p2), .val (.long p3), .second, .val (.int p4), .val (.int v7_4), .val (.long p1), .second, .unset, .unset, .unset, .unset, .unset, .unset] [])) _
          refine XS.goto X0.here hx rfl (pc0 := 45) (pc' := 52) rfl (hb hby at_45) (by decide) (by decide) ?_
          have qm8_52 : m8_52 = p1 := by rw [hm8_52, if_neg hc9, if_neg hc24, if_pos hc39]
          rw [qm8_52] at k
          exact k
        · show Steps p.tables e below (s₁.setTop (mkF m 39 #[.val (.int p0), .val (.long p1), .second, .val (.int p2), .val (.long p3), .second, .val (.int p4), .val (.int v7_4), .unset, .unset, .unset, .unset, .unset, .unset, .unset, .unset] [(.int (3 : Int32)), (.int v7_4)])) _
          refine XS.icmpYes X0.here hx rfl (pc0 := 39) (pc' := 48) rfl (hb hby at_39) rfl (feq hc39).2 (by decide) (by decide) ?_
          show Steps p.tables e below (s₁.setTop (mkF m 48 #[.val (.int p0), .val (.long p1), .second, .val (.int p2), .val (.long p3), .second, .val (.int p4), .val (.int v7_4), .unset, .unset, .unset, .unset, .unset, .unset, .unset, .unset] [])) _
          refine XS.lload X0.here hx rfl (hb hby at_48) rfl  ?_
          show Steps p.tables e below (s₁.setTop (mkF m 50 #[.val (.int p0), .val (.long p1), .second, .val (.int p2), .val (.long p3), .second, .val (.int p4), .val (.int v7_4), .unset, .unset, .unset, .unset, .unset, .unset, .unset, .unset] [(.long p3)])) _
          refine XS.lstore X0.here hx rfl (hb hby at_50) rfl (l' := #[.val (.int p0), .val (.long p1), .second, .val (.int p2), .val (.long p3), .second, .val (.int p4), .val (.int v7_4), .val (.long p3), .second, .unset, .unset, .unset, .unset, .unset, .unset]) rfl ?_
          have qm8_52 : m8_52 = p3 := by rw [hm8_52, if_neg hc9, if_neg hc24, if_neg hc39]
          rw [qm8_52] at k
          exact k
  obtain ⟨v10_58, hv10_58⟩ : ∃ z : Int32, z = (((p4.toUInt32 >>> ((2 : Int32) &&& 31).toUInt32).toInt32) &&& (3 : Int32)) := ⟨_, rfl⟩
  have pre3 : ∀ t, Steps p.tables e below (s₁.setTop (mkF m 63 #[.val (.int p0), .val (.long p1), .second, .val (.int p2), .val (.long p3), .second, .val (.int p4), .val (.int v7_4), .val (.long m8_52), .second, .val (.int v10_58), .unset, .unset, .unset, .unset, .unset] [(.int (1 : Int32)), (.int v10_58)])) t → Steps p.tables e below (s₁.setTop (entryFrame m #[(.int p0), (.long p1), (.int p2), (.long p3), (.int p4)] maxLocals)) t := by
    intro t k
    refine pre2 t ?_
    show Steps p.tables e below (s₁.setTop (mkF m 52 #[.val (.int p0), .val (.long p1), .second, .val (.int p2), .val (.long p3), .second, .val (.int p4), .val (.int v7_4), .val (.long m8_52), .second, .unset, .unset, .unset, .unset, .unset, .unset] [])) _
    refine XS.iload X0.here hx rfl (hb hby at_52) rfl  ?_
    show Steps p.tables e below (s₁.setTop (mkF m 54 #[.val (.int p0), .val (.long p1), .second, .val (.int p2), .val (.long p3), .second, .val (.int p4), .val (.int v7_4), .val (.long m8_52), .second, .unset, .unset, .unset, .unset, .unset, .unset] [(.int p4)])) _
    refine XS.iconst X0.here hx rfl (hb hby at_54) ?_
    show Steps p.tables e below (s₁.setTop (mkF m 55 #[.val (.int p0), .val (.long p1), .second, .val (.int p2), .val (.long p3), .second, .val (.int p4), .val (.int v7_4), .val (.long m8_52), .second, .unset, .unset, .unset, .unset, .unset, .unset] [(.int (2 : Int32)), (.int p4)])) _
    refine XS.iushr X0.here hx rfl (hb hby at_55) rfl ?_
    show Steps p.tables e below (s₁.setTop (mkF m 56 #[.val (.int p0), .val (.long p1), .second, .val (.int p2), .val (.long p3), .second, .val (.int p4), .val (.int v7_4), .val (.long m8_52), .second, .unset, .unset, .unset, .unset, .unset, .unset] [(.int ((p4.toUInt32 >>> ((2 : Int32) &&& 31).toUInt32).toInt32))])) _
    refine XS.iconst X0.here hx rfl (hb hby at_56) ?_
    show Steps p.tables e below (s₁.setTop (mkF m 57 #[.val (.int p0), .val (.long p1), .second, .val (.int p2), .val (.long p3), .second, .val (.int p4), .val (.int v7_4), .val (.long m8_52), .second, .unset, .unset, .unset, .unset, .unset, .unset] [(.int (3 : Int32)), (.int ((p4.toUInt32 >>> ((2 : Int32) &&& 31).toUInt32).toInt32))])) _
    refine XS.iand X0.here hx rfl (hb hby at_57) rfl ?_
    show Steps p.tables e below (s₁.setTop (mkF m 58 #[.val (.int p0), .val (.long p1), .second, .val (.int p2), .val (.long p3), .second, .val (.int p4), .val (.int v7_4), .val (.long m8_52), .second, .unset, .unset, .unset, .unset, .unset, .unset] [(.int (((p4.toUInt32 >>> ((2 : Int32) &&& 31).toUInt32).toInt32) &&& (3 : Int32)))])) _
    refine XS.istore X0.here hx rfl (hb hby at_58) rfl (l' := #[.val (.int p0), .val (.long p1), .second, .val (.int p2), .val (.long p3), .second, .val (.int p4), .val (.int v7_4), .val (.long m8_52), .second, .val (.int v10_58), .unset, .unset, .unset, .unset, .unset]) (by rw [hv10_58]; rfl) ?_
    show Steps p.tables e below (s₁.setTop (mkF m 60 #[.val (.int p0), .val (.long p1), .second, .val (.int p2), .val (.long p3), .second, .val (.int p4), .val (.int v7_4), .val (.long m8_52), .second, .val (.int v10_58), .unset, .unset, .unset, .unset, .unset] [])) _
    refine XS.iload X0.here hx rfl (hb hby at_60) rfl  ?_
    show Steps p.tables e below (s₁.setTop (mkF m 62 #[.val (.int p0), .val (.long p1), .second, .val (.int p2), .val (.long p3), .second, .val (.int p4), .val (.int v7_4), .val (.long m8_52), .second, .val (.int v10_58), .unset, .unset, .unset, .unset, .unset] [(.int v10_58)])) _
    refine XS.iconst X0.here hx rfl (hb hby at_62) ?_
    exact k
  obtain ⟨m11_103, hm11_103⟩ : ∃ z : Int32, z = (if v10_58 = (1 : Int32) then p0 else (if v10_58 = (2 : Int32) then (p0 + (1 : Int32)) else (if v10_58 = (3 : Int32) then (p0 - (1 : Int32)) else p2))) := ⟨_, rfl⟩
  have pre4 : ∀ t, Steps p.tables e below (s₁.setTop (mkF m 103 #[.val (.int p0), .val (.long p1), .second, .val (.int p2), .val (.long p3), .second, .val (.int p4), .val (.int v7_4), .val (.long m8_52), .second, .val (.int v10_58), .val (.int m11_103), .unset, .unset, .unset, .unset] [])) t → Steps p.tables e below (s₁.setTop (entryFrame m #[(.int p0), (.long p1), (.int p2), (.long p3), (.int p4)] maxLocals)) t := by
    intro t k
    refine pre3 t ?_
    by_cases hc63 : v10_58 = (1 : Int32)
    · show Steps p.tables e below (s₁.setTop (mkF m 63 #[.val (.int p0), .val (.long p1), .second, .val (.int p2), .val (.long p3), .second, .val (.int p4), .val (.int v7_4), .val (.long m8_52), .second, .val (.int v10_58), .unset, .unset, .unset, .unset, .unset] [(.int (1 : Int32)), (.int v10_58)])) _
      refine XS.icmpNo X0.here hx rfl (hb hby at_63) rfl (teq hc63).2 ?_
      show Steps p.tables e below (s₁.setTop (mkF m 66 #[.val (.int p0), .val (.long p1), .second, .val (.int p2), .val (.long p3), .second, .val (.int p4), .val (.int v7_4), .val (.long m8_52), .second, .val (.int v10_58), .unset, .unset, .unset, .unset, .unset] [])) _
      refine XS.iloadN X0.here hx rfl (hb hby at_66) rfl  ?_
      show Steps p.tables e below (s₁.setTop (mkF m 67 #[.val (.int p0), .val (.long p1), .second, .val (.int p2), .val (.long p3), .second, .val (.int p4), .val (.int v7_4), .val (.long m8_52), .second, .val (.int v10_58), .unset, .unset, .unset, .unset, .unset] [(.int p0)])) _
      refine XS.istore X0.here hx rfl (hb hby at_67) rfl (l' := #[.val (.int p0), .val (.long p1), .second, .val (.int p2), .val (.long p3), .second, .val (.int p4), .val (.int v7_4), .val (.long m8_52), .second, .val (.int v10_58), .val (.int p0), .unset, .unset, .unset, .unset]) rfl ?_
      show Steps p.tables e below (s₁.setTop (mkF m 69 #[.val (.int p0), .val (.long p1), .second, .val (.int p2), .val (.long p3), .second, .val (.int p4), .val (.int v7_4), .val (.long m8_52), .second, .val (.int v10_58), .val (.int p0), .unset, .unset, .unset, .unset] [])) _
      refine XS.goto X0.here hx rfl (pc0 := 69) (pc' := 103) rfl (hb hby at_69) (by decide) (by decide) ?_
      have qm11_103 : m11_103 = p0 := by rw [hm11_103, if_pos hc63]
      rw [qm11_103] at k
      exact k
    · show Steps p.tables e below (s₁.setTop (mkF m 63 #[.val (.int p0), .val (.long p1), .second, .val (.int p2), .val (.long p3), .second, .val (.int p4), .val (.int v7_4), .val (.long m8_52), .second, .val (.int v10_58), .unset, .unset, .unset, .unset, .unset] [(.int (1 : Int32)), (.int v10_58)])) _
      refine XS.icmpYes X0.here hx rfl (pc0 := 63) (pc' := 72) rfl (hb hby at_63) rfl (feq hc63).2 (by decide) (by decide) ?_
      show Steps p.tables e below (s₁.setTop (mkF m 72 #[.val (.int p0), .val (.long p1), .second, .val (.int p2), .val (.long p3), .second, .val (.int p4), .val (.int v7_4), .val (.long m8_52), .second, .val (.int v10_58), .unset, .unset, .unset, .unset, .unset] [])) _
      refine XS.iload X0.here hx rfl (hb hby at_72) rfl  ?_
      show Steps p.tables e below (s₁.setTop (mkF m 74 #[.val (.int p0), .val (.long p1), .second, .val (.int p2), .val (.long p3), .second, .val (.int p4), .val (.int v7_4), .val (.long m8_52), .second, .val (.int v10_58), .unset, .unset, .unset, .unset, .unset] [(.int v10_58)])) _
      refine XS.iconst X0.here hx rfl (hb hby at_74) ?_
      by_cases hc75 : v10_58 = (2 : Int32)
      · show Steps p.tables e below (s₁.setTop (mkF m 75 #[.val (.int p0), .val (.long p1), .second, .val (.int p2), .val (.long p3), .second, .val (.int p4), .val (.int v7_4), .val (.long m8_52), .second, .val (.int v10_58), .unset, .unset, .unset, .unset, .unset] [(.int (2 : Int32)), (.int v10_58)])) _
        refine XS.icmpNo X0.here hx rfl (hb hby at_75) rfl (teq hc75).2 ?_
        show Steps p.tables e below (s₁.setTop (mkF m 78 #[.val (.int p0), .val (.long p1), .second, .val (.int p2), .val (.long p3), .second, .val (.int p4), .val (.int v7_4), .val (.long m8_52), .second, .val (.int v10_58), .unset, .unset, .unset, .unset, .unset] [])) _
        refine XS.iloadN X0.here hx rfl (hb hby at_78) rfl  ?_
        show Steps p.tables e below (s₁.setTop (mkF m 79 #[.val (.int p0), .val (.long p1), .second, .val (.int p2), .val (.long p3), .second, .val (.int p4), .val (.int v7_4), .val (.long m8_52), .second, .val (.int v10_58), .unset, .unset, .unset, .unset, .unset] [(.int p0)])) _
        refine XS.iconst X0.here hx rfl (hb hby at_79) ?_
        show Steps p.tables e below (s₁.setTop (mkF m 80 #[.val (.int p0), .val (.long p1), .second, .val (.int p2), .val (.long p3), .second, .val (.int p4), .val (.int v7_4), .val (.long m8_52), .second, .val (.int v10_58), .unset, .unset, .unset, .unset, .unset] [(.int (1 : Int32)), (.int p0)])) _
        refine XS.iadd X0.here hx rfl (hb hby at_80) rfl ?_
        show Steps p.tables e below (s₁.setTop (mkF m 81 #[.val (.int p0), .val (.long p1), .second, .val (.int p2), .val (.long p3), .second, .val (.int p4), .val (.int v7_4), .val (.long m8_52), .second, .val (.int v10_58), .unset, .unset, .unset, .unset, .unset] [(.int (p0 + (1 : Int32)))])) _
        refine XS.istore X0.here hx rfl (hb hby at_81) rfl (l' := #[.val (.int p0), .val (.long p1), .second, .val (.int p2), .val (.long p3), .second, .val (.int p4), .val (.int v7_4), .val (.long m8_52), .second, .val (.int v10_58), .val (.int (p0 + (1 : Int32))), .unset, .unset, .unset, .unset]) rfl ?_
        show Steps p.tables e below (s₁.setTop (mkF m 83 #[.val (.int p0), .val (.long p1), .second, .val (.int p2), .val (.long p3), .second, .val (.int p4), .val (.int v7_4), .val (.long m8_52), .second, .val (.int v10_58), .val (.int (p0 + (1 : Int32))), .unset, .unset, .unset, .unset] [])) _
        refine XS.goto X0.here hx rfl (pc0 := 83) (pc' := 103) rfl (hb hby at_83) (by decide) (by decide) ?_
        have qm11_103 : m11_103 = (p0 + (1 : Int32)) := by rw [hm11_103, if_neg hc63, if_pos hc75]
        rw [qm11_103] at k
        exact k
      · show Steps p.tables e below (s₁.setTop (mkF m 75 #[.val (.int p0), .val (.long p1), .second, .val (.int p2), .val (.long p3), .second, .val (.int p4), .val (.int v7_4), .val (.long m8_52), .second, .val (.int v10_58), .unset, .unset, .unset, .unset, .unset] [(.int (2 : Int32)), (.int v10_58)])) _
        refine XS.icmpYes X0.here hx rfl (pc0 := 75) (pc' := 86) rfl (hb hby at_75) rfl (feq hc75).2 (by decide) (by decide) ?_
        show Steps p.tables e below (s₁.setTop (mkF m 86 #[.val (.int p0), .val (.long p1), .second, .val (.int p2), .val (.long p3), .second, .val (.int p4), .val (.int v7_4), .val (.long m8_52), .second, .val (.int v10_58), .unset, .unset, .unset, .unset, .unset] [])) _
        refine XS.iload X0.here hx rfl (hb hby at_86) rfl  ?_
        show Steps p.tables e below (s₁.setTop (mkF m 88 #[.val (.int p0), .val (.long p1), .second, .val (.int p2), .val (.long p3), .second, .val (.int p4), .val (.int v7_4), .val (.long m8_52), .second, .val (.int v10_58), .unset, .unset, .unset, .unset, .unset] [(.int v10_58)])) _
        refine XS.iconst X0.here hx rfl (hb hby at_88) ?_
        by_cases hc89 : v10_58 = (3 : Int32)
        · show Steps p.tables e below (s₁.setTop (mkF m 89 #[.val (.int p0), .val (.long p1), .second, .val (.int p2), .val (.long p3), .second, .val (.int p4), .val (.int v7_4), .val (.long m8_52), .second, .val (.int v10_58), .unset, .unset, .unset, .unset, .unset] [(.int (3 : Int32)), (.int v10_58)])) _
          refine XS.icmpNo X0.here hx rfl (hb hby at_89) rfl (teq hc89).2 ?_
          show Steps p.tables e below (s₁.setTop (mkF m 92 #[.val (.int p0), .val (.long p1), .second, .val (.int p2), .val (.long p3), .second, .val (.int p4), .val (.int v7_4), .val (.long m8_52), .second, .val (.int v10_58), .unset, .unset, .unset, .unset, .unset] [])) _
          refine XS.iloadN X0.here hx rfl (hb hby at_92) rfl  ?_
          show Steps p.tables e below (s₁.setTop (mkF m 93 #[.val (.int p0), .val (.long p1), .second, .val (.int p2), .val (.long p3), .second, .val (.int p4), .val (.int v7_4), .val (.long m8_52), .second, .val (.int v10_58), .unset, .unset, .unset, .unset, .unset] [(.int p0)])) _
          refine XS.iconst X0.here hx rfl (hb hby at_93) ?_
          show Steps p.tables e below (s₁.setTop (mkF m 94 #[.val (.int p0), .val (.long p1), .second, .val (.int p2), .val (.long p3), .second, .val (.int p4), .val (.int v7_4), .val (.long m8_52), .second, .val (.int v10_58), .unset, .unset, .unset, .unset, .unset] [(.int (1 : Int32)), (.int p0)])) _
          refine XS.isub X0.here hx rfl (hb hby at_94) rfl ?_
          show Steps p.tables e below (s₁.setTop (mkF m 95 #[.val (.int p0), .val (.long p1), .second, .val (.int p2), .val (.long p3), .second, .val (.int p4), .val (.int v7_4), .val (.long m8_52), .second, .val (.int v10_58), .unset, .unset, .unset, .unset, .unset] [(.int (p0 - (1 : Int32)))])) _
          refine XS.istore X0.here hx rfl (hb hby at_95) rfl (l' := #[.val (.int p0), .val (.long p1), .second, .val (.int p2), .val (.long p3), .second, .val (.int p4), .val (.int v7_4), .val (.long m8_52), .second, .val (.int v10_58), .val (.int (p0 - (1 : Int32))), .unset, .unset, .unset, .unset]) rfl ?_
          show Steps p.tables e below (s₁.setTop (mkF m 97 #[.val (.int p0), .val (.long p1), .second, .val (.int p2), .val (.long p3), .second, .val (.int p4), .val (.int v7_4), .val (.long m8_52), .second, .val (.int v10_58), .val (.int (p0 - (1 : Int32))), .unset, .unset, .unset, .unset] [])) _
          refine XS.goto X0.here hx rfl (pc0 := 97) (pc' := 103) rfl (hb hby at_97) (by decide) (by decide) ?_
          have qm11_103 : m11_103 = (p0 - (1 : Int32)) := by rw [hm11_103, if_neg hc63, if_neg hc75, if_pos hc89]
          rw [qm11_103] at k
          exact k
        · show Steps p.tables e below (s₁.setTop (mkF m 89 #[.val (.int p0), .val (.long p1), .second, .val (.int p2), .val (.long p3), .second, .val (.int p4), .val (.int v7_4), .val (.long m8_52), .second, .val (.int v10_58), .unset, .unset, .unset, .unset, .unset] [(.int (3 : Int32)), (.int v10_58)])) _
          refine XS.icmpYes X0.here hx rfl (pc0 := 89) (pc' := 100) rfl (hb hby at_89) rfl (feq hc89).2 (by decide) (by decide) ?_
          show Steps p.tables e below (s₁.setTop (mkF m 100 #[.val (.int p0), .val (.long p1), .second, .val (.int p2), .val (.long p3), .second, .val (.int p4), .val (.int v7_4), .val (.long m8_52), .second, .val (.int v10_58), .unset, .unset, .unset, .unset, .unset] [])) _
          refine XS.iloadN X0.here hx rfl (hb hby at_100) rfl  ?_
          show Steps p.tables e below (s₁.setTop (mkF m 101 #[.val (.int p0), .val (.long p1), .second, .val (.int p2), .val (.long p3), .second, .val (.int p4), .val (.int v7_4), .val (.long m8_52), .second, .val (.int v10_58), .unset, .unset, .unset, .unset, .unset] [(.int p2)])) _
          refine XS.istore X0.here hx rfl (hb hby at_101) rfl (l' := #[.val (.int p0), .val (.long p1), .second, .val (.int p2), .val (.long p3), .second, .val (.int p4), .val (.int v7_4), .val (.long m8_52), .second, .val (.int v10_58), .val (.int p2), .unset, .unset, .unset, .unset]) rfl ?_
          have qm11_103 : m11_103 = p2 := by rw [hm11_103, if_neg hc63, if_neg hc75, if_neg hc89]
          rw [qm11_103] at k
          exact k
  obtain ⟨T5, h5, X5, e5, E5, A5, D5, -, st5⟩ := newO X0 hx hZ hown (hw _ (List.mem_of_getElem? (i := 0) rfl)) (hw _ (List.mem_of_getElem? (i := 1) rfl)) (hw _ (List.mem_of_getElem? (i := 2) rfl)) e0 (g := (mkF m 103 #[.val (.int p0), .val (.long p1), .second, .val (.int p2), .val (.long p3), .second, .val (.int p4), .val (.int v7_4), .val (.long m8_52), .second, .val (.int v10_58), .val (.int m11_103), .unset, .unset, .unset, .unset] [])) rfl (hb hby at_103) (by decide) (by decide)
  obtain ⟨b5, gb5⟩ : ∃ z, z = h0.size := ⟨_, rfl⟩
  rw [← gb5] at A5 D5 st5
  have sz_b5 : h0.size ≤ b5 := Nat.le_trans K0.1 (Nat.le_of_eq gb5.symm)
  have ge_b5 : n0 ≤ b5 := Nat.le_trans Z0 (Nat.le_of_eq gb5.symm)
  have K5 := K0.ext E5
  have Z5 := Nat.le_trans Z0 E5.1
  have F5_level : Fld Z h5 b5 "com/example/sibyl/sibyl/kernel/Label" "level" "I" (.int (0 : Int32)) := D5 (Or.inr (hw _ (List.mem_of_getElem? (i := 10) rfl))) (ty := .int) (by decide)
  have F5_categories : Fld Z h5 b5 "com/example/sibyl/sibyl/kernel/Label" "categories" "J" (.long (0 : Int64)) := D5 (Or.inr (hw _ (List.mem_of_getElem? (i := 12) rfl))) (ty := .long) (by decide)
  have pre7 : ∀ t, Steps p.tables e below (T5.setTop (mkF m 109 #[.val (.int p0), .val (.long p1), .second, .val (.int p2), .val (.long p3), .second, .val (.int p4), .val (.int v7_4), .val (.long m8_52), .second, .val (.int v10_58), .val (.int m11_103), .unset, .unset, .unset, .unset] [(.long p1), (.int p0), (.ref b5), (.ref b5)])) t → Steps p.tables e below (s₁.setTop (entryFrame m #[(.int p0), (.long p1), (.int p2), (.long p3), (.int p4)] maxLocals)) t := by
    intro t k
    refine pre4 t ?_
    show Steps p.tables e below (s₁.setTop (mkF m 103 #[.val (.int p0), .val (.long p1), .second, .val (.int p2), .val (.long p3), .second, .val (.int p4), .val (.int v7_4), .val (.long m8_52), .second, .val (.int v10_58), .val (.int m11_103), .unset, .unset, .unset, .unset] [])) _
    refine st5 _ ?_
    show Steps p.tables e below (T5.setTop (mkF m 106 #[.val (.int p0), .val (.long p1), .second, .val (.int p2), .val (.long p3), .second, .val (.int p4), .val (.int v7_4), .val (.long m8_52), .second, .val (.int v10_58), .val (.int m11_103), .unset, .unset, .unset, .unset] [(.ref b5)])) _
    refine XS.dup X5.here hx rfl (hb hby at_106) rfl rfl ?_
    show Steps p.tables e below (T5.setTop (mkF m 107 #[.val (.int p0), .val (.long p1), .second, .val (.int p2), .val (.long p3), .second, .val (.int p4), .val (.int v7_4), .val (.long m8_52), .second, .val (.int v10_58), .val (.int m11_103), .unset, .unset, .unset, .unset] [(.ref b5), (.ref b5)])) _
    refine XS.iloadN X5.here hx rfl (hb hby at_107) rfl  ?_
    show Steps p.tables e below (T5.setTop (mkF m 108 #[.val (.int p0), .val (.long p1), .second, .val (.int p2), .val (.long p3), .second, .val (.int p4), .val (.int v7_4), .val (.long m8_52), .second, .val (.int v10_58), .val (.int m11_103), .unset, .unset, .unset, .unset] [(.int p0), (.ref b5), (.ref b5)])) _
    refine XS.lloadN X5.here hx rfl (hb hby at_108) rfl  ?_
    exact k
  obtain ⟨_, _, ⟨T6, L6, k6, n6⟩, -, X6, ⟨Lc6, hQ6, l6, y6, z6⟩, st6⟩ := X5.specialBack hx (y := (⟨"com/example/sibyl/sibyl/kernel/Label", "<init>", "(IJ)V"⟩ : MethodName)) rfl hown (mvT hZ (hw _ (List.mem_of_getElem? (i := 3) rfl))) (mvT hZ (hw _ (List.mem_of_getElem? (i := 4) rfl))) (mvT hZ (hw _ (List.mem_of_getElem? (i := 5) rfl))) (by decide) (backOf (W := 1) (rm_1 l Z a0 hw [] b5 p0 p1 h5 n0 Z5 A5 F5_level F5_categories ge_b5) hZ (hw _ (List.mem_of_getElem? (i := 5) rfl)) (hw _ (List.mem_of_getElem? (i := 2) rfl)) (by decide) (by decide)) (g := (mkF m 109 #[.val (.int p0), .val (.long p1), .second, .val (.int p2), .val (.long p3), .second, .val (.int p4), .val (.int v7_4), .val (.long m8_52), .second, .val (.int v10_58), .val (.int m11_103), .unset, .unset, .unset, .unset] [(.long p1), (.int p0), (.ref b5), (.ref b5)])) rfl (by rw [hml]; rfl) (Steps.refl _) (a := b5) (argsL := [(.int p0), (.long p1)]) (rest := [(.ref b5)]) (lenOf pd_0 rfl) rfl (by show 2 * 0 + _ ≤ _; exact Nat.le_of_eq rfl) (hb hby at_109) (fun _ _ => ⟨rfl, e5, (by decide : 1 + 0 ≤ _), (by decide : 2 + 0 ≤ _)⟩)
  dsimp only [Pt.U, Pt.locs, Pt.cells, Pt.slots] at X6 l6 y6 z6 st6 hQ6
  subst l6 y6 z6
  obtain ⟨rfl, N6q, Kc6, Q6_0, Q6_1, Q6_2⟩ := hQ6
  have Kd6 : Keep h5 T6.heap [b5] := Kc6
  have exa_b5_6 := A5.keep Kd6
  have K6 := K5.trans Kd6 (allS (Or.inr sz_b5) all0)
  have Z6 := Nat.le_trans Z5 Kd6.1
  have N6 := Fr.app N0 N6q
  have pre8 : ∀ t, Steps p.tables e below (T6.setTop (mkF m 114 #[.val (.int p0), .val (.long p1), .second, .val (.int p2), .val (.long p3), .second, .val (.int p4), .val (.int v7_4), .val (.long m8_52), .second, .val (.int v10_58), .val (.int m11_103), .val (.ref b5), .unset, .unset, .unset] [])) t → Steps p.tables e below (s₁.setTop (entryFrame m #[(.int p0), (.long p1), (.int p2), (.long p3), (.int p4)] maxLocals)) t := by
    intro t k
    refine pre7 t ?_
    show Steps p.tables e below (T5.setTop (mkF m 109 #[.val (.int p0), .val (.long p1), .second, .val (.int p2), .val (.long p3), .second, .val (.int p4), .val (.int v7_4), .val (.long m8_52), .second, .val (.int v10_58), .val (.int m11_103), .unset, .unset, .unset, .unset] [(.long p1), (.int p0), (.ref b5), (.ref b5)])) _
    refine st6.trans ?_
    show Steps p.tables e below (T6.setTop (mkF m 112 #[.val (.int p0), .val (.long p1), .second, .val (.int p2), .val (.long p3), .second, .val (.int p4), .val (.int v7_4), .val (.long m8_52), .second, .val (.int v10_58), .val (.int m11_103), .unset, .unset, .unset, .unset] [(.ref b5)])) _
    refine XS.astore X6.here hx rfl (hb hby at_112) rfl rfl (l' := #[.val (.int p0), .val (.long p1), .second, .val (.int p2), .val (.long p3), .second, .val (.int p4), .val (.int v7_4), .val (.long m8_52), .second, .val (.int v10_58), .val (.int m11_103), .val (.ref b5), .unset, .unset, .unset]) rfl ?_
    exact k
  obtain ⟨T9, h9, X9, e9, E9, A9, D9, -, st9⟩ := newO X6 hx hZ hown (hw _ (List.mem_of_getElem? (i := 0) rfl)) (hw _ (List.mem_of_getElem? (i := 1) rfl)) (hw _ (List.mem_of_getElem? (i := 2) rfl)) rfl (g := (mkF m 114 #[.val (.int p0), .val (.long p1), .second, .val (.int p2), .val (.long p3), .second, .val (.int p4), .val (.int v7_4), .val (.long m8_52), .second, .val (.int v10_58), .val (.int m11_103), .val (.ref b5), .unset, .unset, .unset] [])) rfl (hb hby at_114) (by decide) (by decide)
  obtain ⟨b9, gb9⟩ : ∃ z, z = T6.heap.size := ⟨_, rfl⟩
  rw [← gb9] at A9 D9 st9
  have ne_b5_b9 : b5 ≠ b9 := Nat.ne_of_lt (Nat.lt_of_lt_of_le Q6_0.lt (Nat.le_of_eq gb9.symm))
  have sz_b9 : h0.size ≤ b9 := Nat.le_trans K6.1 (Nat.le_of_eq gb9.symm)
  have ge_b9 : n0 ≤ b9 := Nat.le_trans Z6 (Nat.le_of_eq gb9.symm)
  have exa_b5_9 := Q6_0.ext E9
  have fld_b5_level_9 := Q6_1.ext E9
  have fld_b5_categories_9 := Q6_2.ext E9
  have K9 := K6.ext E9
  have Z9 := Nat.le_trans Z6 E9.1
  have F9_level : Fld Z h9 b9 "com/example/sibyl/sibyl/kernel/Label" "level" "I" (.int (0 : Int32)) := D9 (Or.inr (hw _ (List.mem_of_getElem? (i := 10) rfl))) (ty := .int) (by decide)
  have F9_categories : Fld Z h9 b9 "com/example/sibyl/sibyl/kernel/Label" "categories" "J" (.long (0 : Int64)) := D9 (Or.inr (hw _ (List.mem_of_getElem? (i := 12) rfl))) (ty := .long) (by decide)
  have pre11 : ∀ t, Steps p.tables e below (T9.setTop (mkF m 122 #[.val (.int p0), .val (.long p1), .second, .val (.int p2), .val (.long p3), .second, .val (.int p4), .val (.int v7_4), .val (.long m8_52), .second, .val (.int v10_58), .val (.int m11_103), .val (.ref b5), .unset, .unset, .unset] [(.long m8_52), (.int m11_103), (.ref b9), (.ref b9)])) t → Steps p.tables e below (s₁.setTop (entryFrame m #[(.int p0), (.long p1), (.int p2), (.long p3), (.int p4)] maxLocals)) t := by
    intro t k
    refine pre8 t ?_
    show Steps p.tables e below (T6.setTop (mkF m 114 #[.val (.int p0), .val (.long p1), .second, .val (.int p2), .val (.long p3), .second, .val (.int p4), .val (.int v7_4), .val (.long m8_52), .second, .val (.int v10_58), .val (.int m11_103), .val (.ref b5), .unset, .unset, .unset] [])) _
    refine st9 _ ?_
    show Steps p.tables e below (T9.setTop (mkF m 117 #[.val (.int p0), .val (.long p1), .second, .val (.int p2), .val (.long p3), .second, .val (.int p4), .val (.int v7_4), .val (.long m8_52), .second, .val (.int v10_58), .val (.int m11_103), .val (.ref b5), .unset, .unset, .unset] [(.ref b9)])) _
    refine XS.dup X9.here hx rfl (hb hby at_117) rfl rfl ?_
    show Steps p.tables e below (T9.setTop (mkF m 118 #[.val (.int p0), .val (.long p1), .second, .val (.int p2), .val (.long p3), .second, .val (.int p4), .val (.int v7_4), .val (.long m8_52), .second, .val (.int v10_58), .val (.int m11_103), .val (.ref b5), .unset, .unset, .unset] [(.ref b9), (.ref b9)])) _
    refine XS.iload X9.here hx rfl (hb hby at_118) rfl  ?_
    show Steps p.tables e below (T9.setTop (mkF m 120 #[.val (.int p0), .val (.long p1), .second, .val (.int p2), .val (.long p3), .second, .val (.int p4), .val (.int v7_4), .val (.long m8_52), .second, .val (.int v10_58), .val (.int m11_103), .val (.ref b5), .unset, .unset, .unset] [(.int m11_103), (.ref b9), (.ref b9)])) _
    refine XS.lload X9.here hx rfl (hb hby at_120) rfl  ?_
    exact k
  obtain ⟨_, _, ⟨T10, L10, k10, n10⟩, -, X10, ⟨Lc10, hQ10, l10, y10, z10⟩, st10⟩ := X9.specialBack hx (y := (⟨"com/example/sibyl/sibyl/kernel/Label", "<init>", "(IJ)V"⟩ : MethodName)) rfl hown (mvT hZ (hw _ (List.mem_of_getElem? (i := 3) rfl))) (mvT hZ (hw _ (List.mem_of_getElem? (i := 4) rfl))) (mvT hZ (hw _ (List.mem_of_getElem? (i := 5) rfl))) (by decide) (backOf (W := 1) (rm_1 l Z a0 hw [] b9 m11_103 m8_52 h9 n0 Z9 A9 F9_level F9_categories ge_b9) hZ (hw _ (List.mem_of_getElem? (i := 5) rfl)) (hw _ (List.mem_of_getElem? (i := 2) rfl)) (by decide) (by decide)) (g := (mkF m 122 #[.val (.int p0), .val (.long p1), .second, .val (.int p2), .val (.long p3), .second, .val (.int p4), .val (.int v7_4), .val (.long m8_52), .second, .val (.int v10_58), .val (.int m11_103), .val (.ref b5), .unset, .unset, .unset] [(.long m8_52), (.int m11_103), (.ref b9), (.ref b9)])) rfl (by rw [hml]; rfl) (Steps.refl _) (a := b9) (argsL := [(.int m11_103), (.long m8_52)]) (rest := [(.ref b9)]) (lenOf pd_0 rfl) rfl (by show 2 * 0 + _ ≤ _; exact Nat.le_of_eq rfl) (hb hby at_122) (fun _ _ => ⟨rfl, e9, (by decide : 2 + 0 ≤ _), (by decide : 4 + 0 ≤ _)⟩)
  dsimp only [Pt.U, Pt.locs, Pt.cells, Pt.slots] at X10 l10 y10 z10 st10 hQ10
  subst l10 y10 z10
  obtain ⟨rfl, N10q, Kc10, Q10_0, Q10_1, Q10_2⟩ := hQ10
  have Kd10 : Keep h9 T10.heap [b9] := Kc10
  have exa_b5_10 := exa_b5_9.keep Kd10
  have fld_b5_level_10 := fld_b5_level_9.keep Kd10 (ninS ne_b5_b9 nin0)
  have fld_b5_categories_10 := fld_b5_categories_9.keep Kd10 (ninS ne_b5_b9 nin0)
  have exa_b9_10 := A9.keep Kd10
  have K10 := K9.trans Kd10 (allS (Or.inr sz_b9) all0)
  have Z10 := Nat.le_trans Z9 Kd10.1
  have N10 := Fr.app N6 N10q
  have pre13 : ∀ t, Steps p.tables e below (T10.setTop (mkF m 130 #[.val (.int p0), .val (.long p1), .second, .val (.int p2), .val (.long p3), .second, .val (.int p4), .val (.int v7_4), .val (.long m8_52), .second, .val (.int v10_58), .val (.int m11_103), .val (.ref b5), .val (.ref b9), .unset, .unset] [(.int m11_103), (.int p0)])) t → Steps p.tables e below (s₁.setTop (entryFrame m #[(.int p0), (.long p1), (.int p2), (.long p3), (.int p4)] maxLocals)) t := by
    intro t k
    refine pre11 t ?_
    show Steps p.tables e below (T9.setTop (mkF m 122 #[.val (.int p0), .val (.long p1), .second, .val (.int p2), .val (.long p3), .second, .val (.int p4), .val (.int v7_4), .val (.long m8_52), .second, .val (.int v10_58), .val (.int m11_103), .val (.ref b5), .unset, .unset, .unset] [(.long m8_52), (.int m11_103), (.ref b9), (.ref b9)])) _
    refine st10.trans ?_
    show Steps p.tables e below (T10.setTop (mkF m 125 #[.val (.int p0), .val (.long p1), .second, .val (.int p2), .val (.long p3), .second, .val (.int p4), .val (.int v7_4), .val (.long m8_52), .second, .val (.int v10_58), .val (.int m11_103), .val (.ref b5), .unset, .unset, .unset] [(.ref b9)])) _
    refine XS.astore X10.here hx rfl (hb hby at_125) rfl rfl (l' := #[.val (.int p0), .val (.long p1), .second, .val (.int p2), .val (.long p3), .second, .val (.int p4), .val (.int v7_4), .val (.long m8_52), .second, .val (.int v10_58), .val (.int m11_103), .val (.ref b5), .val (.ref b9), .unset, .unset]) rfl ?_
    show Steps p.tables e below (T10.setTop (mkF m 127 #[.val (.int p0), .val (.long p1), .second, .val (.int p2), .val (.long p3), .second, .val (.int p4), .val (.int v7_4), .val (.long m8_52), .second, .val (.int v10_58), .val (.int m11_103), .val (.ref b5), .val (.ref b9), .unset, .unset] [])) _
    refine XS.iloadN X10.here hx rfl (hb hby at_127) rfl  ?_
    show Steps p.tables e below (T10.setTop (mkF m 128 #[.val (.int p0), .val (.long p1), .second, .val (.int p2), .val (.long p3), .second, .val (.int p4), .val (.int v7_4), .val (.long m8_52), .second, .val (.int v10_58), .val (.int m11_103), .val (.ref b5), .val (.ref b9), .unset, .unset] [(.int p0)])) _
    refine XS.iload X10.here hx rfl (hb hby at_128) rfl  ?_
    exact k
  obtain ⟨_, _, ⟨T12, L12, k12, n12⟩, -, X12, ⟨Lc12, hQ12, l12, y12, z12⟩, st12⟩ := Jvm.LawKit.callS X10 hx (y := (⟨"java/lang/Math", "max", "(II)I"⟩ : MethodName)) hown (mvT hZ (hw _ (List.mem_of_getElem? (i := 13) rfl))) (mvT hZ (hw _ (List.mem_of_getElem? (i := 14) rfl))) (mvT hZ (hw _ (List.mem_of_getElem? (i := 15) rfl))) (mvT hZ (hw _ (List.mem_of_getElem? (i := 16) rfl))) (by decide) (backOf (W := 0) (rm_3 l Z a0 hw [] p0 m11_103 T10.heap n0 Z10 ) hZ (hw _ (List.mem_of_getElem? (i := 16) rfl)) (hw _ (List.mem_of_getElem? (i := 15) rfl)) (by decide) (by decide)) (g := (mkF m 130 #[.val (.int p0), .val (.long p1), .second, .val (.int p2), .val (.long p3), .second, .val (.int p4), .val (.int v7_4), .val (.long m8_52), .second, .val (.int v10_58), .val (.int m11_103), .val (.ref b5), .val (.ref b9), .unset, .unset] [(.int m11_103), (.int p0)])) rfl (by rw [hml]; rfl) (argsL := [(.int p0), (.int m11_103)]) (rest := []) (lenOf pd_1 rfl) rfl (by show 2 * 0 + _ ≤ _; exact Nat.le_of_eq rfl) (hb hby at_130) (fun _ _ => ⟨rfl, rfl, (by decide : 2 + 0 ≤ _), (by decide : 4 + 0 ≤ _)⟩)
  dsimp only [Pt.U, Pt.locs, Pt.cells, Pt.slots] at X12 l12 y12 z12 st12 hQ12
  subst l12 y12 z12
  obtain ⟨rfl, N12q, e12⟩ := hQ12
  have N12 := Fr.app N10 N12q
  have pre14 : ∀ t, Steps p.tables e below (T12.setTop (mkF m 134 #[.val (.int p0), .val (.long p1), .second, .val (.int p2), .val (.long p3), .second, .val (.int p4), .val (.int v7_4), .val (.long m8_52), .second, .val (.int v10_58), .val (.int m11_103), .val (.ref b5), .val (.ref b9), .unset, .unset] [(.int p0), (.int (f_3 p0 m11_103))])) t → Steps p.tables e below (s₁.setTop (entryFrame m #[(.int p0), (.long p1), (.int p2), (.long p3), (.int p4)] maxLocals)) t := by
    intro t k
    refine pre13 t ?_
    show Steps p.tables e below (T10.setTop (mkF m 130 #[.val (.int p0), .val (.long p1), .second, .val (.int p2), .val (.long p3), .second, .val (.int p4), .val (.int v7_4), .val (.long m8_52), .second, .val (.int v10_58), .val (.int m11_103), .val (.ref b5), .val (.ref b9), .unset, .unset] [(.int m11_103), (.int p0)])) _
    refine st12 _ ?_
    show Steps p.tables e below (T12.setTop (mkF m 133 #[.val (.int p0), .val (.long p1), .second, .val (.int p2), .val (.long p3), .second, .val (.int p4), .val (.int v7_4), .val (.long m8_52), .second, .val (.int v10_58), .val (.int m11_103), .val (.ref b5), .val (.ref b9), .unset, .unset] [(.int (f_3 p0 m11_103))])) _
    refine XS.iloadN X12.here hx rfl (hb hby at_133) rfl  ?_
    exact k
  obtain ⟨ms0_142, hms0_142⟩ : ∃ z : Int32, z = (if (f_3 p0 m11_103) = p0 then (1 : Int32) else (0 : Int32)) := ⟨_, rfl⟩
  have pre15 : ∀ t, Steps p.tables e below (T12.setTop (mkF m 142 #[.val (.int p0), .val (.long p1), .second, .val (.int p2), .val (.long p3), .second, .val (.int p4), .val (.int v7_4), .val (.long m8_52), .second, .val (.int v10_58), .val (.int m11_103), .val (.ref b5), .val (.ref b9), .unset, .unset] [(.int ms0_142)])) t → Steps p.tables e below (s₁.setTop (entryFrame m #[(.int p0), (.long p1), (.int p2), (.long p3), (.int p4)] maxLocals)) t := by
    intro t k
    refine pre14 t ?_
    by_cases hc134 : (f_3 p0 m11_103) = p0
    · show Steps p.tables e below (T12.setTop (mkF m 134 #[.val (.int p0), .val (.long p1), .second, .val (.int p2), .val (.long p3), .second, .val (.int p4), .val (.int v7_4), .val (.long m8_52), .second, .val (.int v10_58), .val (.int m11_103), .val (.ref b5), .val (.ref b9), .unset, .unset] [(.int p0), (.int (f_3 p0 m11_103))])) _
      refine XS.icmpNo X12.here hx rfl (hb hby at_134) rfl (teq hc134).2 ?_
      show Steps p.tables e below (T12.setTop (mkF m 137 #[.val (.int p0), .val (.long p1), .second, .val (.int p2), .val (.long p3), .second, .val (.int p4), .val (.int v7_4), .val (.long m8_52), .second, .val (.int v10_58), .val (.int m11_103), .val (.ref b5), .val (.ref b9), .unset, .unset] [])) _
      refine XS.iconst X12.here hx rfl (hb hby at_137) ?_
      show Steps p.tables e below (T12.setTop (mkF m 138 #[.val (.int p0), .val (.long p1), .second, .val (.int p2), .val (.long p3), .second, .val (.int p4), .val (.int v7_4), .val (.long m8_52), .second, .val (.int v10_58), .val (.int m11_103), .val (.ref b5), .val (.ref b9), .unset, .unset] [(.int (1 : Int32))])) _
      refine XS.goto X12.here hx rfl (pc0 := 138) (pc' := 142) rfl (hb hby at_138) (by decide) (by decide) ?_
      have qms0_142 : ms0_142 = (1 : Int32) := by rw [hms0_142, if_pos hc134]
      rw [qms0_142] at k
      exact k
    · show Steps p.tables e below (T12.setTop (mkF m 134 #[.val (.int p0), .val (.long p1), .second, .val (.int p2), .val (.long p3), .second, .val (.int p4), .val (.int v7_4), .val (.long m8_52), .second, .val (.int v10_58), .val (.int m11_103), .val (.ref b5), .val (.ref b9), .unset, .unset] [(.int p0), (.int (f_3 p0 m11_103))])) _
      refine XS.icmpYes X12.here hx rfl (pc0 := 134) (pc' := 141) rfl (hb hby at_134) rfl (feq hc134).2 (by decide) (by decide) ?_
      show Steps p.tables e below (T12.setTop (mkF m 141 #[.val (.int p0), .val (.long p1), .second, .val (.int p2), .val (.long p3), .second, .val (.int p4), .val (.int v7_4), .val (.long m8_52), .second, .val (.int v10_58), .val (.int m11_103), .val (.ref b5), .val (.ref b9), .unset, .unset] [])) _
      refine XS.iconst X12.here hx rfl (hb hby at_141) ?_
      have qms0_142 : ms0_142 = (0 : Int32) := by rw [hms0_142, if_neg hc134]
      rw [qms0_142] at k
      exact k
  have pre16 : ∀ t, Steps p.tables e below (T12.setTop (mkF m 154 #[.val (.int p0), .val (.long p1), .second, .val (.int p2), .val (.long p3), .second, .val (.int p4), .val (.int v7_4), .val (.long m8_52), .second, .val (.int v10_58), .val (.int m11_103), .val (.ref b5), .val (.ref b9), .val (.int ms0_142), .unset] [(.int (lcmpW (m8_52 &&& (p1 ^^^ (-1 : Int64))) (0 : Int64)))])) t → Steps p.tables e below (s₁.setTop (entryFrame m #[(.int p0), (.long p1), (.int p2), (.long p3), (.int p4)] maxLocals)) t := by
    intro t k
    refine pre15 t ?_
    show Steps p.tables e below (T12.setTop (mkF m 142 #[.val (.int p0), .val (.long p1), .second, .val (.int p2), .val (.long p3), .second, .val (.int p4), .val (.int v7_4), .val (.long m8_52), .second, .val (.int v10_58), .val (.int m11_103), .val (.ref b5), .val (.ref b9), .unset, .unset] [(.int ms0_142)])) _
    refine XS.istore X12.here hx rfl (hb hby at_142) rfl (l' := #[.val (.int p0), .val (.long p1), .second, .val (.int p2), .val (.long p3), .second, .val (.int p4), .val (.int v7_4), .val (.long m8_52), .second, .val (.int v10_58), .val (.int m11_103), .val (.ref b5), .val (.ref b9), .val (.int ms0_142), .unset]) rfl ?_
    show Steps p.tables e below (T12.setTop (mkF m 144 #[.val (.int p0), .val (.long p1), .second, .val (.int p2), .val (.long p3), .second, .val (.int p4), .val (.int v7_4), .val (.long m8_52), .second, .val (.int v10_58), .val (.int m11_103), .val (.ref b5), .val (.ref b9), .val (.int ms0_142), .unset] [])) _
    refine XS.lload X12.here hx rfl (hb hby at_144) rfl  ?_
    show Steps p.tables e below (T12.setTop (mkF m 146 #[.val (.int p0), .val (.long p1), .second, .val (.int p2), .val (.long p3), .second, .val (.int p4), .val (.int v7_4), .val (.long m8_52), .second, .val (.int v10_58), .val (.int m11_103), .val (.ref b5), .val (.ref b9), .val (.int ms0_142), .unset] [(.long m8_52)])) _
    refine XS.lloadN X12.here hx rfl (hb hby at_146) rfl  ?_
    show Steps p.tables e below (T12.setTop (mkF m 147 #[.val (.int p0), .val (.long p1), .second, .val (.int p2), .val (.long p3), .second, .val (.int p4), .val (.int v7_4), .val (.long m8_52), .second, .val (.int v10_58), .val (.int m11_103), .val (.ref b5), .val (.ref b9), .val (.int ms0_142), .unset] [(.long p1), (.long m8_52)])) _
    refine X12.ldc2Long hx hown (mvT hZ (hw _ (List.mem_of_getElem? (i := 17) rfl))) (g := (mkF m 147 #[.val (.int p0), .val (.long p1), .second, .val (.int p2), .val (.long p3), .second, .val (.int p4), .val (.int v7_4), .val (.long m8_52), .second, .val (.int v10_58), .val (.int m11_103), .val (.ref b5), .val (.ref b9), .val (.int ms0_142), .unset] [(.long p1), (.long m8_52)])) rfl (hb hby at_147) _ ?_
    show Steps p.tables e below (T12.setTop (mkF m 150 #[.val (.int p0), .val (.long p1), .second, .val (.int p2), .val (.long p3), .second, .val (.int p4), .val (.int v7_4), .val (.long m8_52), .second, .val (.int v10_58), .val (.int m11_103), .val (.ref b5), .val (.ref b9), .val (.int ms0_142), .unset] [(.long (-1 : Int64)), (.long p1), (.long m8_52)])) _
    refine XS.lxor X12.here hx rfl (hb hby at_150) rfl ?_
    show Steps p.tables e below (T12.setTop (mkF m 151 #[.val (.int p0), .val (.long p1), .second, .val (.int p2), .val (.long p3), .second, .val (.int p4), .val (.int v7_4), .val (.long m8_52), .second, .val (.int v10_58), .val (.int m11_103), .val (.ref b5), .val (.ref b9), .val (.int ms0_142), .unset] [(.long (p1 ^^^ (-1 : Int64))), (.long m8_52)])) _
    refine XS.land X12.here hx rfl (hb hby at_151) rfl ?_
    show Steps p.tables e below (T12.setTop (mkF m 152 #[.val (.int p0), .val (.long p1), .second, .val (.int p2), .val (.long p3), .second, .val (.int p4), .val (.int v7_4), .val (.long m8_52), .second, .val (.int v10_58), .val (.int m11_103), .val (.ref b5), .val (.ref b9), .val (.int ms0_142), .unset] [(.long (m8_52 &&& (p1 ^^^ (-1 : Int64))))])) _
    refine XS.lconst X12.here hx rfl (hb hby at_152) ?_
    show Steps p.tables e below (T12.setTop (mkF m 153 #[.val (.int p0), .val (.long p1), .second, .val (.int p2), .val (.long p3), .second, .val (.int p4), .val (.int v7_4), .val (.long m8_52), .second, .val (.int v10_58), .val (.int m11_103), .val (.ref b5), .val (.ref b9), .val (.int ms0_142), .unset] [(.long (0 : Int64)), (.long (m8_52 &&& (p1 ^^^ (-1 : Int64))))])) _
    refine XS.lcmp X12.here hx rfl (hb hby at_153) rfl ?_
    exact k
  obtain ⟨ms0_162, hms0_162⟩ : ∃ z : Int32, z = (if (m8_52 &&& (p1 ^^^ (-1 : Int64))) = (0 : Int64) then (1 : Int32) else (0 : Int32)) := ⟨_, rfl⟩
  have pre17 : ∀ t, Steps p.tables e below (T12.setTop (mkF m 162 #[.val (.int p0), .val (.long p1), .second, .val (.int p2), .val (.long p3), .second, .val (.int p4), .val (.int v7_4), .val (.long m8_52), .second, .val (.int v10_58), .val (.int m11_103), .val (.ref b5), .val (.ref b9), .val (.int ms0_142), .unset] [(.int ms0_162)])) t → Steps p.tables e below (s₁.setTop (entryFrame m #[(.int p0), (.long p1), (.int p2), (.long p3), (.int p4)] maxLocals)) t := by
    intro t k
    refine pre16 t ?_
    by_cases hc154 : (m8_52 &&& (p1 ^^^ (-1 : Int64))) = (0 : Int64)
    · show Steps p.tables e below (T12.setTop (mkF m 154 #[.val (.int p0), .val (.long p1), .second, .val (.int p2), .val (.long p3), .second, .val (.int p4), .val (.int v7_4), .val (.long m8_52), .second, .val (.int v10_58), .val (.int m11_103), .val (.ref b5), .val (.ref b9), .val (.int ms0_142), .unset] [(.int (lcmpW (m8_52 &&& (p1 ^^^ (-1 : Int64))) (0 : Int64)))])) _
      refine XS.ifNo X12.here hx rfl (hb hby at_154) rfl ((if0 _ _).trans (teq ((lw_eq _ _).mpr hc154)).2) ?_
      show Steps p.tables e below (T12.setTop (mkF m 157 #[.val (.int p0), .val (.long p1), .second, .val (.int p2), .val (.long p3), .second, .val (.int p4), .val (.int v7_4), .val (.long m8_52), .second, .val (.int v10_58), .val (.int m11_103), .val (.ref b5), .val (.ref b9), .val (.int ms0_142), .unset] [])) _
      refine XS.iconst X12.here hx rfl (hb hby at_157) ?_
      show Steps p.tables e below (T12.setTop (mkF m 158 #[.val (.int p0), .val (.long p1), .second, .val (.int p2), .val (.long p3), .second, .val (.int p4), .val (.int v7_4), .val (.long m8_52), .second, .val (.int v10_58), .val (.int m11_103), .val (.ref b5), .val (.ref b9), .val (.int ms0_142), .unset] [(.int (1 : Int32))])) _
      refine XS.goto X12.here hx rfl (pc0 := 158) (pc' := 162) rfl (hb hby at_158) (by decide) (by decide) ?_
      have qms0_162 : ms0_162 = (1 : Int32) := by rw [hms0_162, if_pos hc154]
      rw [qms0_162] at k
      exact k
    · show Steps p.tables e below (T12.setTop (mkF m 154 #[.val (.int p0), .val (.long p1), .second, .val (.int p2), .val (.long p3), .second, .val (.int p4), .val (.int v7_4), .val (.long m8_52), .second, .val (.int v10_58), .val (.int m11_103), .val (.ref b5), .val (.ref b9), .val (.int ms0_142), .unset] [(.int (lcmpW (m8_52 &&& (p1 ^^^ (-1 : Int64))) (0 : Int64)))])) _
      refine XS.ifYes X12.here hx rfl (pc0 := 154) (pc' := 161) rfl (hb hby at_154) rfl ((if0 _ _).trans (feq (fun q => hc154 ((lw_eq _ _).mp q))).2) (by decide) (by decide) ?_
      show Steps p.tables e below (T12.setTop (mkF m 161 #[.val (.int p0), .val (.long p1), .second, .val (.int p2), .val (.long p3), .second, .val (.int p4), .val (.int v7_4), .val (.long m8_52), .second, .val (.int v10_58), .val (.int m11_103), .val (.ref b5), .val (.ref b9), .val (.int ms0_142), .unset] [])) _
      refine XS.iconst X12.here hx rfl (hb hby at_161) ?_
      have qms0_162 : ms0_162 = (0 : Int32) := by rw [hms0_162, if_neg hc154]
      rw [qms0_162] at k
      exact k
  have pre19 : ∀ t, Steps p.tables e below (T12.setTop (mkF m 168 #[.val (.int p0), .val (.long p1), .second, .val (.int p2), .val (.long p3), .second, .val (.int p4), .val (.int v7_4), .val (.long m8_52), .second, .val (.int v10_58), .val (.int m11_103), .val (.ref b5), .val (.ref b9), .val (.int ms0_142), .val (.int ms0_162)] [(.ref b9), (.ref b5)])) t → Steps p.tables e below (s₁.setTop (entryFrame m #[(.int p0), (.long p1), (.int p2), (.long p3), (.int p4)] maxLocals)) t := by
    intro t k
    refine pre17 t ?_
    show Steps p.tables e below (T12.setTop (mkF m 162 #[.val (.int p0), .val (.long p1), .second, .val (.int p2), .val (.long p3), .second, .val (.int p4), .val (.int v7_4), .val (.long m8_52), .second, .val (.int v10_58), .val (.int m11_103), .val (.ref b5), .val (.ref b9), .val (.int ms0_142), .unset] [(.int ms0_162)])) _
    refine XS.istore X12.here hx rfl (hb hby at_162) rfl (l' := #[.val (.int p0), .val (.long p1), .second, .val (.int p2), .val (.long p3), .second, .val (.int p4), .val (.int v7_4), .val (.long m8_52), .second, .val (.int v10_58), .val (.int m11_103), .val (.ref b5), .val (.ref b9), .val (.int ms0_142), .val (.int ms0_162)]) rfl ?_
    show Steps p.tables e below (T12.setTop (mkF m 164 #[.val (.int p0), .val (.long p1), .second, .val (.int p2), .val (.long p3), .second, .val (.int p4), .val (.int v7_4), .val (.long m8_52), .second, .val (.int v10_58), .val (.int m11_103), .val (.ref b5), .val (.ref b9), .val (.int ms0_142), .val (.int ms0_162)] [])) _
    refine XS.aload X12.here hx rfl (hb hby at_164) rfl rfl ?_
    show Steps p.tables e below (T12.setTop (mkF m 166 #[.val (.int p0), .val (.long p1), .second, .val (.int p2), .val (.long p3), .second, .val (.int p4), .val (.int v7_4), .val (.long m8_52), .second, .val (.int v10_58), .val (.int m11_103), .val (.ref b5), .val (.ref b9), .val (.int ms0_142), .val (.int ms0_162)] [(.ref b5)])) _
    refine XS.aload X12.here hx rfl (hb hby at_166) rfl rfl ?_
    exact k
  obtain ⟨cq18, kq18, q18a, q18b, q18c⟩ := isOf hZ e12 exa_b5_10
  obtain ⟨_, _, ⟨T18, L18, k18, n18⟩, -, X18, ⟨Lc18, hQ18, l18, y18, z18⟩, st18⟩ := X12.virtualBack hx (y := (⟨"com/example/sibyl/sibyl/kernel/Label", "dominates", "(Lcom/example/sibyl/sibyl/kernel/Label;)Z"⟩ : MethodName)) (z := (⟨"com/example/sibyl/sibyl/kernel/Label", "dominates", "(Lcom/example/sibyl/sibyl/kernel/Label;)Z"⟩ : MethodName)) hown (mvT hZ (hw _ (List.mem_of_getElem? (i := 18) rfl))) (mvT hZ (hw _ (List.mem_of_getElem? (i := 19) rfl))) (notFace_of_selects (args := #[]) (mvT hZ (hw _ (List.mem_of_getElem? (i := 21) rfl)))) (mvT hZ (hw _ (List.mem_of_getElem? (i := 21) rfl))) (mvT hZ (hw _ (List.mem_of_getElem? (i := 20) rfl))) (by decide) (backOf (W := 0) (rm_4 l Z a0 hw [] b5 b9 p0 p1 m11_103 m8_52 T10.heap n0 Z10 fld_b5_level_10 fld_b5_categories_10 Q10_1 Q10_2) hZ (hw _ (List.mem_of_getElem? (i := 22) rfl)) (hw _ (List.mem_of_getElem? (i := 2) rfl)) (by decide) (by decide)) q18a q18c (g := (mkF m 168 #[.val (.int p0), .val (.long p1), .second, .val (.int p2), .val (.long p3), .second, .val (.int p4), .val (.int v7_4), .val (.long m8_52), .second, .val (.int v10_58), .val (.int m11_103), .val (.ref b5), .val (.ref b9), .val (.int ms0_142), .val (.int ms0_162)] [(.ref b9), (.ref b5)])) rfl (by rw [hml]; rfl) (Steps.refl _) (argsL := [(.ref b9)]) (rest := []) (lenOf pd_2 rfl) rfl (by show 2 * 0 + _ ≤ _; exact Nat.le_of_eq rfl) (hb hby at_168) (fun _ _ => ⟨rfl, e12, (by decide : 2 + 0 ≤ _), (by decide : 4 + 0 ≤ _)⟩)
  dsimp only [Pt.U, Pt.locs, Pt.cells, Pt.slots] at X18 l18 y18 z18 st18 hQ18
  subst l18 y18 z18
  obtain ⟨rfl, N18q, e18⟩ := hQ18
  have N18 := Fr.app N12 N18q
  have pre20 : ∀ t, Steps p.tables e below (T18.setTop (mkF m 173 #[.val (.int p0), .val (.long p1), .second, .val (.int p2), .val (.long p3), .second, .val (.int p4), .val (.int v7_4), .val (.long m8_52), .second, .val (.int v10_58), .val (.int m11_103), .val (.ref b5), .val (.ref b9), .val (.int ms0_142), .val (.int ms0_162)] [(.int ms0_142), (.int (f_4 p0 p1 m11_103 m8_52))])) t → Steps p.tables e below (s₁.setTop (entryFrame m #[(.int p0), (.long p1), (.int p2), (.long p3), (.int p4)] maxLocals)) t := by
    intro t k
    refine pre19 t ?_
    show Steps p.tables e below (T12.setTop (mkF m 168 #[.val (.int p0), .val (.long p1), .second, .val (.int p2), .val (.long p3), .second, .val (.int p4), .val (.int v7_4), .val (.long m8_52), .second, .val (.int v10_58), .val (.int m11_103), .val (.ref b5), .val (.ref b9), .val (.int ms0_142), .val (.int ms0_162)] [(.ref b9), (.ref b5)])) _
    refine st18.trans ?_
    show Steps p.tables e below (T18.setTop (mkF m 171 #[.val (.int p0), .val (.long p1), .second, .val (.int p2), .val (.long p3), .second, .val (.int p4), .val (.int v7_4), .val (.long m8_52), .second, .val (.int v10_58), .val (.int m11_103), .val (.ref b5), .val (.ref b9), .val (.int ms0_142), .val (.int ms0_162)] [(.int (f_4 p0 p1 m11_103 m8_52))])) _
    refine XS.iload X18.here hx rfl (hb hby at_171) rfl  ?_
    exact k
  obtain ⟨ms0_186, hms0_186⟩ : ∃ z : Int32, z = (if ms0_142 = (0 : Int32) then (0 : Int32) else (if ms0_162 = (0 : Int32) then (0 : Int32) else (1 : Int32))) := ⟨_, rfl⟩
  have pre21 : ∀ t, Steps p.tables e below (T18.setTop (mkF m 186 #[.val (.int p0), .val (.long p1), .second, .val (.int p2), .val (.long p3), .second, .val (.int p4), .val (.int v7_4), .val (.long m8_52), .second, .val (.int v10_58), .val (.int m11_103), .val (.ref b5), .val (.ref b9), .val (.int ms0_142), .val (.int ms0_162)] [(.int ms0_186), (.int (f_4 p0 p1 m11_103 m8_52))])) t → Steps p.tables e below (s₁.setTop (entryFrame m #[(.int p0), (.long p1), (.int p2), (.long p3), (.int p4)] maxLocals)) t := by
    intro t k
    refine pre20 t ?_
    by_cases hc173 : ms0_142 = (0 : Int32)
    · show Steps p.tables e below (T18.setTop (mkF m 173 #[.val (.int p0), .val (.long p1), .second, .val (.int p2), .val (.long p3), .second, .val (.int p4), .val (.int v7_4), .val (.long m8_52), .second, .val (.int v10_58), .val (.int m11_103), .val (.ref b5), .val (.ref b9), .val (.int ms0_142), .val (.int ms0_162)] [(.int ms0_142), (.int (f_4 p0 p1 m11_103 m8_52))])) _
      refine XS.ifYes X18.here hx rfl (pc0 := 173) (pc' := 185) rfl (hb hby at_173) rfl ((if0 _ _).trans (teq hc173).1) (by decide) (by decide) ?_
      show Steps p.tables e below (T18.setTop (mkF m 185 #[.val (.int p0), .val (.long p1), .second, .val (.int p2), .val (.long p3), .second, .val (.int p4), .val (.int v7_4), .val (.long m8_52), .second, .val (.int v10_58), .val (.int m11_103), .val (.ref b5), .val (.ref b9), .val (.int ms0_142), .val (.int ms0_162)] [(.int (f_4 p0 p1 m11_103 m8_52))])) _
      refine XS.iconst X18.here hx rfl (hb hby at_185) ?_
      have qms0_186 : ms0_186 = (0 : Int32) := by rw [hms0_186, if_pos hc173]
      rw [qms0_186] at k
      exact k
    · show Steps p.tables e below (T18.setTop (mkF m 173 #[.val (.int p0), .val (.long p1), .second, .val (.int p2), .val (.long p3), .second, .val (.int p4), .val (.int v7_4), .val (.long m8_52), .second, .val (.int v10_58), .val (.int m11_103), .val (.ref b5), .val (.ref b9), .val (.int ms0_142), .val (.int ms0_162)] [(.int ms0_142), (.int (f_4 p0 p1 m11_103 m8_52))])) _
      refine XS.ifNo X18.here hx rfl (hb hby at_173) rfl ((if0 _ _).trans (feq hc173).1) ?_
      show Steps p.tables e below (T18.setTop (mkF m 176 #[.val (.int p0), .val (.long p1), .second, .val (.int p2), .val (.long p3), .second, .val (.int p4), .val (.int v7_4), .val (.long m8_52), .second, .val (.int v10_58), .val (.int m11_103), .val (.ref b5), .val (.ref b9), .val (.int ms0_142), .val (.int ms0_162)] [(.int (f_4 p0 p1 m11_103 m8_52))])) _
      refine XS.iload X18.here hx rfl (hb hby at_176) rfl  ?_
      by_cases hc178 : ms0_162 = (0 : Int32)
      · show Steps p.tables e below (T18.setTop (mkF m 178 #[.val (.int p0), .val (.long p1), .second, .val (.int p2), .val (.long p3), .second, .val (.int p4), .val (.int v7_4), .val (.long m8_52), .second, .val (.int v10_58), .val (.int m11_103), .val (.ref b5), .val (.ref b9), .val (.int ms0_142), .val (.int ms0_162)] [(.int ms0_162), (.int (f_4 p0 p1 m11_103 m8_52))])) _
        refine XS.ifYes X18.here hx rfl (pc0 := 178) (pc' := 185) rfl (hb hby at_178) rfl ((if0 _ _).trans (teq hc178).1) (by decide) (by decide) ?_
        show Steps p.tables e below (T18.setTop (mkF m 185 #[.val (.int p0), .val (.long p1), .second, .val (.int p2), .val (.long p3), .second, .val (.int p4), .val (.int v7_4), .val (.long m8_52), .second, .val (.int v10_58), .val (.int m11_103), .val (.ref b5), .val (.ref b9), .val (.int ms0_142), .val (.int ms0_162)] [(.int (f_4 p0 p1 m11_103 m8_52))])) _
        refine XS.iconst X18.here hx rfl (hb hby at_185) ?_
        have qms0_186 : ms0_186 = (0 : Int32) := by rw [hms0_186, if_neg hc173, if_pos hc178]
        rw [qms0_186] at k
        exact k
      · show Steps p.tables e below (T18.setTop (mkF m 178 #[.val (.int p0), .val (.long p1), .second, .val (.int p2), .val (.long p3), .second, .val (.int p4), .val (.int v7_4), .val (.long m8_52), .second, .val (.int v10_58), .val (.int m11_103), .val (.ref b5), .val (.ref b9), .val (.int ms0_142), .val (.int ms0_162)] [(.int ms0_162), (.int (f_4 p0 p1 m11_103 m8_52))])) _
        refine XS.ifNo X18.here hx rfl (hb hby at_178) rfl ((if0 _ _).trans (feq hc178).1) ?_
        show Steps p.tables e below (T18.setTop (mkF m 181 #[.val (.int p0), .val (.long p1), .second, .val (.int p2), .val (.long p3), .second, .val (.int p4), .val (.int v7_4), .val (.long m8_52), .second, .val (.int v10_58), .val (.int m11_103), .val (.ref b5), .val (.ref b9), .val (.int ms0_142), .val (.int ms0_162)] [(.int (f_4 p0 p1 m11_103 m8_52))])) _
        refine XS.iconst X18.here hx rfl (hb hby at_181) ?_
        show Steps p.tables e below (T18.setTop (mkF m 182 #[.val (.int p0), .val (.long p1), .second, .val (.int p2), .val (.long p3), .second, .val (.int p4), .val (.int v7_4), .val (.long m8_52), .second, .val (.int v10_58), .val (.int m11_103), .val (.ref b5), .val (.ref b9), .val (.int ms0_142), .val (.int ms0_162)] [(.int (1 : Int32)), (.int (f_4 p0 p1 m11_103 m8_52))])) _
        refine XS.goto X18.here hx rfl (pc0 := 182) (pc' := 186) rfl (hb hby at_182) (by decide) (by decide) ?_
        have qms0_186 : ms0_186 = (1 : Int32) := by rw [hms0_186, if_neg hc173, if_neg hc178]
        rw [qms0_186] at k
        exact k
  obtain ⟨ms0_194, hms0_194⟩ : ∃ z : Int32, z = (if (f_4 p0 p1 m11_103 m8_52) = ms0_186 then (1 : Int32) else (0 : Int32)) := ⟨_, rfl⟩
  have pre22 : ∀ t, Steps p.tables e below (T18.setTop (mkF m 194 #[.val (.int p0), .val (.long p1), .second, .val (.int p2), .val (.long p3), .second, .val (.int p4), .val (.int v7_4), .val (.long m8_52), .second, .val (.int v10_58), .val (.int m11_103), .val (.ref b5), .val (.ref b9), .val (.int ms0_142), .val (.int ms0_162)] [(.int ms0_194)])) t → Steps p.tables e below (s₁.setTop (entryFrame m #[(.int p0), (.long p1), (.int p2), (.long p3), (.int p4)] maxLocals)) t := by
    intro t k
    refine pre21 t ?_
    by_cases hc186 : (f_4 p0 p1 m11_103 m8_52) = ms0_186
    · show Steps p.tables e below (T18.setTop (mkF m 186 #[.val (.int p0), .val (.long p1), .second, .val (.int p2), .val (.long p3), .second, .val (.int p4), .val (.int v7_4), .val (.long m8_52), .second, .val (.int v10_58), .val (.int m11_103), .val (.ref b5), .val (.ref b9), .val (.int ms0_142), .val (.int ms0_162)] [(.int ms0_186), (.int (f_4 p0 p1 m11_103 m8_52))])) _
      refine XS.icmpNo X18.here hx rfl (hb hby at_186) rfl (teq hc186).2 ?_
      show Steps p.tables e below (T18.setTop (mkF m 189 #[.val (.int p0), .val (.long p1), .second, .val (.int p2), .val (.long p3), .second, .val (.int p4), .val (.int v7_4), .val (.long m8_52), .second, .val (.int v10_58), .val (.int m11_103), .val (.ref b5), .val (.ref b9), .val (.int ms0_142), .val (.int ms0_162)] [])) _
      refine XS.iconst X18.here hx rfl (hb hby at_189) ?_
      show Steps p.tables e below (T18.setTop (mkF m 190 #[.val (.int p0), .val (.long p1), .second, .val (.int p2), .val (.long p3), .second, .val (.int p4), .val (.int v7_4), .val (.long m8_52), .second, .val (.int v10_58), .val (.int m11_103), .val (.ref b5), .val (.ref b9), .val (.int ms0_142), .val (.int ms0_162)] [(.int (1 : Int32))])) _
      refine XS.goto X18.here hx rfl (pc0 := 190) (pc' := 194) rfl (hb hby at_190) (by decide) (by decide) ?_
      have qms0_194 : ms0_194 = (1 : Int32) := by rw [hms0_194, if_pos hc186]
      rw [qms0_194] at k
      exact k
    · show Steps p.tables e below (T18.setTop (mkF m 186 #[.val (.int p0), .val (.long p1), .second, .val (.int p2), .val (.long p3), .second, .val (.int p4), .val (.int v7_4), .val (.long m8_52), .second, .val (.int v10_58), .val (.int m11_103), .val (.ref b5), .val (.ref b9), .val (.int ms0_142), .val (.int ms0_162)] [(.int ms0_186), (.int (f_4 p0 p1 m11_103 m8_52))])) _
      refine XS.icmpYes X18.here hx rfl (pc0 := 186) (pc' := 193) rfl (hb hby at_186) rfl (feq hc186).2 (by decide) (by decide) ?_
      show Steps p.tables e below (T18.setTop (mkF m 193 #[.val (.int p0), .val (.long p1), .second, .val (.int p2), .val (.long p3), .second, .val (.int p4), .val (.int v7_4), .val (.long m8_52), .second, .val (.int v10_58), .val (.int m11_103), .val (.ref b5), .val (.ref b9), .val (.int ms0_142), .val (.int ms0_162)] [])) _
      refine XS.iconst X18.here hx rfl (hb hby at_193) ?_
      have qms0_194 : ms0_194 = (0 : Int32) := by rw [hms0_194, if_neg hc186]
      rw [qms0_194] at k
      exact k
  have hnar : nar .boolean ms0_194 = ms0_194 := by rw [hms0_194]; (repeat' split) <;> rfl
  obtain ⟨fs, hr, hrun, hended, hW, hsame⟩ := X18.leave (v := some (.int ms0_194)) (fun h => by rw [Bd.returns] at h; cases h)
  refine ⟨_, _, pre22 _ ?_, hrun, hended, _, _, rfl, ?_, ⟨_, rfl⟩, hW, hsame.mono (by decide) (by decide)⟩
  · show Steps p.tables e below (T18.setTop (mkF m 194 #[.val (.int p0), .val (.long p1), .second, .val (.int p2), .val (.long p3), .second, .val (.int p4), .val (.int v7_4), .val (.long m8_52), .second, .val (.int v10_58), .val (.int m11_103), .val (.ref b5), .val (.ref b9), .val (.int ms0_142), .val (.int ms0_162)] [(.int ms0_194)])) _
    exact retN X18 hx (t := .boolean) Bd.returns (by simp) (hb hby at_194) (by rw [hnar]; exact hr)
  · show Q_0 Z p0 p1 p2 p3 p4 h0 n0 _ T18.heap _
    rw [e18]
    exact ⟨congrArg (fun z => some (Value.int z)) (by subst hv7_4 hm8_52 hv10_58 hm11_103 hms0_142 hms0_162 hms0_186 hms0_194; rfl : ms0_194 = f_0 p0 p1 p2 p3 p4), N18, trivial⟩
theorem own_sub (x y : Int64) : (y &&& (x ^^^ (-1 : Int64))) = 0 ↔ (x &&& y) = y := by
  rw [← Int64.toBitVec_inj, ← Int64.toBitVec_inj]
  show (y.toBitVec &&& (x.toBitVec ^^^ (-1 : Int64).toBitVec)) = 0#64 ↔ (x.toBitVec &&& y.toBitVec) = y.toBitVec
  rw [show (-1 : Int64).toBitVec = BitVec.allOnes 64 by decide]
  generalize x.toBitVec = a
  generalize y.toBitVec = b
  constructor
  · intro h
    apply BitVec.eq_of_getLsbD_eq
    intro i hi
    have q := congrArg (fun z => z.getLsbD i) h
    simp only [BitVec.getLsbD_and, BitVec.getLsbD_xor, BitVec.getLsbD_allOnes, BitVec.getLsbD_zero] at q ⊢
    cases ha : a.getLsbD i <;> cases hb : b.getLsbD i <;> simp_all
  · intro h
    apply BitVec.eq_of_getLsbD_eq
    intro i hi
    have q := congrArg (fun z => z.getLsbD i) h
    simp only [BitVec.getLsbD_and, BitVec.getLsbD_xor, BitVec.getLsbD_allOnes, BitVec.getLsbD_zero] at q ⊢
    cases ha : a.getLsbD i <;> cases hb : b.getLsbD i <;> simp_all
theorem own_eq (l l2 : Int32) (c c2 : Int64) : (if (f_4 l c l2 c2) = (if (if (f_3 l l2) = l then (1 : Int32) else (0 : Int32)) = (0 : Int32) then (0 : Int32) else (if (if (c2 &&& (c ^^^ (-1 : Int64))) = (0 : Int64) then (1 : Int32) else (0 : Int32)) = (0 : Int32) then (0 : Int32) else (1 : Int32))) then (1 : Int32) else (0 : Int32)) = 1 := by
  have s := own_sub c c2
  simp only [f_3, f_4, s]
  by_cases h : l < l2
  · have h' : ¬ l2 = l := by rintro rfl; rw [Int32.lt_iff_toInt_lt] at h; omega
    simp [h, h']
  · by_cases k : (c &&& c2) = c2 <;> simp [h, k]
theorem own_law (p0 : Int32) (p1 : Int64) (p2 : Int32) (p3 : Int64) (p4 : Int32) : f_0 p0 p1 p2 p3 p4 = 1 := own_eq _ _ _ _
set_option maxRecDepth 65536 in
set_option maxHeartbeats 40000000 in
theorem comes_1 {Post : Tables → Env → Array Value → State → Outcome → State → Prop} (hpost : ∀ tb e args s v u, (limb_1_1.after args s (.returned v) u = true ∧ limb_1_2.after args s (.returned v) u = true ∧ True) → FrameEnd s (.returned v) u (Jvm.fieldLocs frame_1_writes args s ++ Jvm.arrayLocs frame_1_arrays args s ++ Jvm.staticLocs frame_1_statics s) 16 128 → Post tb e args s (.returned v) u) :
    ArmFor flags0 classFile x code maxLocals ret World_1 tables_1 room_1 Calls_1 rest_1 Pre_1 Post := by
  intro l hfl _ _ p e ha hc hk s m args below hf hA hF happ hP
  obtain ⟨hcalls, hrest, hpre⟩ := hP
  obtain ⟨-, -, -, hnamed, -, -, -, hat⟩ := (Spec.applies_iff hf).mp happ
  obtain ⟨hg, hn⟩ := and_e (Cond.before_iff.mp (show (Jvm.Cond.and given_1 narrow_1).before args s = true from hpre))
  obtain ⟨g0, gt0⟩ := and_e hg
  obtain ⟨ga0, gt1⟩ := and_e gt0
  obtain ⟨ga1, gt2⟩ := and_e gt1
  obtain ⟨ga2, gt3⟩ := and_e gt2
  obtain ⟨ga3, gt4⟩ := and_e gt3
  obtain ⟨w0, w1, w2, w3, w4, rfl⟩ : ∃ w0 w1 w2 w3 w4 : Value, args = #[w0, w1, w2, w3, w4] := by
    have hs : args.size = 5 := by simpa [Cond.value, given_1] using g0
    obtain ⟨L⟩ := args
    match L, hs with
    | [w0, w1, w2, w3, w4], _ => exact ⟨w0, w1, w2, w3, w4, rfl⟩
  have hw := fun d (hd : d ∈ tables_1) => atoms_spec (ws := Jvm.Cond.code x code maxLocals ret :: tables_1) hat d (List.mem_cons_of_mem _ hd)
  have hfit : Fit s := fun {y c} hc i hi => by
    obtain ⟨ha, rfl⟩ := Array.getElem?_eq_some_iff.mp hc
    have q := List.all_eq_true.mp ((Array.all_eq_true_iff_forall_mem.mp hF) _ (Array.getElem_mem ha)) i (List.mem_range.mpr hi)
    simpa [Array.getElem?_eq_getElem hi] using q
  obtain ⟨i0, ei0⟩ := is_v ga0
  obtain rfl : w0 = (.int i0) := Option.some.inj ei0
  obtain ⟨i1, ei1⟩ := isL_v ga1
  obtain rfl : w1 = (.long i1) := Option.some.inj ei1
  obtain ⟨i2, ei2⟩ := is_v ga2
  obtain rfl : w2 = (.int i2) := Option.some.inj ei2
  obtain ⟨i3, ei3⟩ := isL_v ga3
  obtain rfl : w3 = (.long i3) := Option.some.inj ei3
  obtain ⟨i4, ei4⟩ := is_v gt4
  obtain rfl : w4 = (.int i4) := Option.some.inj ei4
  obtain ⟨n, o, h1, h2, h3, _, L, rfl, ⟨rfl, N⟩, hq⟩ := rm_0 l s _ hw tables_1 i0 i1 i2 i3 i4  s.heap s.heap.size (Nat.le_refl _)  p e ha hc hk s m _ below hf ((Spec.applies_iff_loose hf).mp happ).1 ⟨rfl, State.Warmed39.refl s, rfl⟩ trivial
  refine ⟨n, _, h1, h2, h3, hpost _ _ _ _ _ _ ⟨Cond.after_iff.mpr rfl, Cond.after_iff.mpr (eq_i res_at (Term.int_eval (1)) (congrArg Value.int (own_law _ _ _ _ _))), trivial⟩ ⟨hq.1, hq.2.1, (hq.2.2.sift fun y hy => Or.inr (N.1 y hy)).mono (by decide) (by decide)⟩⟩
theorem main_1_1 : Claimed_1_1 := comes_1 fun _ _ _ _ _ _ h hF => ⟨h.1, hF⟩
theorem main_1_2 : Claimed_1_2 := comes_1 fun _ _ _ _ _ _ h hF => ⟨h.2.1, hF⟩
end Jvm.Pilot.@@N@@
namespace Jvm.Pilot.@@N@@
open Jvm Jvm.ClassFile Sem Op Lib Jvm.Free Jvm.Stand Jvm.Pilot.@@N@@.Jvm.D
/-! MADE BY PROGRAM (witnessworld.py) out of the Statement's table words and the real class files: 10 classes; the members and pool entries that the words name. The judged class is class 1, her method 1. -/
namespace start1
open Jvm.ClassFile
def u (s : String) : CpInfo := .utf8 (stringToUtf16 s)
/-- a pool by its gaps: so many unusable entries, then the entry; so many at the end -/
def gap : Nat → List CpInfo → List CpInfo
  | 0, r => r
  | n + 1, r => .unusable :: gap n r
def poolList (es : List (Nat × CpInfo)) (last : Nat) : List CpInfo := es.foldr (fun e r => gap e.1 (e.2 :: r)) (gap last [])
def pool (es : List (Nat × CpInfo)) (last : Nat) : Array CpInfo := ⟨poolList es last⟩
def fileOf (pool : Array CpInfo) (this : Nat) (attrs : Array Attribute := #[]) (ms : Array MethodInfo := #[]) (fl : Nat := 33) (sup : Nat := 0) (ifs : Array Nat := #[]) (fds : Array FieldInfo := #[]) : ClassFile where
  minorVersion := 0
  majorVersion := 65
  constantPool := pool
  accessFlags := fl
  thisClass := this
  superClass := sup
  interfaces := ifs
  fields := fds
  methods := ms
  attributes := attrs
def plain (name : String) (sup : Option ClassId) : Class where
  name := name
  kind := .ordinary
  loader := none
  accessFlags := 33
  super := sup
  interfaces := #[]
  cf := none
  fields := #[]
  methods := #[]
  instanceTypes := #[]
  staticTypes := #[]
  resolved := #[]
  callSites := []
  init := .initialized
  statics := none
  mirror := none

def pool0 : Array CpInfo := pool [(5, u "<init>"), (0, u "()V"), (1, .class_ 10), (1, u "java/lang/Object")] 113

def k0c0 : Code := { maxStack := 0, maxLocals := 1, code := object_method_1_code, exceptionTable := #[], attributes := #[] }
def k0m0 : Method := { name := "<init>", desc := "()V", sig := { parameters := [], returnType := none }, accessFlags := 1, code := some k0c0 }
/-- java/lang/Object -/
def k0 : Class := { plain "java/lang/Object" none with
  accessFlags := 33
  interfaces := #[]
  cf := some (fileOf pool0 8 #[] #[{ accessFlags := 1, nameIndex := 5, descriptorIndex := 6, attributes := #[] }] 33 0 #[] #[])
  fields := #[]
  methods := #[k0m0]
  instanceTypes := #[]
  staticTypes := #[]
  resolved := Array.replicate 124 none
  statics := none }

def pool1 : Array CpInfo := pool [(2, .class_ 4), (1, u "java/lang/Object"), (0, u "<init>"), (0, u "()V"), (0, .class_ 8), (0, u "com/example/sibyl/sibyl/kernel/Label"), (0, .methodref 7 10), (0, .nameAndType 5 11), (0, u "(IJ)V"), (0, .methodref 13 14), (0, .class_ 15), (0, .nameAndType 16 17), (0, u "java/lang/Math"), (0, u "max"), (0, u "(II)I"), (0, .long 18446744073709551615), (1, .methodref 7 21), (0, .nameAndType 22 23), (0, u "dominates"), (0, u "(Lcom/example/sibyl/sibyl/kernel/Label;)Z"), (0, .class_ 25), (0, u "com/example/sibyl/sibyl/kernel/LabelDominatesPinLaw"), (2, u "law"), (0, u "(IJIJI)Z")] 3

def k1m0 : Method := { name := "<init>", desc := "()V", sig := { parameters := [], returnType := none }, accessFlags := 1, code := none }
def k1c1 : Code := { maxStack := 6, maxLocals := 16, code := code, exceptionTable := #[], attributes := #[] }
def k1m1 : Method := { name := "law", desc := "(IJIJI)Z", sig := { parameters := [.int, .long, .int, .long, .int], returnType := some .boolean }, accessFlags := 9, code := some k1c1 }
/-- com/example/sibyl/sibyl/kernel/LabelDominatesPinLaw -/
def k1 : Class := { plain "com/example/sibyl/sibyl/kernel/LabelDominatesPinLaw" (some 0) with
  accessFlags := 49
  interfaces := #[]
  cf := some (fileOf pool1 24 #[] #[{ accessFlags := 1, nameIndex := 5, descriptorIndex := 6, attributes := #[] }, { accessFlags := 9, nameIndex := 28, descriptorIndex := 29, attributes := #[] }] 49 2 #[] #[])
  fields := #[]
  methods := #[k1m0, k1m1]
  instanceTypes := #[]
  staticTypes := #[]
  resolved := Array.replicate 33 none
  statics := none }

def pool2 : Array CpInfo := pool [(1, .methodref 2 3), (0, .class_ 4), (0, .nameAndType 5 6), (0, u "java/lang/Object"), (0, u "<init>"), (0, u "()V"), (0, .fieldref 8 9), (0, .class_ 10), (0, .nameAndType 11 12), (0, u "com/example/sibyl/sibyl/kernel/Label"), (0, u "level"), (0, u "I"), (0, .fieldref 8 14), (0, .nameAndType 15 16), (0, u "categories"), (0, u "J"), (14, u "(IJ)V"), (5, u "dominates"), (0, u "(Lcom/example/sibyl/sibyl/kernel/Label;)Z")] 11

def k2c0 : Code := { maxStack := 3, maxLocals := 4, code := prog_13_method_1_code, exceptionTable := #[], attributes := #[] }
def k2m0 : Method := { name := "<init>", desc := "(IJ)V", sig := { parameters := [.int, .long], returnType := none }, accessFlags := 0, code := some k2c0 }
def k2c1 : Code := { maxStack := 4, maxLocals := 2, code := prog_13_method_2_code, exceptionTable := #[], attributes := #[] }
def k2m1 : Method := { name := "dominates", desc := "(Lcom/example/sibyl/sibyl/kernel/Label;)Z", sig := { parameters := [(.object "com/example/sibyl/sibyl/kernel/Label")], returnType := some .boolean }, accessFlags := 1, code := some k2c1 }
/-- com/example/sibyl/sibyl/kernel/Label -/
def k2 : Class := { plain "com/example/sibyl/sibyl/kernel/Label" (some 0) with
  accessFlags := 49
  interfaces := #[]
  cf := some (fileOf pool2 8 #[] #[{ accessFlags := 0, nameIndex := 5, descriptorIndex := 31, attributes := #[] }, { accessFlags := 1, nameIndex := 37, descriptorIndex := 38, attributes := #[] }] 49 2 #[] #[{ accessFlags := 18, nameIndex := 11, descriptorIndex := 12, attributes := #[] }, { accessFlags := 18, nameIndex := 15, descriptorIndex := 16, attributes := #[] }])
  fields := #[{ name := "level", type := .int, accessFlags := 18, slot := 0, constantValue := 0 }, { name := "categories", type := .long, accessFlags := 18, slot := 1, constantValue := 0 }]
  methods := #[k2m0, k2m1]
  instanceTypes := #[.int, .long]
  staticTypes := #[]
  resolved := Array.replicate 50 none
  statics := none }

def pool3 : Array CpInfo := pool [(1, .class_ 2), (0, u "java/lang/Math"), (1, .class_ 6), (1, u "java/lang/Object"), (0, u "<init>"), (0, u "()V"), (89, .class_ 100), (1, u "java/lang/Math$RandomNumberGeneratorHolder"), (71, u "negativeZeroFloatBits"), (0, u "J"), (2, u "negativeZeroDoubleBits"), (21, u "max"), (46, u "$assertionsDisabled"), (0, u "Z"), (88, u "(II)I"), (2, u "twoToTheDoubleScaleDown"), (0, u "D"), (4, u "twoToTheDoubleScaleUp"), (9, u "E"), (3, u "PI"), (2, u "TAU"), (2, u "DEGREES_TO_RADIANS"), (0, u "RADIANS_TO_DEGREES")] 94

def k3m0 : Method := { name := "<init>", desc := "()V", sig := { parameters := [], returnType := none }, accessFlags := 2, code := none }
def k3c1 : Code := { maxStack := 2, maxLocals := 2, code := jdk_29_method_65_code, exceptionTable := #[], attributes := #[] }
def k3m1 : Method := { name := "max", desc := "(II)I", sig := { parameters := [.int, .int], returnType := some .int }, accessFlags := 9, code := some k3c1 }
/-- java/lang/Math -/
def k3 : Class := { plain "java/lang/Math" (some 0) with
  accessFlags := 49
  interfaces := #[]
  cf := some (fileOf pool3 1 #[.nestMembers #[98]] #[{ accessFlags := 2, nameIndex := 7, descriptorIndex := 8, attributes := #[] }, { accessFlags := 9, nameIndex := 198, descriptorIndex := 335, attributes := #[] }] 49 4 #[] #[{ accessFlags := 25, nameIndex := 354, descriptorIndex := 339, attributes := #[] }, { accessFlags := 25, nameIndex := 358, descriptorIndex := 339, attributes := #[] }, { accessFlags := 25, nameIndex := 361, descriptorIndex := 339, attributes := #[] }, { accessFlags := 26, nameIndex := 364, descriptorIndex := 339, attributes := #[] }, { accessFlags := 26, nameIndex := 365, descriptorIndex := 339, attributes := #[] }, { accessFlags := 26, nameIndex := 172, descriptorIndex := 173, attributes := #[] }, { accessFlags := 26, nameIndex := 176, descriptorIndex := 173, attributes := #[] }, { accessFlags := 8, nameIndex := 344, descriptorIndex := 339, attributes := #[] }, { accessFlags := 8, nameIndex := 338, descriptorIndex := 339, attributes := #[] }, { accessFlags := 4120, nameIndex := 245, descriptorIndex := 246, attributes := #[] }])
  fields := #[{ name := "E", type := .double, accessFlags := 25, slot := 0, constantValue := 0 }, { name := "PI", type := .double, accessFlags := 25, slot := 1, constantValue := 0 }, { name := "TAU", type := .double, accessFlags := 25, slot := 2, constantValue := 0 }, { name := "DEGREES_TO_RADIANS", type := .double, accessFlags := 26, slot := 3, constantValue := 0 }, { name := "RADIANS_TO_DEGREES", type := .double, accessFlags := 26, slot := 4, constantValue := 0 }, { name := "negativeZeroFloatBits", type := .long, accessFlags := 26, slot := 5, constantValue := 0 }, { name := "negativeZeroDoubleBits", type := .long, accessFlags := 26, slot := 6, constantValue := 0 }, { name := "twoToTheDoubleScaleUp", type := .double, accessFlags := 8, slot := 7, constantValue := 0 }, { name := "twoToTheDoubleScaleDown", type := .double, accessFlags := 8, slot := 8, constantValue := 0 }, { name := "$assertionsDisabled", type := .boolean, accessFlags := 4120, slot := 9, constantValue := 0 }]
  methods := #[k3m0, k3m1]
  instanceTypes := #[]
  staticTypes := #[.double, .double, .double, .double, .double, .long, .long, .double, .double, .boolean]
  resolved := Array.replicate 460 none
  statics := none }

def pool4 : Array CpInfo := pool [(1, u "java/lang/Cloneable"), (0, .class_ 1), (0, u "java/lang/Object"), (0, .class_ 3)] 3

/-- java/lang/Cloneable -/
def k4 : Class := { plain "java/lang/Cloneable" (some 0) with
  accessFlags := 1537
  interfaces := #[]
  cf := some (fileOf pool4 2 #[] #[] 1537 4 #[] #[])
  fields := #[]
  methods := #[]
  instanceTypes := #[]
  staticTypes := #[]
  resolved := Array.replicate 8 none
  statics := none }

def pool5 : Array CpInfo := pool [(1, u "java/io/Serializable"), (0, .class_ 1), (0, u "java/lang/Object"), (0, .class_ 3)] 3

/-- java/io/Serializable -/
def k5 : Class := { plain "java/io/Serializable" (some 0) with
  accessFlags := 1537
  interfaces := #[]
  cf := some (fileOf pool5 2 #[] #[] 1537 4 #[] #[])
  fields := #[]
  methods := #[]
  instanceTypes := #[]
  staticTypes := #[]
  resolved := Array.replicate 8 none
  statics := none }

/-- the primitive byte -/
def k6 : Class := { plain "byte" none with kind := .primitive 'B', accessFlags := 0x411 }
/-- [B -/
def k7 : Class := { plain "[B" (some 0) with kind := .array 6 .byte, interfaces := #[4, 5], accessFlags := 1041 }

/-- the primitive int -/
def k8 : Class := { plain "int" none with kind := .primitive 'I', accessFlags := 0x411 }
/-- [I -/
def k9 : Class := { plain "[I" (some 0) with kind := .array 8 .int, interfaces := #[4, 5], accessFlags := 1041 }

def heap : Heap := #[]
def classes : Array Class := #[k0, k1, k2, k3, k4, k5, k6, k7, k8, k9]
def interned : List (Array UInt16 × Addr) := []
def slotsUsed : Nat := 0
def theMethod : MethodId := ⟨1, 1⟩
def args0 : Array Value := #[.int 5, .long 7, .int 9, .long 3, .int 2]
def aboutOver (below : List Frame) : State where
  vm := { classes := classes, interned := interned.toArray }
  heap := heap
  slotsUsed := slotsUsed
  threads := #[{ frames := .invoking theMethod args0 :: below }]
def below0 : List Frame := [.native { method := ⟨0, 0⟩, args := #[] }]
def about1 : State := aboutOver below0
def p0 : Program := .bare "" "" ""
def e0 : Env := launch0.env 0 0 0
theorem w_frames : about1.frames = Frame.invoking theMethod args0 :: below0 := rfl
set_option maxRecDepth 65536 in
theorem w_args : argsFit about1.vm theMethod args0 = true := by decide +kernel
set_option maxRecDepth 65536 in
theorem w_heap : heapFits about1 = true := by decide +kernel
set_option maxRecDepth 65536 in
theorem w_runnable : about1.curStatus? = some .runnable := by decide +kernel
set_option maxRecDepth 65536 in
theorem w_alone : about1.alone = true := by decide +kernel
set_option maxRecDepth 65536 in
theorem w_named : about1.methodNamed? x = some theMethod := by decide +kernel
set_option maxRecDepth 65536 in
theorem w_hears : about1.hears theMethod below0 = true := by decide +kernel
set_option maxRecDepth 65536 in
theorem w_ripe : about1.ripe theMethod args0 below0 = true := by decide +kernel
theorem w_running : about1.status = .running := rfl
set_option maxRecDepth 65536 in
theorem w_room : about1.hasRoom e0.platform room_1 = true :=
  launch0.hasRoom_least _ room_1 (by decide +kernel) (by decide +kernel) (by decide +kernel) (by decide +kernel) (by decide +kernel) (by decide +kernel)
theorem allAtoms_all (ts : List Jvm.Cond) (a : Array Jvm.Value) (st : Jvm.State) : (allAtoms ts).before a st = ts.all (fun c => c.before a st) := by
  induction ts with
  | nil => rfl
  | cons c t ih =>
    show (Jvm.Cond.and c (allAtoms t)).before a st = _
    rw [Jvm.Cond.before_and, ih, List.all_cons]
def words1 : List Jvm.Cond := Jvm.Cond.code x code maxLocals ret :: tables_1
/-- a 'code' word, met by the world's own term for the bytes: nothing is compared byte by byte -/
theorem code_word {y : MethodName} {bytes : ByteArray} {mx : Nat} {rt : Option FieldType} {a : Array Value} {s : State} {m : MethodId} {meth : Method} {c : Code} (h1 : s.methodNamed? y = some m) (h2 : s.vm.method? m = some meth) (h3 : meth.code = some c) (h4 : c.code = bytes)
    (h5 : (c.maxLocals == mx && c.exceptionTable.isEmpty && decide (c.maxStack ≤ mostOperands) && decide (meth.sig.returnType = rt) && !meth.locks && decide (parseMethodDescriptor y.desc = some meth.sig)) = true) : (Jvm.Cond.code y bytes mx rt).before a s = true := by
  simp only [Bool.and_eq_true, beq_iff_eq, Bool.not_eq_true', decide_eq_true_eq] at h5
  obtain ⟨⟨⟨⟨⟨g1, g2⟩, g3⟩, g4⟩, g5⟩, g6⟩ := h5
  simp [Cond.before, Cond.holds, Cond.value, h1, h2, h3, h4, g1, g2, g3, g4, g5, g6]
def isCode : Jvm.Cond → Bool
  | .code _ _ _ _ => true
  | _ => false
theorem all_split {L : List Jvm.Cond} {P : Jvm.Cond → Bool} (h1 : L.all (fun c => isCode c || P c) = true) (h2 : ∀ c ∈ L.filter isCode, P c = true) : L.all P = true := by
  refine List.all_eq_true.mpr fun c hc => ?_
  have h := List.all_eq_true.mp h1 c hc
  rcases Bool.eq_false_or_eq_true (isCode c) with hi | hi
  · exact h2 c (List.mem_filter.mpr ⟨hc, hi⟩)
  · simpa [hi] using h
set_option maxRecDepth 65536 in
theorem w_c0 : (Jvm.Cond.code x code maxLocals ret).before args0 about1 = true := code_word (m := ⟨1, 1⟩) (meth := k1m1) (c := k1c1) (by decide +kernel) rfl rfl rfl (by decide +kernel)
set_option maxRecDepth 65536 in
theorem w_c1 : (Jvm.Cond.code ({ cls := "com/example/sibyl/sibyl/kernel/Label", name := "<init>", desc := "(IJ)V" } : Jvm.MethodName) prog_13_method_1_code (4 : Nat) (Option.none : Option Jvm.ClassFile.FieldType)).before args0 about1 = true := code_word (m := ⟨2, 0⟩) (meth := k2m0) (c := k2c0) (by decide +kernel) rfl rfl rfl (by decide +kernel)
set_option maxRecDepth 65536 in
theorem w_c2 : (Jvm.Cond.code ({ cls := "java/lang/Object", name := "<init>", desc := "()V" } : Jvm.MethodName) object_method_1_code (1 : Nat) (Option.none : Option Jvm.ClassFile.FieldType)).before args0 about1 = true := code_word (m := ⟨0, 0⟩) (meth := k0m0) (c := k0c0) (by decide +kernel) rfl rfl rfl (by decide +kernel)
set_option maxRecDepth 65536 in
theorem w_c3 : (Jvm.Cond.code ({ cls := "java/lang/Math", name := "max", desc := "(II)I" } : Jvm.MethodName) jdk_29_method_65_code (2 : Nat) (Option.some Jvm.ClassFile.FieldType.int)).before args0 about1 = true := code_word (m := ⟨3, 1⟩) (meth := k3m1) (c := k3c1) (by decide +kernel) rfl rfl rfl (by decide +kernel)
set_option maxRecDepth 65536 in
theorem w_c4 : (Jvm.Cond.code ({ cls := "com/example/sibyl/sibyl/kernel/Label", name := "dominates", desc := "(Lcom/example/sibyl/sibyl/kernel/Label;)Z" } : Jvm.MethodName) prog_13_method_2_code (2 : Nat) (Option.some Jvm.ClassFile.FieldType.boolean)).before args0 about1 = true := code_word (m := ⟨2, 1⟩) (meth := k2m1) (c := k2c1) (by decide +kernel) rfl rfl rfl (by decide +kernel)
def codes1 : List Jvm.Cond := [Jvm.Cond.code x code maxLocals ret, Jvm.Cond.code ({ cls := "com/example/sibyl/sibyl/kernel/Label", name := "<init>", desc := "(IJ)V" } : Jvm.MethodName) prog_13_method_1_code (4 : Nat) (Option.none : Option Jvm.ClassFile.FieldType), Jvm.Cond.code ({ cls := "java/lang/Object", name := "<init>", desc := "()V" } : Jvm.MethodName) object_method_1_code (1 : Nat) (Option.none : Option Jvm.ClassFile.FieldType), Jvm.Cond.code ({ cls := "java/lang/Math", name := "max", desc := "(II)I" } : Jvm.MethodName) jdk_29_method_65_code (2 : Nat) (Option.some Jvm.ClassFile.FieldType.int), Jvm.Cond.code ({ cls := "com/example/sibyl/sibyl/kernel/Label", name := "dominates", desc := "(Lcom/example/sibyl/sibyl/kernel/Label;)Z" } : Jvm.MethodName) prog_13_method_2_code (2 : Nat) (Option.some Jvm.ClassFile.FieldType.boolean)]
set_option maxRecDepth 65536 in
theorem codes_eq : words1.filter isCode = codes1 := rfl
theorem w_codes : ∀ c ∈ words1.filter isCode, c.before args0 about1 = true := by
  rw [codes_eq]
  intro c hc
  simp only [codes1, List.mem_cons, List.not_mem_nil, or_false] at hc
  rcases hc with rfl | rfl | rfl | rfl | rfl
  · exact w_c0
  · exact w_c1
  · exact w_c2
  · exact w_c3
  · exact w_c4
set_option maxRecDepth 65536 in
theorem w_t1 : words1.all (fun c => isCode c || c.before args0 about1) = true := by decide +kernel
theorem w_tables : (allAtoms (Jvm.Cond.code x code maxLocals ret :: tables_1)).before args0 about1 = true := by
  rw [allAtoms_all]
  show words1.all (fun c => c.before args0 about1) = true
  refine all_split ?_ w_codes
  rw [w_t1]
set_option maxRecDepth 65536 in
theorem w_case : (Jvm.Cond.and given_1 narrow_1).before args0 about1 = true := by decide +kernel
theorem w_applies : (headSpec (Jvm.Cond.code x code maxLocals ret :: tables_1) room_1).applies x e0.platform about1 = true :=
  (Spec.applies_iff w_frames).mpr ⟨w_running, w_runnable, w_alone, w_named, w_hears, w_ripe, w_room, w_tables⟩
theorem atStart : AtStart classFile x code maxLocals ret World_1 tables_1 room_1 Calls_1 rest_1 Pre_1 launch0 p0 e0 about1 theMethod args0 below0 :=
  ⟨lists_1, trivial, launch0.admits_env _ _ _, launch0.least_env, fairChoices_fair.cas, fairChoices_fair.clock, w_frames, w_args, w_heap, w_applies, trivial, trivial, w_case⟩
end start1
theorem witness_1 : WitnessClaimed_1 := ⟨start1.p0, start1.e0, start1.about1, start1.theMethod, start1.args0, start1.below0, start1.atStart⟩
end Jvm.Pilot.@@N@@
