import JvmDerived
import JvmDerived.Pilot.@@N@@Statement
import JvmDerived.Pilot.@@N@@Code
set_option linter.unusedVariables false
set_option linter.unusedSimpArgs false
namespace Jvm.RoadKit
open Sem ClassFile Op Lib Jvm.Stand Jvm.Free Jvm.LawKit
section New
variable {p : Program} {l : Launch} {e : Env} {R : Room} {s : State} {m : MethodId} {args : Array Value} {below : List Frame} {meth : Method} {c : Code} {T : State} {locs : List Loc} {cells slots : Nat}
theorem retI (X : Stand p l e R s m args below meth c T locs cells slots) (hx : p.tables.exec = Jvm.exec) {pc : Nat} {Ls : Array Slot} {z : Int32} {rest : List Value} (hret : meth.sig.returnType = some .int) (hd : decode c.code pc = .ok (.ireturn, 1)) {fs : List Frame}
    (hl : ∀ (f : JFrame) (acts : List Action), f.method = m → f.locked = none → f.entered = [] → (doReturn e (T.setTop f) acts (some (.int z))).1 = T.setFrames fs) : Steps p.tables e below (T.setTop (mkF m pc Ls (.int z :: rest))) (T.setFrames fs) := by
  have hm' : T.vm.method? m = some meth := X.method'
  have hn : narrow .int (.int z) = .int z := rfl
  show Steps p.tables e below (T.setTop { method := m, pc := pc, locals := Ls, stack := _ :: rest, locked := none }) _
  jvm_step X.here [X.here.top, hx, hd, hm', hret, hn]
  first | (intro acts; rw [hl _ acts rfl rfl rfl]) | rw [hl _ _ rfl rfl rfl]
  exact Steps.refl _
theorem own_lremM {g : JFrame} {target : State} (X : Stand p l e R s m args below meth c T locs cells slots) (hx : p.tables.exec = Jvm.exec) (hg : g.method = m) {x y : Int64} {rest : List Value} (hd : decode c.code g.pc = .ok (.lrem, 1)) (hs : g.stack = .long y :: .long x :: rest) (hy : y ≠ 0)
    (hr : Steps p.tables e below (T.setTop { g with pc := g.pc + 1, stack := .long (x % y) :: rest }) target) : Steps p.tables e below (T.setTop g) target := by
  have q : x - x / y * y = x % y := lrem_mod x y
  exact XS.lrem X.here hx hg hd hs hy (by rw [q]; exact hr)
end New
end Jvm.RoadKit
namespace Jvm.RoadKit
open Sem ClassFile Op Lib Jvm.Stand Jvm.Free Jvm.LawKit
section OwnA
variable {p : Program} {l : Launch} {e : Env} {R : Room} {s : State} {m : MethodId} {args : Array Value} {below : List Frame} {meth : Method} {c : Code} {T : State} {locs : List Loc} {cells slots : Nat} {Z : State} {a0 : Array Value} {h h' : Heap} {a b : Addr} {ty : FieldType} {n : Nat} {G : Nat → Value}
def own_upd {α : Type} (g : Nat → α) (k : Nat) (x : α) (i : Nat) : α := if i = k then x else g i
def own_zI (_ : Nat) : Int32 := 0
def own_zJ (_ : Nat) : Int64 := 0
def own_A (Z : State) (h : Heap) (a : Addr) (ty : FieldType) (n : Nat) (G : Nat → Value) : Prop := ∃ c : Cell, Arr Z h a c ty ∧ c.slots.size = n ∧ ∀ i, i < n → c.slots[i]? = some (G i) ∧ fits ty (G i) = true
theorem own_A.lt (F : own_A Z h a ty n G) : a < h.size := by obtain ⟨c, A, -⟩ := F; exact A.lt
theorem own_A.ext (F : own_A Z h a ty n G) (E : Ext h h') : own_A Z h' a ty n G := by obtain ⟨c, A, r⟩ := F; exact ⟨c, A.ext E, r⟩
theorem own_A.other {sl : Nat} {v : Value} (F : own_A Z h b ty n G) (W : Wr h h' a sl v) (q : b ≠ a) : own_A Z h' b ty n G := by obtain ⟨c, A, r⟩ := F; exact ⟨c, A.other W q, r⟩
theorem own_A.keep {ws : List Addr} (F : own_A Z h a ty n G) (K : Keep h h' ws) (q : a ∉ ws) : own_A Z h' a ty n G := by obtain ⟨c, A, r⟩ := F; exact ⟨c, ⟨K.2.1 a c A.1 q, A.2⟩, r⟩
theorem own_A.new {k : ClassId} {z : Int32} (A : Arr Z h a (newA k ty z) ty) (q : z.toNatClampNeg = n) (hG : ∀ i, G i = defaultValue ty) : own_A Z h a ty n G :=
  ⟨_, A, by rw [sz_new, q], fun i hi => ⟨by rw [hG]; rw [← q] at hi; simp [newA, hi], by rw [hG]; cases ty <;> rfl⟩⟩
theorem own_A.set {k : Nat} {v : Value} (F : own_A Z h a ty n G) (W : Wr h h' a k v) (hk : k < n) (hf : fits ty v = true) : own_A Z h' a ty n (own_upd G k v) := by
  obtain ⟨c, A, q, r⟩ := F
  refine ⟨c.setSlot k v, A.same W, by rw [sz_set, q], fun i hi => ?_⟩
  by_cases e : i = k
  · subst e
    exact ⟨by simp [Cell.setSlot, own_upd, q, hk], by simpa [own_upd] using hf⟩
  · have r1 := r i hi
    have r2 : (c.setSlot k v).slots[i]? = c.slots[i]? := Array.getElem?_setIfInBounds_ne (Ne.symm e)
    have r3 : own_upd G k v i = G i := if_neg e
    rw [r2, r3]; exact r1
theorem own_upd_int (g : Nat → Int32) (k : Nat) (x : Int32) : own_upd (fun i => Value.int (g i)) k (.int x) = fun i => Value.int (own_upd g k x i) := by funext i; unfold own_upd; split <;> rfl
theorem own_upd_long (g : Nat → Int64) (k : Nat) (x : Int64) : own_upd (fun i => Value.long (g i)) k (.long x) = fun i => Value.long (own_upd g k x i) := by funext i; unfold own_upd; split <;> rfl
theorem own_inb {c : Cell} {j : Int32} {k : Nat} (q : c.slots.size = n) (hj0 : ¬ j < 0) (hk : j.toNatClampNeg = k) (hkn : k < n) : ¬ (j < 0 ∨ c.slots.size ≤ j.toNatClampNeg) := fun y => y.elim hj0 fun z => by rw [q, hk] at z; exact absurd hkn (Nat.not_lt.mpr z)
theorem own_stI {g0 : Nat → Int32} (X : Stand p l e R s m args below meth c T locs cells slots) (hx : p.tables.exec = Jvm.exec) (hZ : Z.Warmed39 s.vm) (eT : T.heap = h) (F : own_A Z h a .int n (fun i => .int (g0 i))) {j x : Int32} {k : Nat} (hj0 : ¬ j < 0) (hk : j.toNatClampNeg = k) (hkn : k < n) {g : JFrame} (hg : g.method = m) {rest : List Value} (hs : g.stack = .int x :: .int j :: .ref a :: rest) (hd : decode c.code g.pc = .ok (.iastore, 1)) :
    ∃ T' h', Stand p l e R s m args below meth c T' (locs ++ [⟨a, j.toNatClampNeg⟩]) cells slots ∧ T'.heap = h' ∧ Wr h h' a j.toNatClampNeg (.int x) ∧ own_A Z h' a .int n (fun i => .int (own_upd g0 k x i)) ∧ ∀ target, Steps p.tables e below (T'.setTop { g with pc := g.pc + 1, stack := rest }) target → Steps p.tables e below (T.setTop g) target := by
  obtain ⟨cl, A, q, r⟩ := id F
  obtain ⟨T', h', X', e', W, st⟩ := stI X hx hZ eT A (j := j) (x := x) (own_inb q hj0 hk hkn) hg hs hd
  exact ⟨T', h', X', e', W, own_upd_int g0 k x ▸ hk ▸ F.set W (by rw [hk]; exact hkn) rfl, st⟩
theorem own_stJ {g0 : Nat → Int64} (X : Stand p l e R s m args below meth c T locs cells slots) (hx : p.tables.exec = Jvm.exec) (hZ : Z.Warmed39 s.vm) (eT : T.heap = h) (F : own_A Z h a .long n (fun i => .long (g0 i))) {j : Int32} {x : Int64} {k : Nat} (hj0 : ¬ j < 0) (hk : j.toNatClampNeg = k) (hkn : k < n) {g : JFrame} (hg : g.method = m) {rest : List Value} (hs : g.stack = .long x :: .int j :: .ref a :: rest) (hd : decode c.code g.pc = .ok (.lastore, 1)) :
    ∃ T' h', Stand p l e R s m args below meth c T' (locs ++ [⟨a, j.toNatClampNeg⟩]) cells slots ∧ T'.heap = h' ∧ Wr h h' a j.toNatClampNeg (.long x) ∧ own_A Z h' a .long n (fun i => .long (own_upd g0 k x i)) ∧ ∀ target, Steps p.tables e below (T'.setTop { g with pc := g.pc + 1, stack := rest }) target → Steps p.tables e below (T.setTop g) target := by
  obtain ⟨cl, A, q, r⟩ := id F
  obtain ⟨T', h', X', e', W, st⟩ := stJ X hx hZ eT A (j := j) (x := x) (own_inb q hj0 hk hkn) hg hs hd
  exact ⟨T', h', X', e', W, own_upd_long g0 k x ▸ hk ▸ F.set W (by rw [hk]; exact hkn) rfl, st⟩
theorem own_stB {g0 : Nat → Int32} (X : Stand p l e R s m args below meth c T locs cells slots) (hx : p.tables.exec = Jvm.exec) (hZ : Z.Warmed39 s.vm) (eT : T.heap = h) (F : own_A Z h a .byte n (fun i => .int (g0 i))) {j x : Int32} {k : Nat} (hj0 : ¬ j < 0) (hk : j.toNatClampNeg = k) (hkn : k < n) {g : JFrame} (hg : g.method = m) {rest : List Value} (hs : g.stack = .int x :: .int j :: .ref a :: rest) (hd : decode c.code g.pc = .ok (.bastore, 1)) :
    ∃ T' h', Stand p l e R s m args below meth c T' (locs ++ [⟨a, j.toNatClampNeg⟩]) cells slots ∧ T'.heap = h' ∧ Wr h h' a j.toNatClampNeg (.int x.toInt8.toInt32) ∧ own_A Z h' a .byte n (fun i => .int (own_upd g0 k x.toInt8.toInt32 i)) ∧ ∀ target, Steps p.tables e below (T'.setTop { g with pc := g.pc + 1, stack := rest }) target → Steps p.tables e below (T.setTop g) target := by
  obtain ⟨cl, A, q, r⟩ := id F
  obtain ⟨T', h', X', e', W, st⟩ := stB X hx hZ eT A (j := j) (x := x) (own_inb q hj0 hk hkn) hg hs hd
  have hfb : fits .byte (.int (nar .byte x)) = true := fits_nar_byte x
  exact ⟨T', h', X', e', W, own_upd_int g0 k _ ▸ hk ▸ F.set W (by rw [hk]; exact hkn) hfb, st⟩
theorem own_ldI {g0 : Nat → Int32} (X : Stand p l e R s m args below meth c T locs cells slots) (hx : p.tables.exec = Jvm.exec) (hZ : Z.Warmed39 s.vm) (eT : T.heap = h) (F : own_A Z h a .int n (fun i => .int (g0 i))) {j : Int32} {k : Nat} (hj0 : ¬ j < 0) (hk : j.toNatClampNeg = k) (hkn : k < n) {g : JFrame} (hg : g.method = m) {rest : List Value} (hs : g.stack = .int j :: .ref a :: rest) (hd : decode c.code g.pc = .ok (.iaload, 1)) {target : State}
    (hr : Steps p.tables e below (T.setTop { g with pc := g.pc + 1, stack := .int (g0 k) :: rest }) target) : Steps p.tables e below (T.setTop g) target := by
  obtain ⟨cl, A, q, r⟩ := F
  exact X.iaload hx (j := j) (v := .int (g0 k)) (by rw [eT]; exact A.1) (State.isArrayOf_alike hZ.alike A.2.1) A.2.2 (own_inb q hj0 hk hkn) (by rw [hk]; exact (r k hkn).1) hg hs hd _ hr
theorem own_ldJ {g0 : Nat → Int64} (X : Stand p l e R s m args below meth c T locs cells slots) (hx : p.tables.exec = Jvm.exec) (hZ : Z.Warmed39 s.vm) (eT : T.heap = h) (F : own_A Z h a .long n (fun i => .long (g0 i))) {j : Int32} {k : Nat} (hj0 : ¬ j < 0) (hk : j.toNatClampNeg = k) (hkn : k < n) {g : JFrame} (hg : g.method = m) {rest : List Value} (hs : g.stack = .int j :: .ref a :: rest) (hd : decode c.code g.pc = .ok (.laload, 1)) {target : State}
    (hr : Steps p.tables e below (T.setTop { g with pc := g.pc + 1, stack := .long (g0 k) :: rest }) target) : Steps p.tables e below (T.setTop g) target := by
  obtain ⟨cl, A, q, r⟩ := F
  exact X.laload hx (j := j) (v := .long (g0 k)) (by rw [eT]; exact A.1) (State.isArrayOf_alike hZ.alike A.2.1) A.2.2 (own_inb q hj0 hk hkn) (by rw [hk]; exact (r k hkn).1) hg hs hd _ hr
theorem own_ldB {g0 : Nat → Int32} (X : Stand p l e R s m args below meth c T locs cells slots) (hx : p.tables.exec = Jvm.exec) (hZ : Z.Warmed39 s.vm) (eT : T.heap = h) (F : own_A Z h a .byte n (fun i => .int (g0 i))) {j : Int32} {k : Nat} (hj0 : ¬ j < 0) (hk : j.toNatClampNeg = k) (hkn : k < n) {g : JFrame} (hg : g.method = m) {rest : List Value} (hs : g.stack = .int j :: .ref a :: rest) (hd : decode c.code g.pc = .ok (.baload, 1)) {target : State}
    (hr : Steps p.tables e below (T.setTop { g with pc := g.pc + 1, stack := .int (g0 k) :: rest }) target) : Steps p.tables e below (T.setTop g) target := by
  obtain ⟨cl, A, q, r⟩ := F
  exact X.baloadBytes hx (j := j) (v := .int (g0 k)) (by rw [eT]; exact A.1) (State.isArrayOf_alike hZ.alike A.2.1) A.2.2 (own_inb q hj0 hk hkn) (by rw [hk]; exact (r k hkn).1) hg hs hd _ hr
theorem own_ldR {G : Nat → Value} (X : Stand p l e R s m args below meth c T locs cells slots) (hx : p.tables.exec = Jvm.exec) (hZ : Z.Warmed39 s.vm) (eT : T.heap = h) (F : own_A Z h a ty n G) (hty : ty.isReference = true) {j : Int32} {k : Nat} {v : Value} (hv : G k = v) (hj0 : ¬ j < 0) (hk : j.toNatClampNeg = k) (hkn : k < n) {g : JFrame} (hg : g.method = m) {rest : List Value} (hs : g.stack = .int j :: .ref a :: rest) (hd : decode c.code g.pc = .ok (.aaload, 1)) {target : State}
    (hr : Steps p.tables e below (T.setTop { g with pc := g.pc + 1, stack := v :: rest }) target) : Steps p.tables e below (T.setTop g) target := by
  obtain ⟨cl, A, q, r⟩ := F
  exact X.aaload hx (j := j) (v := v) (by rw [eT]; exact A.1) (State.isArrayOf_alike hZ.alike A.2.1) hty A.2.2 (own_inb q hj0 hk hkn) (by rw [hk, ← hv]; exact (r k hkn).1) hg hs hd _ hr
theorem own_len (X : Stand p l e R s m args below meth c T locs cells slots) (hx : p.tables.exec = Jvm.exec) (hZ : Z.Warmed39 s.vm) (eT : T.heap = h) (F : own_A Z h a ty n G) {z : Int32} (hz : n.toInt32 = z) {g : JFrame} (hg : g.method = m) {rest : List Value} (hs : g.stack = .ref a :: rest) (hd : decode c.code g.pc = .ok (.arraylength, 1)) {target : State}
    (hr : Steps p.tables e below (T.setTop { g with pc := g.pc + 1, stack := .int z :: rest }) target) : Steps p.tables e below (T.setTop g) target := by
  obtain ⟨cl, A, q, r⟩ := F
  exact X.arraylength hx (by rw [eT]; exact A.1) (State.isArrayOf_alike hZ.alike A.2.1) hg hs hd _ (by rw [q, hz]; exact hr)
theorem own_newP {aty : ArrayType} (X : Stand p l e R s m args below meth c T locs cells slots) (hx : p.tables.exec = Jvm.exec) (hZ : Z.Warmed39 s.vm) (w : (Cond.arrayClass (newarray.typeOf aty)).before a0 Z = true) (eT : T.heap = h) {g : JFrame} (hg : g.method = m) (hd : decode c.code g.pc = .ok (.newarray aty, 2)) {z : Int32} {rest : List Value} (hs : g.stack = .int z :: rest)
    (hn : ¬ z < 0) (hzn : z.toNatClampNeg = n) {G : Nat → Value} (hG : ∀ i, G i = defaultValue (newarray.typeOf aty)) {cap : Nat} (hcap : n ≤ cap) (hb : cap * 8 ≤ 536870912) (hc : cells + 1 ≤ R.cells) (hl : slots + cap ≤ R.slots) :
    ∃ (T' : State) (h' : Heap) (b : Addr), b = h.size ∧ Stand p l e R s m args below meth c T' locs (cells + 1) (slots + cap) ∧ T'.heap = h' ∧ Ext h h' ∧ own_A Z h' b (newarray.typeOf aty) n G ∧
      ∀ target, Steps p.tables e below (T'.setTop { g with pc := g.pc + 2, stack := .ref b :: rest }) target → Steps p.tables e below (T.setTop g) target := by
  obtain ⟨T', h', cA, X', e', E', A', st⟩ := newP X hx hZ w eT hg hd hs hn (cap := cap) (by rw [hzn]; exact hcap) hb hc hl
  exact ⟨T', h', _, rfl, X', e', E', own_A.new A' hzn hG, st⟩
theorem own_newPE {aty : ArrayType} (X : Stand p l e R s m args below meth c T locs cells slots) (hx : p.tables.exec = Jvm.exec) (hZ : Z.Warmed39 s.vm) (w : (Cond.arrayClass (newarray.typeOf aty)).before a0 Z = true) (eT : T.heap = h) {g : JFrame} (hg : g.method = m) (hd : decode c.code g.pc = .ok (.newarray aty, 2)) {z : Int32} {rest : List Value} (hs : g.stack = .int z :: rest)
    (hn : ¬ z < 0) (hzn : z.toNatClampNeg = n) {G : Nat → Value} (hG : ∀ i, G i = defaultValue (newarray.typeOf aty)) {cap : Nat} (hcap : n ≤ cap) (hb : cap * 8 ≤ 536870912) (hc : cells + 1 ≤ R.cells) (hl : slots + cap ≤ R.slots) {ad : String} (had : "[" ++ (newarray.typeOf aty).toString = ad) :
    ∃ (T' : State) (h' : Heap) (b : Addr), b = h.size ∧ Stand p l e R s m args below meth c T' locs (cells + 1) (slots + cap) ∧ T'.heap = h' ∧ Ext h h' ∧ own_A Z h' b (newarray.typeOf aty) n G ∧ Exa Z h' b ad ∧
      ∀ target, Steps p.tables e below (T'.setTop { g with pc := g.pc + 2, stack := .ref b :: rest }) target → Steps p.tables e below (T.setTop g) target := by
  obtain ⟨T', h', cA, X', e', E', A', B', st⟩ := newPE X hx hZ w eT hg hd hs hn (cap := cap) (by rw [hzn]; exact hcap) hb hc hl had
  exact ⟨T', h', _, rfl, X', e', E', own_A.new A' hzn hG, B', st⟩
theorem own_clone (X : Stand p l e R s m args below meth c T locs cells slots) (hx : p.tables.exec = Jvm.exec) (hZ : Z.Warmed39 s.vm) {own ad : String} {index : Nat} (hown : s.vm.findClass own = some m.cls)
    (w1 : (Cond.methodLink own index ⟨ad, "clone", "()Ljava/lang/Object;"⟩).before a0 Z = true) (w2 : (Cond.sameMethod ad "java/lang/Object" "clone" "()Ljava/lang/Object;").before a0 Z = true) (w3 : (Cond.native ⟨"java/lang/Object", "clone", "()Ljava/lang/Object;"⟩).before a0 Z = true)
    (w4 : (Cond.instanceMethod ⟨"java/lang/Object", "clone", "()Ljava/lang/Object;"⟩).before a0 Z = true) (w5 : (Cond.selects ad ⟨ad, "clone", "()Ljava/lang/Object;"⟩ ⟨"java/lang/Object", "clone", "()Ljava/lang/Object;"⟩).before a0 Z = true) (w6 : (Cond.castable ad "java/lang/Cloneable").before a0 Z = true)
    (eT : T.heap = h) (F : own_A Z h a ty n G) (E : Exa Z h a ad) {g : JFrame} (hg : g.method = m) (hsize : g.locals.size = c.maxLocals) {rest : List Value} (hs : g.stack = .ref a :: rest) (hd : decode c.code g.pc = .ok (.invokevirtual index, 3))
    (hf : 1 ≤ R.frames) {W cap : Nat} (hW : 2 * g.monitorRoom + (rest.map fun v => v.category).sum ≤ W) (hl : W + 14 ≤ R.locals) (hcap : n ≤ cap) (hc : cells + 1 ≤ R.cells) (hsl : slots + cap ≤ R.slots) :
    ∃ (T' : State) (h' : Heap) (b : Addr), b = h.size ∧ Stand p l e R s m args below meth c T' locs (cells + 1) (slots + cap) ∧ T'.heap = h' ∧ Ext h h' ∧ own_A Z h' b ty n G ∧ Exa Z h' b ad ∧
      ∀ target, Steps p.tables e below (T'.setTop { g with pc := g.pc + 3, stack := .ref b :: rest }) target → Steps p.tables e below (T.setTop g) target := by
  obtain ⟨cl, A, q, r⟩ := F
  have FC : FitC Z cl := fitC_of A fun i hi v hv => by
    have r1 := r i (by rw [← q]; exact hi)
    rw [r1.1] at hv; cases hv; exact r1.2
  obtain ⟨T', h', X', e', ex, A', E', st⟩ := cloneA X hx hZ hown w1 w2 w3 w4 w5 w6 eT A E FC hg hsize hs hd hf hW hl (by rw [q]; exact hcap) hc hsl
  exact ⟨T', h', _, rfl, X', e', ex, ⟨cloneOf cl, A', q, r⟩, E', st⟩
theorem own_A.congr {G' : Nat → Value} (F : own_A Z h a ty n G) (q : ∀ i, i < n → G i = G' i) : own_A Z h a ty n G' := by
  obtain ⟨c, A, s, r⟩ := F
  exact ⟨c, A, s, fun i hi => by rw [← q i hi]; exact r i hi⟩
theorem own_A_plain (F : own_A Z h a ty n G) : ∀ c : Cell, h[a]? = some c → c.vm.isStatics = false := fun c hc => by
  obtain ⟨cl, A, -⟩ := F
  cases hc.symm.trans A.1
  exact A.plain
theorem own_E_plain {C : String} (F : Exa Z h a C) : ∀ c : Cell, h[a]? = some c → c.vm.isStatics = false := fun c hc => by
  obtain ⟨cl, k, h1, -, -, h4, -⟩ := F
  cases hc.symm.trans h1
  exact h4
theorem own_sta_keep {C f d : String} {v : Value} {ws : List Addr} (F : Sta Z h C f d v) (K : Keep h h' ws) (q : ∀ x ∈ ws, ∀ c : Cell, h[x]? = some c → c.vm.isStatics = false) : Sta Z h' C f d v := by
  obtain ⟨cf, i, k, f, st, cell, h1, h2, h3, h4, h5, h6, h7⟩ := F
  exact ⟨cf, i, k, f, st, cell, h1, h2, h3, h4, K.2.1 st cell h5 (fun z => by rw [q st z cell h5] at h6; cases h6), h6, h7⟩
end OwnA
end Jvm.RoadKit
namespace Jvm.RoadKit
open Sem ClassFile Op Lib Jvm.Stand Jvm.Free Jvm.LawKit
section OwnS
variable {Z : State} {a0 : Array Value}
theorem own_root {O K : String} {n : Nat} (w : (Cond.noSuperclass O).before a0 Z = true) (wk : (Cond.instantiable K n).before a0 Z = true) (hn : O ≠ K) : NS Z O K := by
  obtain ⟨c, k, h1, h2, h3, -, -⟩ := Cond.noSuperclass_spec w
  obtain ⟨t, k', g1, -⟩ := Cond.instantiable_spec wk
  have ne := ids_ne h1 g1 hn
  refine ⟨c, t, h1, g1, fun fuel => ?_⟩
  cases fuel with
  | zero => rfl
  | succ f => simp [Vm.isSubclassAux, ne, h2, h3]
theorem own_no {C S K : String} {n : Nat} (w : (Cond.superclass C S).before a0 Z = true) (wk : (Cond.instantiable K n).before a0 Z = true) (N : NS Z C K) (hn : C ≠ K) : ∃ c t, Z.vm.findClass C = some c ∧ Z.vm.findClass K = some t ∧ Z.vm.assignable c t = false := by
  obtain ⟨c, t, h0, g0, n3⟩ := N
  obtain ⟨p, k, kp, h1, h2, h3, h4, h5, -, h7⟩ := Cond.superclass_spec h0 w
  obtain ⟨t', k', g1, g2, g5, g7, -⟩ := Cond.instantiable_spec wk
  cases g0.symm.trans g1
  have ne := ids_ne h0 g0 hn
  have g8 : k'.isInterface = false := (Bool.or_eq_false_iff.mp g7).1
  refine ⟨c, t, h0, g0, ?_⟩
  show Z.vm.assignableAux (255 + 1) c t = false
  simp [Vm.assignableAux, ne, h2, g2, h5, g5, g8, Vm.isSubclass, n3]
end OwnS
end Jvm.RoadKit
namespace Jvm.Pilot.@@N@@
open Jvm Jvm.ClassFile Sem Op Lib Jvm.Free Jvm.Stand Jvm.LawKit Jvm.RoadKit Bundle Jvm.Pilot.@@N@@.Jvm.D
theorem d1_0 : decode jdk_29_method_66_code 0 = .ok (.lload_n 0, 1) := by decide +kernel
theorem d1_1 : decode jdk_29_method_66_code 1 = .ok (.lload_n 2, 1) := by decide +kernel
theorem d1_2 : decode jdk_29_method_66_code 2 = .ok (.lcmp, 1) := by decide +kernel
theorem d1_3 : decode jdk_29_method_66_code 3 = .ok (.ifCond .lt 7, 3) := by decide +kernel
theorem d1_6 : decode jdk_29_method_66_code 6 = .ok (.lload_n 0, 1) := by decide +kernel
theorem d1_7 : decode jdk_29_method_66_code 7 = .ok (.goto 4, 3) := by decide +kernel
theorem d1_10 : decode jdk_29_method_66_code 10 = .ok (.lload_n 2, 1) := by decide +kernel
theorem d1_11 : decode jdk_29_method_66_code 11 = .ok (.lreturn, 1) := by decide +kernel
theorem ef_1 (m : MethodId) (p0 : Int64) (p1 : Int64) : entryFrame m #[(.long p0), (.long p1)] 4 = mkF m 0 #[.val (.long p0), .second, .val (.long p1), .second] [] := by first | (simp [entryFrame, mkF, argsToLocals, Value.category]; done) | rfl
def f_1 (p0 : Int64) (p1 : Int64) : Int64 := let ms0_11 : Int64 := (if p0 < p1 then p1 else p0); ms0_11
def Q_1 (Z : State) (p0 : Int64) (p1 : Int64)  (h0 : Heap) (n0 : Nat) (v : Option Value) (h : Heap) (L : List Loc) : Prop := v = some (.long (f_1 p0 p1)) ∧ Fr n0 L ∧ h = h0
set_option maxRecDepth 65536 in
set_option maxHeartbeats 40000000 in
theorem rm_1 (l : Launch) (Z : State) (a0 : Array Value) (hw : ∀ d ∈ tables_1, d.before a0 Z = true) (ws : List Jvm.Cond) (p0 : Int64) (p1 : Int64)  (h0 : Heap) (n0 : Nat) (Z0 : n0 ≤ h0.size)  :
    MetFree l (⟨"java/lang/Math", "max", "(JJ)J"⟩ : MethodName) (head1 (Jvm.Cond.code (⟨"java/lang/Math", "max", "(JJ)J"⟩ : MethodName) jdk_29_method_66_code 4 (some .long) :: ws) ({ frames := 0, cells := 0, slots := 0, locals := 0 } : Room)) (fun a U => a = #[(.long p0), (.long p1)] ∧ Z.Warmed39 U.vm ∧ U.heap = h0) (fun _ _ _ _ _ => True) (fun _ U o U' => ∃ v L, o = .returned v ∧ Q_1 Z p0 p1 h0 n0 v U'.heap L ∧ FrameEnd U o U' L ({ frames := 0, cells := 0, slots := 0, locals := 0 } : Room).cells ({ frames := 0, cells := 0, slots := 0, locals := 0 } : Room).slots) := by
  refine MetFree.of_bodySF (Jvm.Free.JP.mathPlain rfl (by decide +kernel)) hisR ?_
  intro p e s m args below meth c s₁ Bd hml0 hP hK
  obtain ⟨rfl, hZ, hh⟩ := hP
  have hx := Bd.exec
  have hby := Bd.bytes
  have hml : c.maxLocals = 4 := hml0
  have hown : s.vm.findClass "java/lang/Math" = some m.cls := findClass_of_methodNamed Bd.named
  have hnm := (name_of_methodNamed Bd.named Bd.method).1
  have X0 : Stand p l e ({ frames := 0, cells := 0, slots := 0, locals := 0 } : Room) s m #[(.long p0), (.long p1)] below meth c s₁ [] 0 0 := Stand.of_body Bd
  have e0 : s₁.heap = h0 := by rw [← hh, Bd.state]; rfl
  have N0 := Fr.nil n0
  have K0 : Keep h0 h0 [] := Keep.refl h0 _
  have pre0 : ∀ t, Steps p.tables e below (s₁.setTop (mkF m 0 #[.val (.long p0), .second, .val (.long p1), .second] [])) t → Steps p.tables e below (s₁.setTop (entryFrame m #[(.long p0), (.long p1)] 4)) t := fun t k => castTop (ef_1 m p0 p1) k
  have pre1 : ∀ t, Steps p.tables e below (s₁.setTop (mkF m 3 #[.val (.long p0), .second, .val (.long p1), .second] [(.int (lcmpW p0 p1))])) t → Steps p.tables e below (s₁.setTop (entryFrame m #[(.long p0), (.long p1)] 4)) t := by
    intro t k
    refine pre0 t ?_
    show Steps p.tables e below (s₁.setTop (mkF m 0 #[.val (.long p0), .second, .val (.long p1), .second] [])) _
    refine XS.lloadN X0.here hx rfl (hb hby d1_0) rfl  ?_
    show Steps p.tables e below (s₁.setTop (mkF m 1 #[.val (.long p0), .second, .val (.long p1), .second] [(.long p0)])) _
    refine XS.lloadN X0.here hx rfl (hb hby d1_1) rfl  ?_
    show Steps p.tables e below (s₁.setTop (mkF m 2 #[.val (.long p0), .second, .val (.long p1), .second] [(.long p1), (.long p0)])) _
    refine XS.lcmp X0.here hx rfl (hb hby d1_2) rfl ?_
    exact k
  obtain ⟨ms0_11, hms0_11⟩ : ∃ z : Int64, z = (if p0 < p1 then p1 else p0) := ⟨_, rfl⟩
  have pre2 : ∀ t, Steps p.tables e below (s₁.setTop (mkF m 11 #[.val (.long p0), .second, .val (.long p1), .second] [(.long ms0_11)])) t → Steps p.tables e below (s₁.setTop (entryFrame m #[(.long p0), (.long p1)] 4)) t := by
    intro t k
    refine pre1 t ?_
    by_cases hc3 : p0 < p1
    · show Steps p.tables e below (s₁.setTop (mkF m 3 #[.val (.long p0), .second, .val (.long p1), .second] [(.int (lcmpW p0 p1))])) _
      refine XS.ifYes X0.here hx rfl (pc0 := 3) (pc' := 10) rfl (hb hby d1_3) rfl ((if0 _ _).trans (tlt ((lw_lt _ _).mpr hc3)).1) (by decide) (by decide) ?_
      show Steps p.tables e below (s₁.setTop (mkF m 10 #[.val (.long p0), .second, .val (.long p1), .second] [])) _
      refine XS.lloadN X0.here hx rfl (hb hby d1_10) rfl  ?_
      have qms0_11 : ms0_11 = p1 := by rw [hms0_11, if_pos hc3]
      rw [qms0_11] at k
      exact k
    · show Steps p.tables e below (s₁.setTop (mkF m 3 #[.val (.long p0), .second, .val (.long p1), .second] [(.int (lcmpW p0 p1))])) _
      refine XS.ifNo X0.here hx rfl (hb hby d1_3) rfl ((if0 _ _).trans (flt (fun q => hc3 ((lw_lt _ _).mp q))).1) ?_
      show Steps p.tables e below (s₁.setTop (mkF m 6 #[.val (.long p0), .second, .val (.long p1), .second] [])) _
      refine XS.lloadN X0.here hx rfl (hb hby d1_6) rfl  ?_
      show Steps p.tables e below (s₁.setTop (mkF m 7 #[.val (.long p0), .second, .val (.long p1), .second] [(.long p0)])) _
      refine XS.goto X0.here hx rfl (pc0 := 7) (pc' := 11) rfl (hb hby d1_7) (by decide) (by decide) ?_
      have qms0_11 : ms0_11 = p0 := by rw [hms0_11, if_neg hc3]
      rw [qms0_11] at k
      exact k
  obtain ⟨fs, hr, hrun, hended, hW, hsame⟩ := X0.leave (v := some (.long ms0_11)) (fun h => by rw [Bd.returns] at h; cases h)
  refine ⟨_, _, pre2 _ ?_, hrun, hended, _, _, rfl, ?_, ⟨_, rfl⟩, hW, hsame.mono (by decide) (by decide)⟩
  · show Steps p.tables e below (s₁.setTop (mkF m 11 #[.val (.long p0), .second, .val (.long p1), .second] [(.long ms0_11)])) _
    exact retOut X0 hx Bd.returns rfl (Or.inr (Or.inl ⟨rfl, rfl, _, rfl⟩)) (hb hby d1_11) hr
  · show Q_1 Z p0 p1 h0 n0 _ s₁.heap _
    rw [e0]
    exact ⟨congrArg (fun z => some (Value.long z)) (by subst hms0_11; rfl : ms0_11 = f_1 p0 p1), N0, rfl⟩
theorem d2_0 : decode prog_13_method_1_code 0 = .ok (.aload_n 0, 1) := by decide +kernel
theorem d2_1 : decode prog_13_method_1_code 1 = .ok (.invokespecial 1, 3) := by decide +kernel
theorem d2_4 : decode prog_13_method_1_code 4 = .ok (.aload_n 0, 1) := by decide +kernel
theorem d2_5 : decode prog_13_method_1_code 5 = .ok (.iload_n 1, 1) := by decide +kernel
theorem d2_6 : decode prog_13_method_1_code 6 = .ok (.putfield 7, 3) := by decide +kernel
theorem d2_9 : decode prog_13_method_1_code 9 = .ok (.aload_n 0, 1) := by decide +kernel
theorem d2_10 : decode prog_13_method_1_code 10 = .ok (.lload_n 2, 1) := by decide +kernel
theorem d2_11 : decode prog_13_method_1_code 11 = .ok (.putfield 13, 3) := by decide +kernel
theorem d2_14 : decode prog_13_method_1_code 14 = .ok (.return_, 1) := by decide +kernel
theorem pn_2 : plainName "com/example/sibyl/sibyl/kernel/Label" = true := by first | (simp [plainName, overriddenIn]; done) | decide +kernel
theorem ef_2 (m : MethodId) (p0 : Addr) (p1 : Int32) (p2 : Int64) : entryFrame m #[(.ref p0), (.int p1), (.long p2)] 4 = mkF m 0 #[.val (.ref p0), .val (.int p1), .val (.long p2), .second] [] := by first | (simp [entryFrame, mkF, argsToLocals, Value.category]; done) | rfl
def Q_2 (Z : State) (p0 : Addr) (p1 : Int32) (p2 : Int64)  (h0 : Heap) (n0 : Nat) (v : Option Value) (h : Heap) (L : List Loc) : Prop := v = none ∧ Fr n0 L ∧ Keep h0 h [p0] ∧ Exa Z h p0 "com/example/sibyl/sibyl/kernel/Label" ∧ Fld Z h p0 "com/example/sibyl/sibyl/kernel/Label" "level" "I" (.int p1) ∧ Fld Z h p0 "com/example/sibyl/sibyl/kernel/Label" "categories" "J" (.long p2)
set_option maxRecDepth 65536 in
set_option maxHeartbeats 40000000 in
theorem rm_2 (l : Launch) (Z : State) (a0 : Array Value) (hw : ∀ d ∈ tables_1, d.before a0 Z = true) (ws : List Jvm.Cond) (p0 : Addr) (p1 : Int32) (p2 : Int64)  (h0 : Heap) (n0 : Nat) (Z0 : n0 ≤ h0.size) (E_p0 : Exa Z h0 p0 "com/example/sibyl/sibyl/kernel/Label") (F_p0_level : Fld Z h0 p0 "com/example/sibyl/sibyl/kernel/Label" "level" "I" (.int (0 : Int32))) (F_p0_categories : Fld Z h0 p0 "com/example/sibyl/sibyl/kernel/Label" "categories" "J" (.long (0 : Int64))) (ge_p0 : n0 ≤ p0) :
    MetFree l (⟨"com/example/sibyl/sibyl/kernel/Label", "<init>", "(IJ)V"⟩ : MethodName) (head1 (Jvm.Cond.code (⟨"com/example/sibyl/sibyl/kernel/Label", "<init>", "(IJ)V"⟩ : MethodName) prog_13_method_1_code 4 none :: ws) ({ frames := 1, cells := 0, slots := 0, locals := 12 } : Room)) (fun a U => a = #[(.ref p0), (.int p1), (.long p2)] ∧ Z.Warmed39 U.vm ∧ U.heap = h0) (fun _ _ _ _ _ => True) (fun _ U o U' => ∃ v L, o = .returned v ∧ Q_2 Z p0 p1 p2 h0 n0 v U'.heap L ∧ FrameEnd U o U' L ({ frames := 1, cells := 0, slots := 0, locals := 12 } : Room).cells ({ frames := 1, cells := 0, slots := 0, locals := 12 } : Room).slots) := by
  refine MetFree.of_bodySF (plainFor_of_name pn_2) hisR ?_
  intro p e s m args below meth c s₁ Bd hml0 hP hK
  obtain ⟨rfl, hZ, hh⟩ := hP
  have hx := Bd.exec
  have hby := Bd.bytes
  have hml : c.maxLocals = 4 := hml0
  have hown : s.vm.findClass "com/example/sibyl/sibyl/kernel/Label" = some m.cls := findClass_of_methodNamed Bd.named
  have hnm := (name_of_methodNamed Bd.named Bd.method).1
  have X0 : Stand p l e ({ frames := 1, cells := 0, slots := 0, locals := 12 } : Room) s m #[(.ref p0), (.int p1), (.long p2)] below meth c s₁ [] 0 0 := Stand.of_body Bd
  have e0 : s₁.heap = h0 := by rw [← hh, Bd.state]; rfl
  have N0 := Fr.nil n0
  have K0 : Keep h0 h0 [p0] := Keep.refl h0 _
  have pre0 : ∀ t, Steps p.tables e below (s₁.setTop (mkF m 0 #[.val (.ref p0), .val (.int p1), .val (.long p2), .second] [])) t → Steps p.tables e below (s₁.setTop (entryFrame m #[(.ref p0), (.int p1), (.long p2)] 4)) t := fun t k => castTop (ef_2 m p0 p1 p2) k
  have pre1 : ∀ t, Steps p.tables e below (s₁.setTop (mkF m 1 #[.val (.ref p0), .val (.int p1), .val (.long p2), .second] [(.ref p0)])) t → Steps p.tables e below (s₁.setTop (entryFrame m #[(.ref p0), (.int p1), (.long p2)] 4)) t := by
    intro t k
    refine pre0 t ?_
    show Steps p.tables e below (s₁.setTop (mkF m 0 #[.val (.ref p0), .val (.int p1), .val (.long p2), .second] [])) _
    refine XS.aloadN X0.here hx rfl (hb hby d2_0) rfl rfl ?_
    exact k
  obtain ⟨T2, X2, e2, st2⟩ := initO X0 hx hZ hown (hw _ (List.mem_of_getElem? (i := 11) rfl)) (hw _ (List.mem_of_getElem? (i := 12) rfl)) (hw _ (List.mem_of_getElem? (i := 13) rfl)) e0 (g := (mkF m 1 #[.val (.ref p0), .val (.int p1), .val (.long p2), .second] [(.ref p0)])) rfl (by rw [hml]; rfl) rfl (hb hby d2_1) (by decide) (W := 0) (by show 2 * 0 + _ ≤ _; exact Nat.le_of_eq rfl) (by decide)
  have pre3 : ∀ t, Steps p.tables e below (T2.setTop (mkF m 6 #[.val (.ref p0), .val (.int p1), .val (.long p2), .second] [(.int p1), (.ref p0)])) t → Steps p.tables e below (s₁.setTop (entryFrame m #[(.ref p0), (.int p1), (.long p2)] 4)) t := by
    intro t k
    refine pre1 t ?_
    show Steps p.tables e below (s₁.setTop (mkF m 1 #[.val (.ref p0), .val (.int p1), .val (.long p2), .second] [(.ref p0)])) _
    refine st2 _ ?_
    show Steps p.tables e below (T2.setTop (mkF m 4 #[.val (.ref p0), .val (.int p1), .val (.long p2), .second] [])) _
    refine XS.aloadN X2.here hx rfl (hb hby d2_4) rfl rfl ?_
    show Steps p.tables e below (T2.setTop (mkF m 5 #[.val (.ref p0), .val (.int p1), .val (.long p2), .second] [(.ref p0)])) _
    refine XS.iloadN X2.here hx rfl (hb hby d2_5) rfl  ?_
    exact k
  obtain ⟨T4, h4, X4, e4, W4, st4⟩ := putF X2 hx hZ hown (host := "") (Or.inl (hw _ (List.mem_of_getElem? (i := 14) rfl))) Via.refl e2 F_p0_level E_p0 (Or.inr ⟨(hw _ (List.mem_of_getElem? (i := 15) rfl)), rfl, hnm⟩) (hw _ (List.mem_of_getElem? (i := 6) rfl)) (ty := .int) (by decide) rfl rfl (g := (mkF m 6 #[.val (.ref p0), .val (.int p1), .val (.long p2), .second] [(.int p1), (.ref p0)])) rfl rfl (hb hby d2_6)
  have Fw4 := F_p0_level.same W4
  have exa_p0_4 := E_p0.wr W4
  have fld_p0_categories_4 := F_p0_categories.other W4 (Or.inr (slot_ne (Or.inr (hw _ (List.mem_of_getElem? (i := 17) rfl))) (Or.inr (hw _ (List.mem_of_getElem? (i := 15) rfl))) (by decide) (t := .long) (t' := .int) (by decide) (by decide)))
  have K4 := K0.wr W4 (Or.inl (List.mem_of_getElem? (i := 0) rfl))
  have Z4 := Nat.le_trans Z0 (Nat.le_of_eq W4.size.symm)
  have N4 := Fr.snoc X4 N0 ge_p0
  have pre5 : ∀ t, Steps p.tables e below (T4.setTop (mkF m 11 #[.val (.ref p0), .val (.int p1), .val (.long p2), .second] [(.long p2), (.ref p0)])) t → Steps p.tables e below (s₁.setTop (entryFrame m #[(.ref p0), (.int p1), (.long p2)] 4)) t := by
    intro t k
    refine pre3 t ?_
    show Steps p.tables e below (T2.setTop (mkF m 6 #[.val (.ref p0), .val (.int p1), .val (.long p2), .second] [(.int p1), (.ref p0)])) _
    refine st4 _ ?_
    show Steps p.tables e below (T4.setTop (mkF m 9 #[.val (.ref p0), .val (.int p1), .val (.long p2), .second] [])) _
    refine XS.aloadN X4.here hx rfl (hb hby d2_9) rfl rfl ?_
    show Steps p.tables e below (T4.setTop (mkF m 10 #[.val (.ref p0), .val (.int p1), .val (.long p2), .second] [(.ref p0)])) _
    refine XS.lloadN X4.here hx rfl (hb hby d2_10) rfl  ?_
    exact k
  obtain ⟨T6, h6, X6, e6, W6, st6⟩ := putF X4 hx hZ hown (host := "") (Or.inl (hw _ (List.mem_of_getElem? (i := 16) rfl))) Via.refl e4 fld_p0_categories_4 exa_p0_4 (Or.inr ⟨(hw _ (List.mem_of_getElem? (i := 17) rfl)), rfl, hnm⟩) (hw _ (List.mem_of_getElem? (i := 6) rfl)) (ty := .long) (by decide) rfl rfl (g := (mkF m 11 #[.val (.ref p0), .val (.int p1), .val (.long p2), .second] [(.long p2), (.ref p0)])) rfl rfl (hb hby d2_11)
  have Fw6 := fld_p0_categories_4.same W6
  have exa_p0_6 := exa_p0_4.wr W6
  have fld_p0_level_6 := Fw4.other W6 (Or.inr (slot_ne (Or.inr (hw _ (List.mem_of_getElem? (i := 15) rfl))) (Or.inr (hw _ (List.mem_of_getElem? (i := 17) rfl))) (by decide) (t := .int) (t' := .long) (by decide) (by decide)))
  have K6 := K4.wr W6 (Or.inl (List.mem_of_getElem? (i := 0) rfl))
  have Z6 := Nat.le_trans Z4 (Nat.le_of_eq W6.size.symm)
  have N6 := Fr.snoc X6 N4 ge_p0
  obtain ⟨fs, hr, hrun, hended, hW, hsame⟩ := X6.leave (v := none) (fun _ => rfl)
  refine ⟨_, _, pre5 _ ?_, hrun, hended, _, _, rfl, ?_, ⟨_, rfl⟩, hW, hsame.mono (by decide) (by decide)⟩
  · show Steps p.tables e below (T4.setTop (mkF m 11 #[.val (.ref p0), .val (.int p1), .val (.long p2), .second] [(.long p2), (.ref p0)])) _
    refine st6 _ ?_
    show Steps p.tables e below (T6.setTop (mkF m 14 #[.val (.ref p0), .val (.int p1), .val (.long p2), .second] [])) _
    exact X6.returnOut hx Bd.returns (hb hby d2_14) hr
  · show Q_2 Z p0 p1 p2 h0 n0 _ T6.heap _
    rw [e6]
    exact ⟨rfl, N6, K6, exa_p0_6, fld_p0_level_6, Fw6⟩
theorem d4_0 : decode prog_18_method_1_code 0 = .ok (.aload_n 0, 1) := by decide +kernel
theorem d4_1 : decode prog_18_method_1_code 1 = .ok (.invokespecial 1, 3) := by decide +kernel
theorem d4_4 : decode prog_18_method_1_code 4 = .ok (.lload_n 2, 1) := by decide +kernel
theorem d4_5 : decode prog_18_method_1_code 5 = .ok (.lconst 1, 1) := by decide +kernel
theorem d4_6 : decode prog_18_method_1_code 6 = .ok (.lcmp, 1) := by decide +kernel
theorem d4_7 : decode prog_18_method_1_code 7 = .ok (.ifCond .ge 17, 3) := by decide +kernel
theorem d4_24 : decode prog_18_method_1_code 24 = .ok (.aload_n 0, 1) := by decide +kernel
theorem d4_25 : decode prog_18_method_1_code 25 = .ok (.aload_n 1, 1) := by decide +kernel
theorem d4_26 : decode prog_18_method_1_code 26 = .ok (.putfield 16, 3) := by decide +kernel
theorem d4_29 : decode prog_18_method_1_code 29 = .ok (.aload_n 0, 1) := by decide +kernel
theorem d4_30 : decode prog_18_method_1_code 30 = .ok (.lload_n 2, 1) := by decide +kernel
theorem d4_31 : decode prog_18_method_1_code 31 = .ok (.putfield 22, 3) := by decide +kernel
theorem d4_34 : decode prog_18_method_1_code 34 = .ok (.return_, 1) := by decide +kernel
theorem pn_4 : plainName "com/example/sibyl/sibyl/kernel/ObjectId" = true := by first | (simp [plainName, overriddenIn]; done) | decide +kernel
theorem ef_4 (m : MethodId) (p0 : Addr) (p1 : Addr) (p2 : Int64) : entryFrame m #[(.ref p0), (.ref p1), (.long p2)] 4 = mkF m 0 #[.val (.ref p0), .val (.ref p1), .val (.long p2), .second] [] := by first | (simp [entryFrame, mkF, argsToLocals, Value.category]; done) | rfl
def Q_4 (Z : State) (p0 : Addr) (p1 : Addr) (p2 : Int64)  (h0 : Heap) (n0 : Nat) (v : Option Value) (h : Heap) (L : List Loc) : Prop := v = none ∧ Fr n0 L ∧ Keep h0 h [p0] ∧ Exa Z h p0 "com/example/sibyl/sibyl/kernel/ObjectId" ∧ Fld Z h p0 "com/example/sibyl/sibyl/kernel/ObjectId" "creator" "Lcom/example/sibyl/sibyl/kernel/Label;" (.ref p1) ∧ Fld Z h p0 "com/example/sibyl/sibyl/kernel/ObjectId" "count" "J" (.long p2)
set_option maxRecDepth 65536 in
set_option maxHeartbeats 40000000 in
theorem rm_4 (l : Launch) (Z : State) (a0 : Array Value) (hw : ∀ d ∈ tables_1, d.before a0 Z = true) (ws : List Jvm.Cond) (p0 : Addr) (p1 : Addr) (p2 : Int64)  (h0 : Heap) (n0 : Nat) (Z0 : n0 ≤ h0.size) (E_p0 : Exa Z h0 p0 "com/example/sibyl/sibyl/kernel/ObjectId") (F_p0_creator : Fld Z h0 p0 "com/example/sibyl/sibyl/kernel/ObjectId" "creator" "Lcom/example/sibyl/sibyl/kernel/Label;" .null) (F_p0_count : Fld Z h0 p0 "com/example/sibyl/sibyl/kernel/ObjectId" "count" "J" (.long (0 : Int64))) (ge_p0 : n0 ≤ p0) (hc : ¬ p2 < (1 : Int64)) :
    MetFree l (⟨"com/example/sibyl/sibyl/kernel/ObjectId", "<init>", "(Lcom/example/sibyl/sibyl/kernel/Label;J)V"⟩ : MethodName) (head1 (Jvm.Cond.code (⟨"com/example/sibyl/sibyl/kernel/ObjectId", "<init>", "(Lcom/example/sibyl/sibyl/kernel/Label;J)V"⟩ : MethodName) prog_18_method_1_code 4 none :: ws) ({ frames := 1, cells := 0, slots := 0, locals := 12 } : Room)) (fun a U => a = #[(.ref p0), (.ref p1), (.long p2)] ∧ Z.Warmed39 U.vm ∧ U.heap = h0) (fun _ _ _ _ _ => True) (fun _ U o U' => ∃ v L, o = .returned v ∧ Q_4 Z p0 p1 p2 h0 n0 v U'.heap L ∧ FrameEnd U o U' L ({ frames := 1, cells := 0, slots := 0, locals := 12 } : Room).cells ({ frames := 1, cells := 0, slots := 0, locals := 12 } : Room).slots) := by
  refine MetFree.of_bodySF (plainFor_of_name pn_4) hisR ?_
  intro p e s m args below meth c s₁ Bd hml0 hP hK
  obtain ⟨rfl, hZ, hh⟩ := hP
  have hx := Bd.exec
  have hby := Bd.bytes
  have hml : c.maxLocals = 4 := hml0
  have hown : s.vm.findClass "com/example/sibyl/sibyl/kernel/ObjectId" = some m.cls := findClass_of_methodNamed Bd.named
  have hnm := (name_of_methodNamed Bd.named Bd.method).1
  have X0 : Stand p l e ({ frames := 1, cells := 0, slots := 0, locals := 12 } : Room) s m #[(.ref p0), (.ref p1), (.long p2)] below meth c s₁ [] 0 0 := Stand.of_body Bd
  have e0 : s₁.heap = h0 := by rw [← hh, Bd.state]; rfl
  have N0 := Fr.nil n0
  have K0 : Keep h0 h0 [p0] := Keep.refl h0 _
  have pre0 : ∀ t, Steps p.tables e below (s₁.setTop (mkF m 0 #[.val (.ref p0), .val (.ref p1), .val (.long p2), .second] [])) t → Steps p.tables e below (s₁.setTop (entryFrame m #[(.ref p0), (.ref p1), (.long p2)] 4)) t := fun t k => castTop (ef_4 m p0 p1 p2) k
  have pre1 : ∀ t, Steps p.tables e below (s₁.setTop (mkF m 1 #[.val (.ref p0), .val (.ref p1), .val (.long p2), .second] [(.ref p0)])) t → Steps p.tables e below (s₁.setTop (entryFrame m #[(.ref p0), (.ref p1), (.long p2)] 4)) t := by
    intro t k
    refine pre0 t ?_
    show Steps p.tables e below (s₁.setTop (mkF m 0 #[.val (.ref p0), .val (.ref p1), .val (.long p2), .second] [])) _
    refine XS.aloadN X0.here hx rfl (hb hby d4_0) rfl rfl ?_
    exact k
  obtain ⟨T2, X2, e2, st2⟩ := initO X0 hx hZ hown (hw _ (List.mem_of_getElem? (i := 24) rfl)) (hw _ (List.mem_of_getElem? (i := 12) rfl)) (hw _ (List.mem_of_getElem? (i := 13) rfl)) e0 (g := (mkF m 1 #[.val (.ref p0), .val (.ref p1), .val (.long p2), .second] [(.ref p0)])) rfl (by rw [hml]; rfl) rfl (hb hby d4_1) (by decide) (W := 0) (by show 2 * 0 + _ ≤ _; exact Nat.le_of_eq rfl) (by decide)
  have pre3 : ∀ t, Steps p.tables e below (T2.setTop (mkF m 26 #[.val (.ref p0), .val (.ref p1), .val (.long p2), .second] [(.ref p1), (.ref p0)])) t → Steps p.tables e below (s₁.setTop (entryFrame m #[(.ref p0), (.ref p1), (.long p2)] 4)) t := by
    intro t k
    refine pre1 t ?_
    show Steps p.tables e below (s₁.setTop (mkF m 1 #[.val (.ref p0), .val (.ref p1), .val (.long p2), .second] [(.ref p0)])) _
    refine st2 _ ?_
    show Steps p.tables e below (T2.setTop (mkF m 4 #[.val (.ref p0), .val (.ref p1), .val (.long p2), .second] [])) _
    refine XS.lloadN X2.here hx rfl (hb hby d4_4) rfl  ?_
    show Steps p.tables e below (T2.setTop (mkF m 5 #[.val (.ref p0), .val (.ref p1), .val (.long p2), .second] [(.long p2)])) _
    refine XS.lconst X2.here hx rfl (hb hby d4_5) ?_
    show Steps p.tables e below (T2.setTop (mkF m 6 #[.val (.ref p0), .val (.ref p1), .val (.long p2), .second] [(.long (1 : Int64)), (.long p2)])) _
    refine XS.lcmp X2.here hx rfl (hb hby d4_6) rfl ?_
    show Steps p.tables e below (T2.setTop (mkF m 7 #[.val (.ref p0), .val (.ref p1), .val (.long p2), .second] [(.int (lcmpW p2 (1 : Int64)))])) _
    refine XS.ifYes X2.here hx rfl (pc0 := 7) (pc' := 24) rfl (hb hby d4_7) rfl ((if0 _ _).trans (flt (fun q => (hc : ¬ (p2 < (1 : Int64))) ((lw_lt _ _).mp q))).2.1) (by decide) (by decide) ?_
    show Steps p.tables e below (T2.setTop (mkF m 24 #[.val (.ref p0), .val (.ref p1), .val (.long p2), .second] [])) _
    refine XS.aloadN X2.here hx rfl (hb hby d4_24) rfl rfl ?_
    show Steps p.tables e below (T2.setTop (mkF m 25 #[.val (.ref p0), .val (.ref p1), .val (.long p2), .second] [(.ref p0)])) _
    refine XS.aloadN X2.here hx rfl (hb hby d4_25) rfl rfl ?_
    exact k
  obtain ⟨T4, h4, X4, e4, W4, st4⟩ := putF X2 hx hZ hown (host := "") (Or.inl (hw _ (List.mem_of_getElem? (i := 25) rfl))) Via.refl e2 F_p0_creator E_p0 (Or.inr ⟨(hw _ (List.mem_of_getElem? (i := 26) rfl)), rfl, hnm⟩) (hw _ (List.mem_of_getElem? (i := 19) rfl)) (ty := (.object "com/example/sibyl/sibyl/kernel/Label")) (by decide) rfl rfl (g := (mkF m 26 #[.val (.ref p0), .val (.ref p1), .val (.long p2), .second] [(.ref p1), (.ref p0)])) rfl rfl (hb hby d4_26)
  have Fw4 := F_p0_creator.same W4
  have exa_p0_4 := E_p0.wr W4
  have fld_p0_count_4 := F_p0_count.other W4 (Or.inr (slot_ne (Or.inr (hw _ (List.mem_of_getElem? (i := 28) rfl))) (Or.inr (hw _ (List.mem_of_getElem? (i := 26) rfl))) (by decide) (t := .long) (t' := (.object "com/example/sibyl/sibyl/kernel/Label")) (by decide) (by decide)))
  have K4 := K0.wr W4 (Or.inl (List.mem_of_getElem? (i := 0) rfl))
  have Z4 := Nat.le_trans Z0 (Nat.le_of_eq W4.size.symm)
  have N4 := Fr.snoc X4 N0 ge_p0
  have pre5 : ∀ t, Steps p.tables e below (T4.setTop (mkF m 31 #[.val (.ref p0), .val (.ref p1), .val (.long p2), .second] [(.long p2), (.ref p0)])) t → Steps p.tables e below (s₁.setTop (entryFrame m #[(.ref p0), (.ref p1), (.long p2)] 4)) t := by
    intro t k
    refine pre3 t ?_
    show Steps p.tables e below (T2.setTop (mkF m 26 #[.val (.ref p0), .val (.ref p1), .val (.long p2), .second] [(.ref p1), (.ref p0)])) _
    refine st4 _ ?_
    show Steps p.tables e below (T4.setTop (mkF m 29 #[.val (.ref p0), .val (.ref p1), .val (.long p2), .second] [])) _
    refine XS.aloadN X4.here hx rfl (hb hby d4_29) rfl rfl ?_
    show Steps p.tables e below (T4.setTop (mkF m 30 #[.val (.ref p0), .val (.ref p1), .val (.long p2), .second] [(.ref p0)])) _
    refine XS.lloadN X4.here hx rfl (hb hby d4_30) rfl  ?_
    exact k
  obtain ⟨T6, h6, X6, e6, W6, st6⟩ := putF X4 hx hZ hown (host := "") (Or.inl (hw _ (List.mem_of_getElem? (i := 27) rfl))) Via.refl e4 fld_p0_count_4 exa_p0_4 (Or.inr ⟨(hw _ (List.mem_of_getElem? (i := 28) rfl)), rfl, hnm⟩) (hw _ (List.mem_of_getElem? (i := 19) rfl)) (ty := .long) (by decide) rfl rfl (g := (mkF m 31 #[.val (.ref p0), .val (.ref p1), .val (.long p2), .second] [(.long p2), (.ref p0)])) rfl rfl (hb hby d4_31)
  have Fw6 := fld_p0_count_4.same W6
  have exa_p0_6 := exa_p0_4.wr W6
  have fld_p0_creator_6 := Fw4.other W6 (Or.inr (slot_ne (Or.inr (hw _ (List.mem_of_getElem? (i := 26) rfl))) (Or.inr (hw _ (List.mem_of_getElem? (i := 28) rfl))) (by decide) (t := (.object "com/example/sibyl/sibyl/kernel/Label")) (t' := .long) (by decide) (by decide)))
  have K6 := K4.wr W6 (Or.inl (List.mem_of_getElem? (i := 0) rfl))
  have Z6 := Nat.le_trans Z4 (Nat.le_of_eq W6.size.symm)
  have N6 := Fr.snoc X6 N4 ge_p0
  obtain ⟨fs, hr, hrun, hended, hW, hsame⟩ := X6.leave (v := none) (fun _ => rfl)
  refine ⟨_, _, pre5 _ ?_, hrun, hended, _, _, rfl, ?_, ⟨_, rfl⟩, hW, hsame.mono (by decide) (by decide)⟩
  · show Steps p.tables e below (T4.setTop (mkF m 31 #[.val (.ref p0), .val (.ref p1), .val (.long p2), .second] [(.long p2), (.ref p0)])) _
    refine st6 _ ?_
    show Steps p.tables e below (T6.setTop (mkF m 34 #[.val (.ref p0), .val (.ref p1), .val (.long p2), .second] [])) _
    exact X6.returnOut hx Bd.returns (hb hby d4_34) hr
  · show Q_4 Z p0 p1 p2 h0 n0 _ T6.heap _
    rw [e6]
    exact ⟨rfl, N6, K6, exa_p0_6, fld_p0_creator_6, Fw6⟩
theorem d6_0 : decode prog_13_method_7_code 0 = .ok (.aload_n 0, 1) := by decide +kernel
theorem d6_1 : decode prog_13_method_7_code 1 = .ok (.aload_n 1, 1) := by decide +kernel
theorem d6_2 : decode prog_13_method_7_code 2 = .ok (.if_acmp .ne 5, 3) := by decide +kernel
theorem d6_7 : decode prog_13_method_7_code 7 = .ok (.aload_n 1, 1) := by decide +kernel
theorem d6_8 : decode prog_13_method_7_code 8 = .ok (.instanceof 8, 3) := by decide +kernel
theorem d6_11 : decode prog_13_method_7_code 11 = .ok (.ifCond .ne 5, 3) := by decide +kernel
theorem d6_16 : decode prog_13_method_7_code 16 = .ok (.aload_n 1, 1) := by decide +kernel
theorem d6_17 : decode prog_13_method_7_code 17 = .ok (.checkcast 8, 3) := by decide +kernel
theorem d6_20 : decode prog_13_method_7_code 20 = .ok (.astore_n 2, 1) := by decide +kernel
theorem d6_21 : decode prog_13_method_7_code 21 = .ok (.aload_n 0, 1) := by decide +kernel
theorem d6_22 : decode prog_13_method_7_code 22 = .ok (.getfield 7, 3) := by decide +kernel
theorem d6_25 : decode prog_13_method_7_code 25 = .ok (.aload_n 2, 1) := by decide +kernel
theorem d6_26 : decode prog_13_method_7_code 26 = .ok (.getfield 7, 3) := by decide +kernel
theorem d6_29 : decode prog_13_method_7_code 29 = .ok (.if_icmp .ne 19, 3) := by decide +kernel
theorem d6_32 : decode prog_13_method_7_code 32 = .ok (.aload_n 0, 1) := by decide +kernel
theorem d6_33 : decode prog_13_method_7_code 33 = .ok (.getfield 13, 3) := by decide +kernel
theorem d6_36 : decode prog_13_method_7_code 36 = .ok (.aload_n 2, 1) := by decide +kernel
theorem d6_37 : decode prog_13_method_7_code 37 = .ok (.getfield 13, 3) := by decide +kernel
theorem d6_40 : decode prog_13_method_7_code 40 = .ok (.lcmp, 1) := by decide +kernel
theorem d6_41 : decode prog_13_method_7_code 41 = .ok (.ifCond .ne 7, 3) := by decide +kernel
theorem d6_44 : decode prog_13_method_7_code 44 = .ok (.iconst 1, 1) := by decide +kernel
theorem d6_45 : decode prog_13_method_7_code 45 = .ok (.goto 4, 3) := by decide +kernel
theorem d6_48 : decode prog_13_method_7_code 48 = .ok (.iconst 0, 1) := by decide +kernel
theorem d6_49 : decode prog_13_method_7_code 49 = .ok (.ireturn, 1) := by decide +kernel
theorem pn_6 : plainName "com/example/sibyl/sibyl/kernel/Label" = true := by first | (simp [plainName, overriddenIn]; done) | decide +kernel
theorem ef_6o (m : MethodId) (p0 : Addr) (p1 : Addr) : entryFrame m #[(.ref p0), (.ref p1)] 3 = mkF m 0 #[.val (.ref p0), .val (.ref p1), .unset] [] := by first | (simp [entryFrame, mkF, argsToLocals, Value.category]; done) | rfl
def f_6o (l0_ : Int32) (c0_ : Int64) (l1_ : Int32) (c1_ : Int64) : Int32 := (if l0_ = l1_ then let ms0_49 : Int32 := (if c0_ = c1_ then (1 : Int32) else (0 : Int32)); ms0_49 else (0 : Int32))
def Q_6o (Z : State) (p0 : Addr) (p1 : Addr) (l0_ : Int32) (c0_ : Int64) (l1_ : Int32) (c1_ : Int64) (h0 : Heap) (n0 : Nat) (v : Option Value) (h : Heap) (L : List Loc) : Prop := v = some (.int (f_6o l0_ c0_ l1_ c1_)) ∧ Fr n0 L ∧ h = h0
set_option maxRecDepth 65536 in
set_option maxHeartbeats 40000000 in
theorem rm_6o (l : Launch) (Z : State) (a0 : Array Value) (hw : ∀ d ∈ tables_1, d.before a0 Z = true) (ws : List Jvm.Cond) (p0 : Addr) (p1 : Addr) (l0_ : Int32) (c0_ : Int64) (l1_ : Int32) (c1_ : Int64) (h0 : Heap) (n0 : Nat) (Z0 : n0 ≤ h0.size) (ne_p0_p1 : p0 ≠ p1) (E_p1 : Exa Z h0 p1 "com/example/sibyl/sibyl/kernel/Label") (F_p0_level : Fld Z h0 p0 "com/example/sibyl/sibyl/kernel/Label" "level" "I" (.int l0_)) (F_p0_categories : Fld Z h0 p0 "com/example/sibyl/sibyl/kernel/Label" "categories" "J" (.long c0_)) (F_p1_level : Fld Z h0 p1 "com/example/sibyl/sibyl/kernel/Label" "level" "I" (.int l1_)) (F_p1_categories : Fld Z h0 p1 "com/example/sibyl/sibyl/kernel/Label" "categories" "J" (.long c1_)) :
    MetFree l (⟨"com/example/sibyl/sibyl/kernel/Label", "equals", "(Ljava/lang/Object;)Z"⟩ : MethodName) (head1 (Jvm.Cond.code (⟨"com/example/sibyl/sibyl/kernel/Label", "equals", "(Ljava/lang/Object;)Z"⟩ : MethodName) prog_13_method_7_code 3 (some .boolean) :: ws) ({ frames := 0, cells := 0, slots := 0, locals := 0 } : Room)) (fun a U => a = #[(.ref p0), (.ref p1)] ∧ Z.Warmed39 U.vm ∧ U.heap = h0) (fun _ _ _ _ _ => True) (fun _ U o U' => ∃ v L, o = .returned v ∧ Q_6o Z p0 p1 l0_ c0_ l1_ c1_ h0 n0 v U'.heap L ∧ FrameEnd U o U' L ({ frames := 0, cells := 0, slots := 0, locals := 0 } : Room).cells ({ frames := 0, cells := 0, slots := 0, locals := 0 } : Room).slots) := by
  refine MetFree.of_bodySF (plainFor_of_name pn_6) hisR ?_
  intro p e s m args below meth c s₁ Bd hml0 hP hK
  obtain ⟨rfl, hZ, hh⟩ := hP
  have hx := Bd.exec
  have hby := Bd.bytes
  have hml : c.maxLocals = 3 := hml0
  have hown : s.vm.findClass "com/example/sibyl/sibyl/kernel/Label" = some m.cls := findClass_of_methodNamed Bd.named
  have hnm := (name_of_methodNamed Bd.named Bd.method).1
  have X0 : Stand p l e ({ frames := 0, cells := 0, slots := 0, locals := 0 } : Room) s m #[(.ref p0), (.ref p1)] below meth c s₁ [] 0 0 := Stand.of_body Bd
  have e0 : s₁.heap = h0 := by rw [← hh, Bd.state]; rfl
  have N0 := Fr.nil n0
  have K0 : Keep h0 h0 [] := Keep.refl h0 _
  have pre0 : ∀ t, Steps p.tables e below (s₁.setTop (mkF m 0 #[.val (.ref p0), .val (.ref p1), .unset] [])) t → Steps p.tables e below (s₁.setTop (entryFrame m #[(.ref p0), (.ref p1)] 3)) t := fun t k => castTop (ef_6o m p0 p1) k
  have pre1 : ∀ t, Steps p.tables e below (s₁.setTop (mkF m 8 #[.val (.ref p0), .val (.ref p1), .unset] [(.ref p1)])) t → Steps p.tables e below (s₁.setTop (entryFrame m #[(.ref p0), (.ref p1)] 3)) t := by
    intro t k
    refine pre0 t ?_
    show Steps p.tables e below (s₁.setTop (mkF m 0 #[.val (.ref p0), .val (.ref p1), .unset] [])) _
    refine XS.aloadN X0.here hx rfl (hb hby d6_0) rfl rfl ?_
    show Steps p.tables e below (s₁.setTop (mkF m 1 #[.val (.ref p0), .val (.ref p1), .unset] [(.ref p0)])) _
    refine XS.aloadN X0.here hx rfl (hb hby d6_1) rfl rfl ?_
    show Steps p.tables e below (s₁.setTop (mkF m 2 #[.val (.ref p0), .val (.ref p1), .unset] [(.ref p1), (.ref p0)])) _
    refine Jvm.RoadKit.acmp (g := (mkF m 2 #[.val (.ref p0), .val (.ref p1), .unset] [(.ref p1), (.ref p0)])) X0 hx rfl rfl rfl (pc0 := 2) (pc' := 7) (same := false) rfl (hb hby d6_2) rfl (decide_eq_false fun q => (ne_p0_p1 : p0 ≠ p1) (Value.ref.inj q)) (by decide) (by decide) ?_
    show Steps p.tables e below (s₁.setTop (mkF m 7 #[.val (.ref p0), .val (.ref p1), .unset] [])) _
    refine XS.aloadN X0.here hx rfl (hb hby d6_7) rfl rfl ?_
    exact k
  obtain ⟨T2, X2, e2, st2⟩ := instY X0 hx hZ hown (hw _ (List.mem_of_getElem? (i := 41) rfl)) e0 (Ins.self E_p1) (g := (mkF m 8 #[.val (.ref p0), .val (.ref p1), .unset] [(.ref p1)])) rfl rfl (hb hby d6_8)
  have pre3 : ∀ t, Steps p.tables e below (T2.setTop (mkF m 17 #[.val (.ref p0), .val (.ref p1), .unset] [(.ref p1)])) t → Steps p.tables e below (s₁.setTop (entryFrame m #[(.ref p0), (.ref p1)] 3)) t := by
    intro t k
    refine pre1 t ?_
    show Steps p.tables e below (s₁.setTop (mkF m 8 #[.val (.ref p0), .val (.ref p1), .unset] [(.ref p1)])) _
    refine st2 _ ?_
    show Steps p.tables e below (T2.setTop (mkF m 11 #[.val (.ref p0), .val (.ref p1), .unset] [(.int (1 : Int32))])) _
    refine XS.ifYes X2.here hx rfl (pc0 := 11) (pc' := 16) rfl (hb hby d6_11) rfl ((if0 _ _).trans (feq (by decide : ¬ ((1 : Int32) = (0 : Int32)))).2) (by decide) (by decide) ?_
    show Steps p.tables e below (T2.setTop (mkF m 16 #[.val (.ref p0), .val (.ref p1), .unset] [])) _
    refine XS.aloadN X2.here hx rfl (hb hby d6_16) rfl rfl ?_
    exact k
  obtain ⟨T4, X4, e4, st4⟩ := castY X2 hx hZ hown (hw _ (List.mem_of_getElem? (i := 41) rfl)) e2 (Ins.self E_p1) (g := (mkF m 17 #[.val (.ref p0), .val (.ref p1), .unset] [(.ref p1)])) rfl rfl (hb hby d6_17)
  have pre5 : ∀ t, Steps p.tables e below (T4.setTop (mkF m 22 #[.val (.ref p0), .val (.ref p1), .val (.ref p1)] [(.ref p0)])) t → Steps p.tables e below (s₁.setTop (entryFrame m #[(.ref p0), (.ref p1)] 3)) t := by
    intro t k
    refine pre3 t ?_
    show Steps p.tables e below (T2.setTop (mkF m 17 #[.val (.ref p0), .val (.ref p1), .unset] [(.ref p1)])) _
    refine st4 _ ?_
    show Steps p.tables e below (T4.setTop (mkF m 20 #[.val (.ref p0), .val (.ref p1), .unset] [(.ref p1)])) _
    refine XS.astoreN X4.here hx rfl (hb hby d6_20) rfl rfl (l' := #[.val (.ref p0), .val (.ref p1), .val (.ref p1)]) rfl ?_
    show Steps p.tables e below (T4.setTop (mkF m 21 #[.val (.ref p0), .val (.ref p1), .val (.ref p1)] [])) _
    refine XS.aloadN X4.here hx rfl (hb hby d6_21) rfl rfl ?_
    exact k
  obtain ⟨T6, X6, e6, st6⟩ := getF X4 hx hZ hown (host := "") (Or.inl (hw _ (List.mem_of_getElem? (i := 14) rfl))) Via.refl e4 F_p0_level (g := (mkF m 22 #[.val (.ref p0), .val (.ref p1), .val (.ref p1)] [(.ref p0)])) rfl rfl (hb hby d6_22)
  have pre7 : ∀ t, Steps p.tables e below (T6.setTop (mkF m 26 #[.val (.ref p0), .val (.ref p1), .val (.ref p1)] [(.ref p1), (.int l0_)])) t → Steps p.tables e below (s₁.setTop (entryFrame m #[(.ref p0), (.ref p1)] 3)) t := by
    intro t k
    refine pre5 t ?_
    show Steps p.tables e below (T4.setTop (mkF m 22 #[.val (.ref p0), .val (.ref p1), .val (.ref p1)] [(.ref p0)])) _
    refine st6 _ ?_
    show Steps p.tables e below (T6.setTop (mkF m 25 #[.val (.ref p0), .val (.ref p1), .val (.ref p1)] [(.int l0_)])) _
    refine XS.aloadN X6.here hx rfl (hb hby d6_25) rfl rfl ?_
    exact k
  obtain ⟨T8, X8, e8, st8⟩ := getF X6 hx hZ hown (host := "") (Or.inl (hw _ (List.mem_of_getElem? (i := 14) rfl))) Via.refl e6 F_p1_level (g := (mkF m 26 #[.val (.ref p0), .val (.ref p1), .val (.ref p1)] [(.ref p1), (.int l0_)])) rfl rfl (hb hby d6_26)
  have pre9 : ∀ t, Steps p.tables e below (T8.setTop (mkF m 29 #[.val (.ref p0), .val (.ref p1), .val (.ref p1)] [(.int l1_), (.int l0_)])) t → Steps p.tables e below (s₁.setTop (entryFrame m #[(.ref p0), (.ref p1)] 3)) t := by
    intro t k
    refine pre7 t ?_
    show Steps p.tables e below (T6.setTop (mkF m 26 #[.val (.ref p0), .val (.ref p1), .val (.ref p1)] [(.ref p1), (.int l0_)])) _
    refine st8 _ ?_
    exact k
  by_cases hc29 : l0_ = l1_
  · have pre10 : ∀ t, Steps p.tables e below (T8.setTop (mkF m 33 #[.val (.ref p0), .val (.ref p1), .val (.ref p1)] [(.ref p0)])) t → Steps p.tables e below (s₁.setTop (entryFrame m #[(.ref p0), (.ref p1)] 3)) t := by
      intro t k
      refine pre9 t ?_
      show Steps p.tables e below (T8.setTop (mkF m 29 #[.val (.ref p0), .val (.ref p1), .val (.ref p1)] [(.int l1_), (.int l0_)])) _
      refine XS.icmpNo X8.here hx rfl (hb hby d6_29) rfl (teq hc29).2 ?_
      show Steps p.tables e below (T8.setTop (mkF m 32 #[.val (.ref p0), .val (.ref p1), .val (.ref p1)] [])) _
      refine XS.aloadN X8.here hx rfl (hb hby d6_32) rfl rfl ?_
      exact k
    obtain ⟨T11, X11, e11, st11⟩ := getF X8 hx hZ hown (host := "") (Or.inl (hw _ (List.mem_of_getElem? (i := 16) rfl))) Via.refl e8 F_p0_categories (g := (mkF m 33 #[.val (.ref p0), .val (.ref p1), .val (.ref p1)] [(.ref p0)])) rfl rfl (hb hby d6_33)
    have pre12 : ∀ t, Steps p.tables e below (T11.setTop (mkF m 37 #[.val (.ref p0), .val (.ref p1), .val (.ref p1)] [(.ref p1), (.long c0_)])) t → Steps p.tables e below (s₁.setTop (entryFrame m #[(.ref p0), (.ref p1)] 3)) t := by
      intro t k
      refine pre10 t ?_
      show Steps p.tables e below (T8.setTop (mkF m 33 #[.val (.ref p0), .val (.ref p1), .val (.ref p1)] [(.ref p0)])) _
      refine st11 _ ?_
      show Steps p.tables e below (T11.setTop (mkF m 36 #[.val (.ref p0), .val (.ref p1), .val (.ref p1)] [(.long c0_)])) _
      refine XS.aloadN X11.here hx rfl (hb hby d6_36) rfl rfl ?_
      exact k
    obtain ⟨T13, X13, e13, st13⟩ := getF X11 hx hZ hown (host := "") (Or.inl (hw _ (List.mem_of_getElem? (i := 16) rfl))) Via.refl e11 F_p1_categories (g := (mkF m 37 #[.val (.ref p0), .val (.ref p1), .val (.ref p1)] [(.ref p1), (.long c0_)])) rfl rfl (hb hby d6_37)
    have pre14 : ∀ t, Steps p.tables e below (T13.setTop (mkF m 41 #[.val (.ref p0), .val (.ref p1), .val (.ref p1)] [(.int (lcmpW c0_ c1_))])) t → Steps p.tables e below (s₁.setTop (entryFrame m #[(.ref p0), (.ref p1)] 3)) t := by
      intro t k
      refine pre12 t ?_
      show Steps p.tables e below (T11.setTop (mkF m 37 #[.val (.ref p0), .val (.ref p1), .val (.ref p1)] [(.ref p1), (.long c0_)])) _
      refine st13 _ ?_
      show Steps p.tables e below (T13.setTop (mkF m 40 #[.val (.ref p0), .val (.ref p1), .val (.ref p1)] [(.long c1_), (.long c0_)])) _
      refine XS.lcmp X13.here hx rfl (hb hby d6_40) rfl ?_
      exact k
    obtain ⟨ms0_49, hms0_49⟩ : ∃ z : Int32, z = (if c0_ = c1_ then (1 : Int32) else (0 : Int32)) := ⟨_, rfl⟩
    have pre15 : ∀ t, Steps p.tables e below (T13.setTop (mkF m 49 #[.val (.ref p0), .val (.ref p1), .val (.ref p1)] [(.int ms0_49)])) t → Steps p.tables e below (s₁.setTop (entryFrame m #[(.ref p0), (.ref p1)] 3)) t := by
      intro t k
      refine pre14 t ?_
      by_cases hc41 : c0_ = c1_
      · show Steps p.tables e below (T13.setTop (mkF m 41 #[.val (.ref p0), .val (.ref p1), .val (.ref p1)] [(.int (lcmpW c0_ c1_))])) _
        refine XS.ifNo X13.here hx rfl (hb hby d6_41) rfl ((if0 _ _).trans (teq ((lw_eq _ _).mpr hc41)).2) ?_
        show Steps p.tables e below (T13.setTop (mkF m 44 #[.val (.ref p0), .val (.ref p1), .val (.ref p1)] [])) _
        refine XS.iconst X13.here hx rfl (hb hby d6_44) ?_
        show Steps p.tables e below (T13.setTop (mkF m 45 #[.val (.ref p0), .val (.ref p1), .val (.ref p1)] [(.int (1 : Int32))])) _
        refine XS.goto X13.here hx rfl (pc0 := 45) (pc' := 49) rfl (hb hby d6_45) (by decide) (by decide) ?_
        have qms0_49 : ms0_49 = (1 : Int32) := by rw [hms0_49, if_pos hc41]
        rw [qms0_49] at k
        exact k
      · show Steps p.tables e below (T13.setTop (mkF m 41 #[.val (.ref p0), .val (.ref p1), .val (.ref p1)] [(.int (lcmpW c0_ c1_))])) _
        refine XS.ifYes X13.here hx rfl (pc0 := 41) (pc' := 48) rfl (hb hby d6_41) rfl ((if0 _ _).trans (feq (fun q => hc41 ((lw_eq _ _).mp q))).2) (by decide) (by decide) ?_
        show Steps p.tables e below (T13.setTop (mkF m 48 #[.val (.ref p0), .val (.ref p1), .val (.ref p1)] [])) _
        refine XS.iconst X13.here hx rfl (hb hby d6_48) ?_
        have qms0_49 : ms0_49 = (0 : Int32) := by rw [hms0_49, if_neg hc41]
        rw [qms0_49] at k
        exact k
    have hnar : nar .boolean ms0_49 = ms0_49 := by rw [hms0_49]; (repeat' split) <;> rfl
    obtain ⟨fs, hr, hrun, hended, hW, hsame⟩ := X13.leave (v := some (.int ms0_49)) (fun h => by rw [Bd.returns] at h; cases h)
    refine ⟨_, _, pre15 _ ?_, hrun, hended, _, _, rfl, ?_, ⟨_, rfl⟩, hW, hsame.mono (by decide) (by decide)⟩
    · show Steps p.tables e below (T13.setTop (mkF m 49 #[.val (.ref p0), .val (.ref p1), .val (.ref p1)] [(.int ms0_49)])) _
      exact retN X13 hx (t := .boolean) Bd.returns (by simp) (hb hby d6_49) (by rw [hnar]; exact hr)
    · show Q_6o Z p0 p1 l0_ c0_ l1_ c1_ h0 n0 _ T13.heap _
      rw [e13]
      exact ⟨congrArg (fun z => some (Value.int z)) (by subst hms0_49; exact (if_pos hc29).symm : ms0_49 = f_6o l0_ c0_ l1_ c1_), N0, rfl⟩
  · obtain ⟨fs, hr, hrun, hended, hW, hsame⟩ := X8.leave (v := some (.int (0 : Int32))) (fun h => by rw [Bd.returns] at h; cases h)
    refine ⟨_, _, pre9 _ ?_, hrun, hended, _, _, rfl, ?_, ⟨_, rfl⟩, hW, hsame.mono (by decide) (by decide)⟩
    · show Steps p.tables e below (T8.setTop (mkF m 29 #[.val (.ref p0), .val (.ref p1), .val (.ref p1)] [(.int l1_), (.int l0_)])) _
      refine XS.icmpYes X8.here hx rfl (pc0 := 29) (pc' := 48) rfl (hb hby d6_29) rfl (feq hc29).2 (by decide) (by decide) ?_
      show Steps p.tables e below (T8.setTop (mkF m 48 #[.val (.ref p0), .val (.ref p1), .val (.ref p1)] [])) _
      refine XS.iconst X8.here hx rfl (hb hby d6_48) ?_
      show Steps p.tables e below (T8.setTop (mkF m 49 #[.val (.ref p0), .val (.ref p1), .val (.ref p1)] [(.int (0 : Int32))])) _
      exact retN X8 hx (t := .boolean) Bd.returns (by simp) (hb hby d6_49) hr
    · show Q_6o Z p0 p1 l0_ c0_ l1_ c1_ h0 n0 _ T8.heap _
      rw [e8]
      exact ⟨congrArg (fun z => some (Value.int z)) (by exact (if_neg hc29).symm : (0 : Int32) = f_6o l0_ c0_ l1_ c1_), N0, rfl⟩
theorem d5_0 : decode prog_18_method_6_code 0 = .ok (.aload_n 0, 1) := by decide +kernel
theorem d5_1 : decode prog_18_method_6_code 1 = .ok (.aload_n 1, 1) := by decide +kernel
theorem d5_2 : decode prog_18_method_6_code 2 = .ok (.if_acmp .ne 5, 3) := by decide +kernel
theorem d5_5 : decode prog_18_method_6_code 5 = .ok (.iconst 1, 1) := by decide +kernel
theorem d5_6 : decode prog_18_method_6_code 6 = .ok (.ireturn, 1) := by decide +kernel
theorem pn_5 : plainName "com/example/sibyl/sibyl/kernel/ObjectId" = true := by first | (simp [plainName, overriddenIn]; done) | decide +kernel
theorem ef_5s (m : MethodId) (p0 : Addr) : entryFrame m #[(.ref p0), (.ref p0)] 3 = mkF m 0 #[.val (.ref p0), .val (.ref p0), .unset] [] := by first | (simp [entryFrame, mkF, argsToLocals, Value.category]; done) | rfl
def f_5s  : Int32 := (1 : Int32)
def Q_5s (Z : State) (p0 : Addr)  (h0 : Heap) (n0 : Nat) (v : Option Value) (h : Heap) (L : List Loc) : Prop := v = some (.int (f_5s )) ∧ Fr n0 L ∧ h = h0
set_option maxRecDepth 65536 in
set_option maxHeartbeats 40000000 in
theorem rm_5s (l : Launch) (Z : State) (a0 : Array Value) (hw : ∀ d ∈ tables_1, d.before a0 Z = true) (ws : List Jvm.Cond) (p0 : Addr)  (h0 : Heap) (n0 : Nat) (Z0 : n0 ≤ h0.size)  :
    MetFree l (⟨"com/example/sibyl/sibyl/kernel/ObjectId", "equals", "(Ljava/lang/Object;)Z"⟩ : MethodName) (head1 (Jvm.Cond.code (⟨"com/example/sibyl/sibyl/kernel/ObjectId", "equals", "(Ljava/lang/Object;)Z"⟩ : MethodName) prog_18_method_6_code 3 (some .boolean) :: ws) ({ frames := 0, cells := 0, slots := 0, locals := 0 } : Room)) (fun a U => a = #[(.ref p0), (.ref p0)] ∧ Z.Warmed39 U.vm ∧ U.heap = h0) (fun _ _ _ _ _ => True) (fun _ U o U' => ∃ v L, o = .returned v ∧ Q_5s Z p0 h0 n0 v U'.heap L ∧ FrameEnd U o U' L ({ frames := 0, cells := 0, slots := 0, locals := 0 } : Room).cells ({ frames := 0, cells := 0, slots := 0, locals := 0 } : Room).slots) := by
  refine MetFree.of_bodySF (plainFor_of_name pn_5) hisR ?_
  intro p e s m args below meth c s₁ Bd hml0 hP hK
  obtain ⟨rfl, hZ, hh⟩ := hP
  have hx := Bd.exec
  have hby := Bd.bytes
  have hml : c.maxLocals = 3 := hml0
  have hown : s.vm.findClass "com/example/sibyl/sibyl/kernel/ObjectId" = some m.cls := findClass_of_methodNamed Bd.named
  have hnm := (name_of_methodNamed Bd.named Bd.method).1
  have X0 : Stand p l e ({ frames := 0, cells := 0, slots := 0, locals := 0 } : Room) s m #[(.ref p0), (.ref p0)] below meth c s₁ [] 0 0 := Stand.of_body Bd
  have e0 : s₁.heap = h0 := by rw [← hh, Bd.state]; rfl
  have N0 := Fr.nil n0
  have K0 : Keep h0 h0 [] := Keep.refl h0 _
  have pre0 : ∀ t, Steps p.tables e below (s₁.setTop (mkF m 0 #[.val (.ref p0), .val (.ref p0), .unset] [])) t → Steps p.tables e below (s₁.setTop (entryFrame m #[(.ref p0), (.ref p0)] 3)) t := fun t k => castTop (ef_5s m p0) k
  obtain ⟨fs, hr, hrun, hended, hW, hsame⟩ := X0.leave (v := some (.int (1 : Int32))) (fun h => by rw [Bd.returns] at h; cases h)
  refine ⟨_, _, pre0 _ ?_, hrun, hended, _, _, rfl, ?_, ⟨_, rfl⟩, hW, hsame.mono (by decide) (by decide)⟩
  · show Steps p.tables e below (s₁.setTop (mkF m 0 #[.val (.ref p0), .val (.ref p0), .unset] [])) _
    refine XS.aloadN X0.here hx rfl (hb hby d5_0) rfl rfl ?_
    show Steps p.tables e below (s₁.setTop (mkF m 1 #[.val (.ref p0), .val (.ref p0), .unset] [(.ref p0)])) _
    refine XS.aloadN X0.here hx rfl (hb hby d5_1) rfl rfl ?_
    show Steps p.tables e below (s₁.setTop (mkF m 2 #[.val (.ref p0), .val (.ref p0), .unset] [(.ref p0), (.ref p0)])) _
    refine Jvm.RoadKit.acmp (g := (mkF m 2 #[.val (.ref p0), .val (.ref p0), .unset] [(.ref p0), (.ref p0)])) X0 hx rfl rfl rfl (pc0 := 2) (pc' := 5) (same := true) rfl (hb hby d5_2) rfl (decide_eq_true rfl) (by decide) (by decide) ?_
    show Steps p.tables e below (s₁.setTop (mkF m 5 #[.val (.ref p0), .val (.ref p0), .unset] [])) _
    refine XS.iconst X0.here hx rfl (hb hby d5_5) ?_
    show Steps p.tables e below (s₁.setTop (mkF m 6 #[.val (.ref p0), .val (.ref p0), .unset] [(.int (1 : Int32))])) _
    exact retN X0 hx (t := .boolean) Bd.returns (by simp) (hb hby d5_6) hr
  · show Q_5s Z p0 h0 n0 _ s₁.heap _
    rw [e0]
    exact ⟨congrArg (fun z => some (Value.int z)) (by rfl : (1 : Int32) = f_5s ), N0, rfl⟩
theorem d5_7 : decode prog_18_method_6_code 7 = .ok (.aload_n 1, 1) := by decide +kernel
theorem d5_8 : decode prog_18_method_6_code 8 = .ok (.instanceof 17, 3) := by decide +kernel
theorem d5_11 : decode prog_18_method_6_code 11 = .ok (.ifCond .ne 5, 3) := by decide +kernel
theorem d5_14 : decode prog_18_method_6_code 14 = .ok (.iconst 0, 1) := by decide +kernel
theorem d5_15 : decode prog_18_method_6_code 15 = .ok (.ireturn, 1) := by decide +kernel
theorem ef_5n (m : MethodId) (p0 : Addr) : entryFrame m #[(.ref p0), .null] 3 = mkF m 0 #[.val (.ref p0), .val .null, .unset] [] := by first | (simp [entryFrame, mkF, argsToLocals, Value.category]; done) | rfl
def f_5n  : Int32 := (0 : Int32)
def Q_5n (Z : State) (p0 : Addr)  (h0 : Heap) (n0 : Nat) (v : Option Value) (h : Heap) (L : List Loc) : Prop := v = some (.int (f_5n )) ∧ Fr n0 L ∧ h = h0
set_option maxRecDepth 65536 in
set_option maxHeartbeats 40000000 in
theorem rm_5n (l : Launch) (Z : State) (a0 : Array Value) (hw : ∀ d ∈ tables_1, d.before a0 Z = true) (ws : List Jvm.Cond) (p0 : Addr)  (h0 : Heap) (n0 : Nat) (Z0 : n0 ≤ h0.size)  :
    MetFree l (⟨"com/example/sibyl/sibyl/kernel/ObjectId", "equals", "(Ljava/lang/Object;)Z"⟩ : MethodName) (head1 (Jvm.Cond.code (⟨"com/example/sibyl/sibyl/kernel/ObjectId", "equals", "(Ljava/lang/Object;)Z"⟩ : MethodName) prog_18_method_6_code 3 (some .boolean) :: ws) ({ frames := 0, cells := 0, slots := 0, locals := 0 } : Room)) (fun a U => a = #[(.ref p0), .null] ∧ Z.Warmed39 U.vm ∧ U.heap = h0) (fun _ _ _ _ _ => True) (fun _ U o U' => ∃ v L, o = .returned v ∧ Q_5n Z p0 h0 n0 v U'.heap L ∧ FrameEnd U o U' L ({ frames := 0, cells := 0, slots := 0, locals := 0 } : Room).cells ({ frames := 0, cells := 0, slots := 0, locals := 0 } : Room).slots) := by
  refine MetFree.of_bodySF (plainFor_of_name pn_5) hisR ?_
  intro p e s m args below meth c s₁ Bd hml0 hP hK
  obtain ⟨rfl, hZ, hh⟩ := hP
  have hx := Bd.exec
  have hby := Bd.bytes
  have hml : c.maxLocals = 3 := hml0
  have hown : s.vm.findClass "com/example/sibyl/sibyl/kernel/ObjectId" = some m.cls := findClass_of_methodNamed Bd.named
  have hnm := (name_of_methodNamed Bd.named Bd.method).1
  have X0 : Stand p l e ({ frames := 0, cells := 0, slots := 0, locals := 0 } : Room) s m #[(.ref p0), .null] below meth c s₁ [] 0 0 := Stand.of_body Bd
  have e0 : s₁.heap = h0 := by rw [← hh, Bd.state]; rfl
  have N0 := Fr.nil n0
  have K0 : Keep h0 h0 [] := Keep.refl h0 _
  have pre0 : ∀ t, Steps p.tables e below (s₁.setTop (mkF m 0 #[.val (.ref p0), .val .null, .unset] [])) t → Steps p.tables e below (s₁.setTop (entryFrame m #[(.ref p0), .null] 3)) t := fun t k => castTop (ef_5n m p0) k
  obtain ⟨fs, hr, hrun, hended, hW, hsame⟩ := X0.leave (v := some (.int (0 : Int32))) (fun h => by rw [Bd.returns] at h; cases h)
  refine ⟨_, _, pre0 _ ?_, hrun, hended, _, _, rfl, ?_, ⟨_, rfl⟩, hW, hsame.mono (by decide) (by decide)⟩
  · show Steps p.tables e below (s₁.setTop (mkF m 0 #[.val (.ref p0), .val .null, .unset] [])) _
    refine XS.aloadN X0.here hx rfl (hb hby d5_0) rfl rfl ?_
    show Steps p.tables e below (s₁.setTop (mkF m 1 #[.val (.ref p0), .val .null, .unset] [(.ref p0)])) _
    refine XS.aloadN X0.here hx rfl (hb hby d5_1) rfl rfl ?_
    show Steps p.tables e below (s₁.setTop (mkF m 2 #[.val (.ref p0), .val .null, .unset] [.null, (.ref p0)])) _
    refine Jvm.RoadKit.acmp (g := (mkF m 2 #[.val (.ref p0), .val .null, .unset] [.null, (.ref p0)])) X0 hx rfl rfl rfl (pc0 := 2) (pc' := 7) (same := false) rfl (hb hby d5_2) rfl (decide_eq_false nofun) (by decide) (by decide) ?_
    show Steps p.tables e below (s₁.setTop (mkF m 7 #[.val (.ref p0), .val .null, .unset] [])) _
    refine XS.aloadN X0.here hx rfl (hb hby d5_7) rfl rfl ?_
    show Steps p.tables e below (s₁.setTop (mkF m 8 #[.val (.ref p0), .val .null, .unset] [.null])) _
    refine X0.instanceofNull hx (g := (mkF m 8 #[.val (.ref p0), .val .null, .unset] [.null])) rfl rfl (hb hby d5_8) _ ?_
    show Steps p.tables e below (s₁.setTop (mkF m 11 #[.val (.ref p0), .val .null, .unset] [(.int (0 : Int32))])) _
    refine XS.ifNo X0.here hx rfl (hb hby d5_11) rfl ((if0 _ _).trans (teq (by decide : (0 : Int32) = (0 : Int32))).2) ?_
    show Steps p.tables e below (s₁.setTop (mkF m 14 #[.val (.ref p0), .val .null, .unset] [])) _
    refine XS.iconst X0.here hx rfl (hb hby d5_14) ?_
    show Steps p.tables e below (s₁.setTop (mkF m 15 #[.val (.ref p0), .val .null, .unset] [(.int (0 : Int32))])) _
    exact retN X0 hx (t := .boolean) Bd.returns (by simp) (hb hby d5_15) hr
  · show Q_5n Z p0 h0 n0 _ s₁.heap _
    rw [e0]
    exact ⟨congrArg (fun z => some (Value.int z)) (by rfl : (0 : Int32) = f_5n ), N0, rfl⟩
theorem ef_5l (m : MethodId) (p0 : Addr) (p1 : Addr) : entryFrame m #[(.ref p0), (.ref p1)] 3 = mkF m 0 #[.val (.ref p0), .val (.ref p1), .unset] [] := by first | (simp [entryFrame, mkF, argsToLocals, Value.category]; done) | rfl
def f_5l  : Int32 := (0 : Int32)
def Q_5l (Z : State) (p0 : Addr) (p1 : Addr)  (h0 : Heap) (n0 : Nat) (v : Option Value) (h : Heap) (L : List Loc) : Prop := v = some (.int (f_5l )) ∧ Fr n0 L ∧ h = h0
set_option maxRecDepth 65536 in
set_option maxHeartbeats 40000000 in
theorem rm_5l (l : Launch) (Z : State) (a0 : Array Value) (hw : ∀ d ∈ tables_1, d.before a0 Z = true) (ws : List Jvm.Cond) (p0 : Addr) (p1 : Addr)  (h0 : Heap) (n0 : Nat) (Z0 : n0 ≤ h0.size) (ne_p0_p1 : p0 ≠ p1) (E_p1 : Exa Z h0 p1 "com/example/sibyl/sibyl/kernel/Label") :
    MetFree l (⟨"com/example/sibyl/sibyl/kernel/ObjectId", "equals", "(Ljava/lang/Object;)Z"⟩ : MethodName) (head1 (Jvm.Cond.code (⟨"com/example/sibyl/sibyl/kernel/ObjectId", "equals", "(Ljava/lang/Object;)Z"⟩ : MethodName) prog_18_method_6_code 3 (some .boolean) :: ws) ({ frames := 0, cells := 0, slots := 0, locals := 0 } : Room)) (fun a U => a = #[(.ref p0), (.ref p1)] ∧ Z.Warmed39 U.vm ∧ U.heap = h0) (fun _ _ _ _ _ => True) (fun _ U o U' => ∃ v L, o = .returned v ∧ Q_5l Z p0 p1 h0 n0 v U'.heap L ∧ FrameEnd U o U' L ({ frames := 0, cells := 0, slots := 0, locals := 0 } : Room).cells ({ frames := 0, cells := 0, slots := 0, locals := 0 } : Room).slots) := by
  refine MetFree.of_bodySF (plainFor_of_name pn_5) hisR ?_
  intro p e s m args below meth c s₁ Bd hml0 hP hK
  obtain ⟨rfl, hZ, hh⟩ := hP
  have hx := Bd.exec
  have hby := Bd.bytes
  have hml : c.maxLocals = 3 := hml0
  have hown : s.vm.findClass "com/example/sibyl/sibyl/kernel/ObjectId" = some m.cls := findClass_of_methodNamed Bd.named
  have hnm := (name_of_methodNamed Bd.named Bd.method).1
  have X0 : Stand p l e ({ frames := 0, cells := 0, slots := 0, locals := 0 } : Room) s m #[(.ref p0), (.ref p1)] below meth c s₁ [] 0 0 := Stand.of_body Bd
  have e0 : s₁.heap = h0 := by rw [← hh, Bd.state]; rfl
  have N0 := Fr.nil n0
  have K0 : Keep h0 h0 [] := Keep.refl h0 _
  have pre0 : ∀ t, Steps p.tables e below (s₁.setTop (mkF m 0 #[.val (.ref p0), .val (.ref p1), .unset] [])) t → Steps p.tables e below (s₁.setTop (entryFrame m #[(.ref p0), (.ref p1)] 3)) t := fun t k => castTop (ef_5l m p0 p1) k
  have pre1 : ∀ t, Steps p.tables e below (s₁.setTop (mkF m 8 #[.val (.ref p0), .val (.ref p1), .unset] [(.ref p1)])) t → Steps p.tables e below (s₁.setTop (entryFrame m #[(.ref p0), (.ref p1)] 3)) t := by
    intro t k
    refine pre0 t ?_
    show Steps p.tables e below (s₁.setTop (mkF m 0 #[.val (.ref p0), .val (.ref p1), .unset] [])) _
    refine XS.aloadN X0.here hx rfl (hb hby d5_0) rfl rfl ?_
    show Steps p.tables e below (s₁.setTop (mkF m 1 #[.val (.ref p0), .val (.ref p1), .unset] [(.ref p0)])) _
    refine XS.aloadN X0.here hx rfl (hb hby d5_1) rfl rfl ?_
    show Steps p.tables e below (s₁.setTop (mkF m 2 #[.val (.ref p0), .val (.ref p1), .unset] [(.ref p1), (.ref p0)])) _
    refine Jvm.RoadKit.acmp (g := (mkF m 2 #[.val (.ref p0), .val (.ref p1), .unset] [(.ref p1), (.ref p0)])) X0 hx rfl rfl rfl (pc0 := 2) (pc' := 7) (same := false) rfl (hb hby d5_2) rfl (decide_eq_false fun q => (ne_p0_p1 : p0 ≠ p1) (Value.ref.inj q)) (by decide) (by decide) ?_
    show Steps p.tables e below (s₁.setTop (mkF m 7 #[.val (.ref p0), .val (.ref p1), .unset] [])) _
    refine XS.aloadN X0.here hx rfl (hb hby d5_7) rfl rfl ?_
    exact k
  obtain ⟨T2, X2, e2, st2⟩ := instNo X0 hx hZ hown (hw _ (List.mem_of_getElem? (i := 34) rfl)) e0 E_p1 (own_no (hw _ (List.mem_of_getElem? (i := 43) rfl)) (hw _ (List.mem_of_getElem? (i := 19) rfl)) (NS.step (hw _ (List.mem_of_getElem? (i := 43) rfl)) (own_root (hw _ (List.mem_of_getElem? (i := 44) rfl)) (hw _ (List.mem_of_getElem? (i := 19) rfl)) (by decide)) (by decide)) (by decide)) (g := (mkF m 8 #[.val (.ref p0), .val (.ref p1), .unset] [(.ref p1)])) rfl rfl (hb hby d5_8)
  obtain ⟨fs, hr, hrun, hended, hW, hsame⟩ := X2.leave (v := some (.int (0 : Int32))) (fun h => by rw [Bd.returns] at h; cases h)
  refine ⟨_, _, pre1 _ ?_, hrun, hended, _, _, rfl, ?_, ⟨_, rfl⟩, hW, hsame.mono (by decide) (by decide)⟩
  · show Steps p.tables e below (s₁.setTop (mkF m 8 #[.val (.ref p0), .val (.ref p1), .unset] [(.ref p1)])) _
    refine st2 _ ?_
    show Steps p.tables e below (T2.setTop (mkF m 11 #[.val (.ref p0), .val (.ref p1), .unset] [(.int (0 : Int32))])) _
    refine XS.ifNo X2.here hx rfl (hb hby d5_11) rfl ((if0 _ _).trans (teq (by decide : (0 : Int32) = (0 : Int32))).2) ?_
    show Steps p.tables e below (T2.setTop (mkF m 14 #[.val (.ref p0), .val (.ref p1), .unset] [])) _
    refine XS.iconst X2.here hx rfl (hb hby d5_14) ?_
    show Steps p.tables e below (T2.setTop (mkF m 15 #[.val (.ref p0), .val (.ref p1), .unset] [(.int (0 : Int32))])) _
    exact retN X2 hx (t := .boolean) Bd.returns (by simp) (hb hby d5_15) hr
  · show Q_5l Z p0 p1 h0 n0 _ T2.heap _
    rw [e2]
    exact ⟨congrArg (fun z => some (Value.int z)) (by rfl : (0 : Int32) = f_5l ), N0, rfl⟩
theorem pd_0 : parseMethodDescriptor "(Ljava/lang/Object;)Z" = some ⟨[(.object "java/lang/Object")], some .boolean⟩ := by decide +kernel
theorem d5_16 : decode prog_18_method_6_code 16 = .ok (.aload_n 1, 1) := by decide +kernel
theorem d5_17 : decode prog_18_method_6_code 17 = .ok (.checkcast 17, 3) := by decide +kernel
theorem d5_20 : decode prog_18_method_6_code 20 = .ok (.astore_n 2, 1) := by decide +kernel
theorem d5_21 : decode prog_18_method_6_code 21 = .ok (.aload_n 0, 1) := by decide +kernel
theorem d5_22 : decode prog_18_method_6_code 22 = .ok (.getfield 22, 3) := by decide +kernel
theorem d5_25 : decode prog_18_method_6_code 25 = .ok (.aload_n 2, 1) := by decide +kernel
theorem d5_26 : decode prog_18_method_6_code 26 = .ok (.getfield 22, 3) := by decide +kernel
theorem d5_29 : decode prog_18_method_6_code 29 = .ok (.lcmp, 1) := by decide +kernel
theorem d5_30 : decode prog_18_method_6_code 30 = .ok (.ifCond .ne 21, 3) := by decide +kernel
theorem d5_33 : decode prog_18_method_6_code 33 = .ok (.aload_n 0, 1) := by decide +kernel
theorem d5_34 : decode prog_18_method_6_code 34 = .ok (.getfield 16, 3) := by decide +kernel
theorem d5_37 : decode prog_18_method_6_code 37 = .ok (.aload_n 2, 1) := by decide +kernel
theorem d5_38 : decode prog_18_method_6_code 38 = .ok (.getfield 16, 3) := by decide +kernel
theorem d5_41 : decode prog_18_method_6_code 41 = .ok (.invokevirtual 79, 3) := by decide +kernel
theorem d5_44 : decode prog_18_method_6_code 44 = .ok (.ifCond .eq 7, 3) := by decide +kernel
theorem d5_47 : decode prog_18_method_6_code 47 = .ok (.iconst 1, 1) := by decide +kernel
theorem d5_48 : decode prog_18_method_6_code 48 = .ok (.goto 4, 3) := by decide +kernel
theorem d5_51 : decode prog_18_method_6_code 51 = .ok (.iconst 0, 1) := by decide +kernel
theorem d5_52 : decode prog_18_method_6_code 52 = .ok (.ireturn, 1) := by decide +kernel
theorem ef_5o (m : MethodId) (p0 : Addr) (p1 : Addr) : entryFrame m #[(.ref p0), (.ref p1)] 3 = mkF m 0 #[.val (.ref p0), .val (.ref p1), .unset] [] := by first | (simp [entryFrame, mkF, argsToLocals, Value.category]; done) | rfl
def f_5o (n0_ : Int64) (n1_ : Int64) (l0_ : Int32) (c0_ : Int64) (l1_ : Int32) (c1_ : Int64) : Int32 := (if n0_ = n1_ then let ms0_52 : Int32 := (if (f_6o l0_ c0_ l1_ c1_) = (0 : Int32) then (0 : Int32) else (1 : Int32)); ms0_52 else (0 : Int32))
def Q_5o (Z : State) (p0 : Addr) (p1 : Addr) (n0_ : Int64) (n1_ : Int64) (r0_ : Addr) (r1_ : Addr) (l0_ : Int32) (c0_ : Int64) (l1_ : Int32) (c1_ : Int64) (h0 : Heap) (n0 : Nat) (v : Option Value) (h : Heap) (L : List Loc) : Prop := v = some (.int (f_5o n0_ n1_ l0_ c0_ l1_ c1_)) ∧ Fr n0 L ∧ h = h0
set_option maxRecDepth 65536 in
set_option maxHeartbeats 40000000 in
theorem rm_5o (l : Launch) (Z : State) (a0 : Array Value) (hw : ∀ d ∈ tables_1, d.before a0 Z = true) (ws : List Jvm.Cond) (p0 : Addr) (p1 : Addr) (n0_ : Int64) (n1_ : Int64) (r0_ : Addr) (r1_ : Addr) (l0_ : Int32) (c0_ : Int64) (l1_ : Int32) (c1_ : Int64) (h0 : Heap) (n0 : Nat) (Z0 : n0 ≤ h0.size) (ne_p0_p1 : p0 ≠ p1) (E_p1 : Exa Z h0 p1 "com/example/sibyl/sibyl/kernel/ObjectId") (F_p0_count : Fld Z h0 p0 "com/example/sibyl/sibyl/kernel/ObjectId" "count" "J" (.long n0_)) (F_p1_count : Fld Z h0 p1 "com/example/sibyl/sibyl/kernel/ObjectId" "count" "J" (.long n1_)) (F_p0_creator : Fld Z h0 p0 "com/example/sibyl/sibyl/kernel/ObjectId" "creator" "Lcom/example/sibyl/sibyl/kernel/Label;" (.ref r0_)) (F_p1_creator : Fld Z h0 p1 "com/example/sibyl/sibyl/kernel/ObjectId" "creator" "Lcom/example/sibyl/sibyl/kernel/Label;" (.ref r1_)) (ne_r0__r1_ : r0_ ≠ r1_) (E_r0_ : Exa Z h0 r0_ "com/example/sibyl/sibyl/kernel/Label") (E_r1_ : Exa Z h0 r1_ "com/example/sibyl/sibyl/kernel/Label") (F_r0__level : Fld Z h0 r0_ "com/example/sibyl/sibyl/kernel/Label" "level" "I" (.int l0_)) (F_r0__categories : Fld Z h0 r0_ "com/example/sibyl/sibyl/kernel/Label" "categories" "J" (.long c0_)) (F_r1__level : Fld Z h0 r1_ "com/example/sibyl/sibyl/kernel/Label" "level" "I" (.int l1_)) (F_r1__categories : Fld Z h0 r1_ "com/example/sibyl/sibyl/kernel/Label" "categories" "J" (.long c1_)) :
    MetFree l (⟨"com/example/sibyl/sibyl/kernel/ObjectId", "equals", "(Ljava/lang/Object;)Z"⟩ : MethodName) (head1 (Jvm.Cond.code (⟨"com/example/sibyl/sibyl/kernel/ObjectId", "equals", "(Ljava/lang/Object;)Z"⟩ : MethodName) prog_18_method_6_code 3 (some .boolean) :: ws) ({ frames := 1, cells := 0, slots := 0, locals := 14 } : Room)) (fun a U => a = #[(.ref p0), (.ref p1)] ∧ Z.Warmed39 U.vm ∧ U.heap = h0) (fun _ _ _ _ _ => True) (fun _ U o U' => ∃ v L, o = .returned v ∧ Q_5o Z p0 p1 n0_ n1_ r0_ r1_ l0_ c0_ l1_ c1_ h0 n0 v U'.heap L ∧ FrameEnd U o U' L ({ frames := 1, cells := 0, slots := 0, locals := 14 } : Room).cells ({ frames := 1, cells := 0, slots := 0, locals := 14 } : Room).slots) := by
  refine MetFree.of_bodySF (plainFor_of_name pn_5) hisR ?_
  intro p e s m args below meth c s₁ Bd hml0 hP hK
  obtain ⟨rfl, hZ, hh⟩ := hP
  have hx := Bd.exec
  have hby := Bd.bytes
  have hml : c.maxLocals = 3 := hml0
  have hown : s.vm.findClass "com/example/sibyl/sibyl/kernel/ObjectId" = some m.cls := findClass_of_methodNamed Bd.named
  have hnm := (name_of_methodNamed Bd.named Bd.method).1
  have X0 : Stand p l e ({ frames := 1, cells := 0, slots := 0, locals := 14 } : Room) s m #[(.ref p0), (.ref p1)] below meth c s₁ [] 0 0 := Stand.of_body Bd
  have e0 : s₁.heap = h0 := by rw [← hh, Bd.state]; rfl
  have N0 := Fr.nil n0
  have K0 : Keep h0 h0 [] := Keep.refl h0 _
  have pre0 : ∀ t, Steps p.tables e below (s₁.setTop (mkF m 0 #[.val (.ref p0), .val (.ref p1), .unset] [])) t → Steps p.tables e below (s₁.setTop (entryFrame m #[(.ref p0), (.ref p1)] 3)) t := fun t k => castTop (ef_5o m p0 p1) k
  have pre1 : ∀ t, Steps p.tables e below (s₁.setTop (mkF m 8 #[.val (.ref p0), .val (.ref p1), .unset] [(.ref p1)])) t → Steps p.tables e below (s₁.setTop (entryFrame m #[(.ref p0), (.ref p1)] 3)) t := by
    intro t k
    refine pre0 t ?_
    show Steps p.tables e below (s₁.setTop (mkF m 0 #[.val (.ref p0), .val (.ref p1), .unset] [])) _
    refine XS.aloadN X0.here hx rfl (hb hby d5_0) rfl rfl ?_
    show Steps p.tables e below (s₁.setTop (mkF m 1 #[.val (.ref p0), .val (.ref p1), .unset] [(.ref p0)])) _
    refine XS.aloadN X0.here hx rfl (hb hby d5_1) rfl rfl ?_
    show Steps p.tables e below (s₁.setTop (mkF m 2 #[.val (.ref p0), .val (.ref p1), .unset] [(.ref p1), (.ref p0)])) _
    refine Jvm.RoadKit.acmp (g := (mkF m 2 #[.val (.ref p0), .val (.ref p1), .unset] [(.ref p1), (.ref p0)])) X0 hx rfl rfl rfl (pc0 := 2) (pc' := 7) (same := false) rfl (hb hby d5_2) rfl (decide_eq_false fun q => (ne_p0_p1 : p0 ≠ p1) (Value.ref.inj q)) (by decide) (by decide) ?_
    show Steps p.tables e below (s₁.setTop (mkF m 7 #[.val (.ref p0), .val (.ref p1), .unset] [])) _
    refine XS.aloadN X0.here hx rfl (hb hby d5_7) rfl rfl ?_
    exact k
  obtain ⟨T2, X2, e2, st2⟩ := instY X0 hx hZ hown (hw _ (List.mem_of_getElem? (i := 34) rfl)) e0 (Ins.self E_p1) (g := (mkF m 8 #[.val (.ref p0), .val (.ref p1), .unset] [(.ref p1)])) rfl rfl (hb hby d5_8)
  have pre3 : ∀ t, Steps p.tables e below (T2.setTop (mkF m 17 #[.val (.ref p0), .val (.ref p1), .unset] [(.ref p1)])) t → Steps p.tables e below (s₁.setTop (entryFrame m #[(.ref p0), (.ref p1)] 3)) t := by
    intro t k
    refine pre1 t ?_
    show Steps p.tables e below (s₁.setTop (mkF m 8 #[.val (.ref p0), .val (.ref p1), .unset] [(.ref p1)])) _
    refine st2 _ ?_
    show Steps p.tables e below (T2.setTop (mkF m 11 #[.val (.ref p0), .val (.ref p1), .unset] [(.int (1 : Int32))])) _
    refine XS.ifYes X2.here hx rfl (pc0 := 11) (pc' := 16) rfl (hb hby d5_11) rfl ((if0 _ _).trans (feq (by decide : ¬ ((1 : Int32) = (0 : Int32)))).2) (by decide) (by decide) ?_
    show Steps p.tables e below (T2.setTop (mkF m 16 #[.val (.ref p0), .val (.ref p1), .unset] [])) _
    refine XS.aloadN X2.here hx rfl (hb hby d5_16) rfl rfl ?_
    exact k
  obtain ⟨T4, X4, e4, st4⟩ := castY X2 hx hZ hown (hw _ (List.mem_of_getElem? (i := 34) rfl)) e2 (Ins.self E_p1) (g := (mkF m 17 #[.val (.ref p0), .val (.ref p1), .unset] [(.ref p1)])) rfl rfl (hb hby d5_17)
  have pre5 : ∀ t, Steps p.tables e below (T4.setTop (mkF m 22 #[.val (.ref p0), .val (.ref p1), .val (.ref p1)] [(.ref p0)])) t → Steps p.tables e below (s₁.setTop (entryFrame m #[(.ref p0), (.ref p1)] 3)) t := by
    intro t k
    refine pre3 t ?_
    show Steps p.tables e below (T2.setTop (mkF m 17 #[.val (.ref p0), .val (.ref p1), .unset] [(.ref p1)])) _
    refine st4 _ ?_
    show Steps p.tables e below (T4.setTop (mkF m 20 #[.val (.ref p0), .val (.ref p1), .unset] [(.ref p1)])) _
    refine XS.astoreN X4.here hx rfl (hb hby d5_20) rfl rfl (l' := #[.val (.ref p0), .val (.ref p1), .val (.ref p1)]) rfl ?_
    show Steps p.tables e below (T4.setTop (mkF m 21 #[.val (.ref p0), .val (.ref p1), .val (.ref p1)] [])) _
    refine XS.aloadN X4.here hx rfl (hb hby d5_21) rfl rfl ?_
    exact k
  obtain ⟨T6, X6, e6, st6⟩ := getF X4 hx hZ hown (host := "") (Or.inl (hw _ (List.mem_of_getElem? (i := 27) rfl))) Via.refl e4 F_p0_count (g := (mkF m 22 #[.val (.ref p0), .val (.ref p1), .val (.ref p1)] [(.ref p0)])) rfl rfl (hb hby d5_22)
  have pre7 : ∀ t, Steps p.tables e below (T6.setTop (mkF m 26 #[.val (.ref p0), .val (.ref p1), .val (.ref p1)] [(.ref p1), (.long n0_)])) t → Steps p.tables e below (s₁.setTop (entryFrame m #[(.ref p0), (.ref p1)] 3)) t := by
    intro t k
    refine pre5 t ?_
    show Steps p.tables e below (T4.setTop (mkF m 22 #[.val (.ref p0), .val (.ref p1), .val (.ref p1)] [(.ref p0)])) _
    refine st6 _ ?_
    show Steps p.tables e below (T6.setTop (mkF m 25 #[.val (.ref p0), .val (.ref p1), .val (.ref p1)] [(.long n0_)])) _
    refine XS.aloadN X6.here hx rfl (hb hby d5_25) rfl rfl ?_
    exact k
  obtain ⟨T8, X8, e8, st8⟩ := getF X6 hx hZ hown (host := "") (Or.inl (hw _ (List.mem_of_getElem? (i := 27) rfl))) Via.refl e6 F_p1_count (g := (mkF m 26 #[.val (.ref p0), .val (.ref p1), .val (.ref p1)] [(.ref p1), (.long n0_)])) rfl rfl (hb hby d5_26)
  have pre9 : ∀ t, Steps p.tables e below (T8.setTop (mkF m 30 #[.val (.ref p0), .val (.ref p1), .val (.ref p1)] [(.int (lcmpW n0_ n1_))])) t → Steps p.tables e below (s₁.setTop (entryFrame m #[(.ref p0), (.ref p1)] 3)) t := by
    intro t k
    refine pre7 t ?_
    show Steps p.tables e below (T6.setTop (mkF m 26 #[.val (.ref p0), .val (.ref p1), .val (.ref p1)] [(.ref p1), (.long n0_)])) _
    refine st8 _ ?_
    show Steps p.tables e below (T8.setTop (mkF m 29 #[.val (.ref p0), .val (.ref p1), .val (.ref p1)] [(.long n1_), (.long n0_)])) _
    refine XS.lcmp X8.here hx rfl (hb hby d5_29) rfl ?_
    exact k
  by_cases hc30 : n0_ = n1_
  · have pre10 : ∀ t, Steps p.tables e below (T8.setTop (mkF m 34 #[.val (.ref p0), .val (.ref p1), .val (.ref p1)] [(.ref p0)])) t → Steps p.tables e below (s₁.setTop (entryFrame m #[(.ref p0), (.ref p1)] 3)) t := by
      intro t k
      refine pre9 t ?_
      show Steps p.tables e below (T8.setTop (mkF m 30 #[.val (.ref p0), .val (.ref p1), .val (.ref p1)] [(.int (lcmpW n0_ n1_))])) _
      refine XS.ifNo X8.here hx rfl (hb hby d5_30) rfl ((if0 _ _).trans (teq ((lw_eq _ _).mpr hc30)).2) ?_
      show Steps p.tables e below (T8.setTop (mkF m 33 #[.val (.ref p0), .val (.ref p1), .val (.ref p1)] [])) _
      refine XS.aloadN X8.here hx rfl (hb hby d5_33) rfl rfl ?_
      exact k
    obtain ⟨T11, X11, e11, st11⟩ := getF X8 hx hZ hown (host := "") (Or.inl (hw _ (List.mem_of_getElem? (i := 25) rfl))) Via.refl e8 F_p0_creator (g := (mkF m 34 #[.val (.ref p0), .val (.ref p1), .val (.ref p1)] [(.ref p0)])) rfl rfl (hb hby d5_34)
    have pre12 : ∀ t, Steps p.tables e below (T11.setTop (mkF m 38 #[.val (.ref p0), .val (.ref p1), .val (.ref p1)] [(.ref p1), (.ref r0_)])) t → Steps p.tables e below (s₁.setTop (entryFrame m #[(.ref p0), (.ref p1)] 3)) t := by
      intro t k
      refine pre10 t ?_
      show Steps p.tables e below (T8.setTop (mkF m 34 #[.val (.ref p0), .val (.ref p1), .val (.ref p1)] [(.ref p0)])) _
      refine st11 _ ?_
      show Steps p.tables e below (T11.setTop (mkF m 37 #[.val (.ref p0), .val (.ref p1), .val (.ref p1)] [(.ref r0_)])) _
      refine XS.aloadN X11.here hx rfl (hb hby d5_37) rfl rfl ?_
      exact k
    obtain ⟨T13, X13, e13, st13⟩ := getF X11 hx hZ hown (host := "") (Or.inl (hw _ (List.mem_of_getElem? (i := 25) rfl))) Via.refl e11 F_p1_creator (g := (mkF m 38 #[.val (.ref p0), .val (.ref p1), .val (.ref p1)] [(.ref p1), (.ref r0_)])) rfl rfl (hb hby d5_38)
    have pre15 : ∀ t, Steps p.tables e below (T13.setTop (mkF m 41 #[.val (.ref p0), .val (.ref p1), .val (.ref p1)] [(.ref r1_), (.ref r0_)])) t → Steps p.tables e below (s₁.setTop (entryFrame m #[(.ref p0), (.ref p1)] 3)) t := by
      intro t k
      refine pre12 t ?_
      show Steps p.tables e below (T11.setTop (mkF m 38 #[.val (.ref p0), .val (.ref p1), .val (.ref p1)] [(.ref p1), (.ref r0_)])) _
      refine st13 _ ?_
      exact k
    obtain ⟨cq14, kq14, q14a, q14b, q14c⟩ := isOf hZ e13 E_r0_
    obtain ⟨_, _, ⟨T14, L14, k14, n14⟩, -, X14, ⟨Lc14, hQ14, l14, y14, z14⟩, st14⟩ := X13.virtualBack hx (y := (⟨"com/example/sibyl/sibyl/kernel/Label", "equals", "(Ljava/lang/Object;)Z"⟩ : MethodName)) (z := (⟨"com/example/sibyl/sibyl/kernel/Label", "equals", "(Ljava/lang/Object;)Z"⟩ : MethodName)) hown (mvT hZ (hw _ (List.mem_of_getElem? (i := 36) rfl))) (mvT hZ (hw _ (List.mem_of_getElem? (i := 37) rfl))) (notFace_of_selects (args := #[]) (mvT hZ (hw _ (List.mem_of_getElem? (i := 39) rfl)))) (mvT hZ (hw _ (List.mem_of_getElem? (i := 39) rfl))) (mvT hZ (hw _ (List.mem_of_getElem? (i := 38) rfl))) (by decide) (backOf (W := 0) (rm_6o l Z a0 hw [] r0_ r1_ l0_ c0_ l1_ c1_ h0 n0 Z0 ne_r0__r1_ E_r1_ F_r0__level F_r0__categories F_r1__level F_r1__categories) hZ (hw _ (List.mem_of_getElem? (i := 40) rfl)) (hw _ (List.mem_of_getElem? (i := 7) rfl)) (by decide) (by decide)) q14a q14c (g := (mkF m 41 #[.val (.ref p0), .val (.ref p1), .val (.ref p1)] [(.ref r1_), (.ref r0_)])) rfl (by rw [hml]; rfl) (Steps.refl _) (argsL := [(.ref r1_)]) (rest := []) (lenOf pd_0 rfl) rfl (by show 2 * 0 + _ ≤ _; exact Nat.le_of_eq rfl) (hb hby d5_41) (fun _ _ => ⟨rfl, e13, (by decide : 0 + 0 ≤ _), (by decide : 0 + 0 ≤ _)⟩)
    dsimp only [Pt.U, Pt.locs, Pt.cells, Pt.slots] at X14 l14 y14 z14 st14 hQ14
    subst l14 y14 z14
    obtain ⟨rfl, N14q, e14⟩ := hQ14
    have N14 := Fr.app N0 N14q
    have pre16 : ∀ t, Steps p.tables e below (T14.setTop (mkF m 44 #[.val (.ref p0), .val (.ref p1), .val (.ref p1)] [(.int (f_6o l0_ c0_ l1_ c1_))])) t → Steps p.tables e below (s₁.setTop (entryFrame m #[(.ref p0), (.ref p1)] 3)) t := by
      intro t k
      refine pre15 t ?_
      show Steps p.tables e below (T13.setTop (mkF m 41 #[.val (.ref p0), .val (.ref p1), .val (.ref p1)] [(.ref r1_), (.ref r0_)])) _
      refine st14.trans ?_
      exact k
    obtain ⟨ms0_52, hms0_52⟩ : ∃ z : Int32, z = (if (f_6o l0_ c0_ l1_ c1_) = (0 : Int32) then (0 : Int32) else (1 : Int32)) := ⟨_, rfl⟩
    have pre17 : ∀ t, Steps p.tables e below (T14.setTop (mkF m 52 #[.val (.ref p0), .val (.ref p1), .val (.ref p1)] [(.int ms0_52)])) t → Steps p.tables e below (s₁.setTop (entryFrame m #[(.ref p0), (.ref p1)] 3)) t := by
      intro t k
      refine pre16 t ?_
      by_cases hc44 : (f_6o l0_ c0_ l1_ c1_) = (0 : Int32)
      · show Steps p.tables e below (T14.setTop (mkF m 44 #[.val (.ref p0), .val (.ref p1), .val (.ref p1)] [(.int (f_6o l0_ c0_ l1_ c1_))])) _
        refine XS.ifYes X14.here hx rfl (pc0 := 44) (pc' := 51) rfl (hb hby d5_44) rfl ((if0 _ _).trans (teq hc44).1) (by decide) (by decide) ?_
        show Steps p.tables e below (T14.setTop (mkF m 51 #[.val (.ref p0), .val (.ref p1), .val (.ref p1)] [])) _
        refine XS.iconst X14.here hx rfl (hb hby d5_51) ?_
        have qms0_52 : ms0_52 = (0 : Int32) := by rw [hms0_52, if_pos hc44]
        rw [qms0_52] at k
        exact k
      · show Steps p.tables e below (T14.setTop (mkF m 44 #[.val (.ref p0), .val (.ref p1), .val (.ref p1)] [(.int (f_6o l0_ c0_ l1_ c1_))])) _
        refine XS.ifNo X14.here hx rfl (hb hby d5_44) rfl ((if0 _ _).trans (feq hc44).1) ?_
        show Steps p.tables e below (T14.setTop (mkF m 47 #[.val (.ref p0), .val (.ref p1), .val (.ref p1)] [])) _
        refine XS.iconst X14.here hx rfl (hb hby d5_47) ?_
        show Steps p.tables e below (T14.setTop (mkF m 48 #[.val (.ref p0), .val (.ref p1), .val (.ref p1)] [(.int (1 : Int32))])) _
        refine XS.goto X14.here hx rfl (pc0 := 48) (pc' := 52) rfl (hb hby d5_48) (by decide) (by decide) ?_
        have qms0_52 : ms0_52 = (1 : Int32) := by rw [hms0_52, if_neg hc44]
        rw [qms0_52] at k
        exact k
    have hnar : nar .boolean ms0_52 = ms0_52 := by rw [hms0_52]; (repeat' split) <;> rfl
    obtain ⟨fs, hr, hrun, hended, hW, hsame⟩ := X14.leave (v := some (.int ms0_52)) (fun h => by rw [Bd.returns] at h; cases h)
    refine ⟨_, _, pre17 _ ?_, hrun, hended, _, _, rfl, ?_, ⟨_, rfl⟩, hW, hsame.mono (by decide) (by decide)⟩
    · show Steps p.tables e below (T14.setTop (mkF m 52 #[.val (.ref p0), .val (.ref p1), .val (.ref p1)] [(.int ms0_52)])) _
      exact retN X14 hx (t := .boolean) Bd.returns (by simp) (hb hby d5_52) (by rw [hnar]; exact hr)
    · show Q_5o Z p0 p1 n0_ n1_ r0_ r1_ l0_ c0_ l1_ c1_ h0 n0 _ T14.heap _
      rw [e14]
      exact ⟨congrArg (fun z => some (Value.int z)) (by subst hms0_52; exact (if_pos hc30).symm : ms0_52 = f_5o n0_ n1_ l0_ c0_ l1_ c1_), N14, rfl⟩
  · obtain ⟨fs, hr, hrun, hended, hW, hsame⟩ := X8.leave (v := some (.int (0 : Int32))) (fun h => by rw [Bd.returns] at h; cases h)
    refine ⟨_, _, pre9 _ ?_, hrun, hended, _, _, rfl, ?_, ⟨_, rfl⟩, hW, hsame.mono (by decide) (by decide)⟩
    · show Steps p.tables e below (T8.setTop (mkF m 30 #[.val (.ref p0), .val (.ref p1), .val (.ref p1)] [(.int (lcmpW n0_ n1_))])) _
      refine XS.ifYes X8.here hx rfl (pc0 := 30) (pc' := 51) rfl (hb hby d5_30) rfl ((if0 _ _).trans (feq (fun q => hc30 ((lw_eq _ _).mp q))).2) (by decide) (by decide) ?_
      show Steps p.tables e below (T8.setTop (mkF m 51 #[.val (.ref p0), .val (.ref p1), .val (.ref p1)] [])) _
      refine XS.iconst X8.here hx rfl (hb hby d5_51) ?_
      show Steps p.tables e below (T8.setTop (mkF m 52 #[.val (.ref p0), .val (.ref p1), .val (.ref p1)] [(.int (0 : Int32))])) _
      exact retN X8 hx (t := .boolean) Bd.returns (by simp) (hb hby d5_52) hr
    · show Q_5o Z p0 p1 n0_ n1_ r0_ r1_ l0_ c0_ l1_ c1_ h0 n0 _ T8.heap _
      rw [e8]
      exact ⟨congrArg (fun z => some (Value.int z)) (by exact (if_neg hc30).symm : (0 : Int32) = f_5o n0_ n1_ l0_ c0_ l1_ c1_), N0, rfl⟩
theorem own_mx (x : Int64) : ¬ f_1 (1 : Int64) x < (1 : Int64) := by
  unfold f_1
  by_cases h : (1 : Int64) < x
  · simp only [h, if_true]
    rw [Int64.lt_iff_toInt_lt] at h ⊢
    omega
  · simp only [h, if_false]
    decide
theorem own_mx2 {c : Prop} [Decidable c] {v w x y : Int64} (h : v = if c then f_1 (1 : Int64) x else w) (hw : w = f_1 (1 : Int64) y) : ¬ v < (1 : Int64) := by
  subst hw
  rw [h]
  split
  · exact own_mx x
  · exact own_mx y
theorem pd_1 : parseMethodDescriptor "(JJ)J" = some ⟨[.long, .long], some .long⟩ := by decide +kernel
theorem pd_2 : parseMethodDescriptor "(IJ)V" = some ⟨[.int, .long], none⟩ := by decide +kernel
theorem pd_3 : parseMethodDescriptor "(Lcom/example/sibyl/sibyl/kernel/Label;J)V" = some ⟨[(.object "com/example/sibyl/sibyl/kernel/Label"), .long], none⟩ := by decide +kernel
theorem pn_0 : plainName "com/example/sibyl/sibyl/kernel/ObjectIdEqualsPinLaw" = true := by first | (simp [plainName, overriddenIn]; done) | decide +kernel
theorem ef_0 (m : MethodId) (p0 : Int32) (p1 : Int64) (p2 : Int64) (p3 : Int32) (p4 : Int64) (p5 : Int64) : entryFrame m #[(.int p0), (.long p1), (.long p2), (.int p3), (.long p4), (.long p5)] maxLocals = mkF m 0 #[.val (.int p0), .val (.long p1), .second, .val (.long p2), .second, .val (.int p3), .val (.long p4), .second, .val (.long p5), .second, .unset, .unset, .unset, .unset, .unset, .unset, .unset, .unset, .unset, .unset, .unset, .unset, .unset, .unset, .unset, .unset, .unset] [] := by first | (simp [entryFrame, mkF, argsToLocals, Value.category, maxLocals]; done) | rfl
def f_0 (p0 : Int32) (p1 : Int64) (p2 : Int64) (p3 : Int32) (p4 : Int64) (p5 : Int64) : Int32 := let v10_9 : Int64 := (f_1 (1 : Int64) (p2 &&& (9223372036854775807 : Int64))); let ms0_23 : Int32 := (if (p3 &&& (4 : Int32)) = (0 : Int32) then (0 : Int32) else (1 : Int32)); let ms0_38 : Int32 := (if (p3 &&& (8 : Int32)) = (0 : Int32) then (0 : Int32) else (1 : Int32)); let ms0_53 : Int32 := (if (p3 &&& (16 : Int32)) = (0 : Int32) then (0 : Int32) else (1 : Int32)); let ms0_70 : Int32 := (if ms0_23 = (0 : Int32) then (p0 ^^^ (p3 >>> ((5 : Int32) &&& 31))) else p0); let ms0_83 : Int64 := (if ms0_38 = (0 : Int32) then p4 else p1); let ms0_105 : Int64 := (if ms0_53 = (0 : Int32) then (f_1 (1 : Int64) (p5 &&& (9223372036854775807 : Int64))) else v10_9); let v24_161 : Int32 := (p3 &&& (3 : Int32)); (if v24_161 = (0 : Int32) then let ms0_198 : Int32 := (if ms0_70 = p0 then (if ms0_83 = p1 then (if ms0_105 = v10_9 then (1 : Int32) else (0 : Int32)) else (0 : Int32)) else (0 : Int32)); let ms0_258 : Int32 := (if (f_5o v10_9 ms0_105 p0 p1 ms0_70 ms0_83) = ms0_198 then (1 : Int32) else (0 : Int32)); ms0_258 else (if v24_161 = (1 : Int32) then let ms0_258 : Int32 := (if f_5s = (1 : Int32) then (1 : Int32) else (0 : Int32)); ms0_258 else (if v24_161 = (2 : Int32) then let ms0_258 : Int32 := (if f_5n = (0 : Int32) then (1 : Int32) else (0 : Int32)); ms0_258 else let ms0_258 : Int32 := (if f_5l = (0 : Int32) then (1 : Int32) else (0 : Int32)); ms0_258)))
def Q_0 (Z : State) (p0 : Int32) (p1 : Int64) (p2 : Int64) (p3 : Int32) (p4 : Int64) (p5 : Int64)  (h0 : Heap) (n0 : Nat) (v : Option Value) (h : Heap) (L : List Loc) : Prop := v = some (.int (f_0 p0 p1 p2 p3 p4 p5)) ∧ Fr n0 L ∧ True
set_option maxRecDepth 65536 in
set_option maxHeartbeats 40000000 in
theorem rm_0 (l : Launch) (Z : State) (a0 : Array Value) (hw : ∀ d ∈ tables_1, d.before a0 Z = true) (ws : List Jvm.Cond) (p0 : Int32) (p1 : Int64) (p2 : Int64) (p3 : Int32) (p4 : Int64) (p5 : Int64)  (h0 : Heap) (n0 : Nat) (Z0 : n0 ≤ h0.size)  :
    MetFree l x (head1 (Jvm.Cond.code x code maxLocals ret :: ws) room_1) (fun a U => a = #[(.int p0), (.long p1), (.long p2), (.int p3), (.long p4), (.long p5)] ∧ Z.Warmed39 U.vm ∧ U.heap = h0) (fun _ _ _ _ _ => True) (fun _ U o U' => ∃ v L, o = .returned v ∧ Q_0 Z p0 p1 p2 p3 p4 p5 h0 n0 v U'.heap L ∧ FrameEnd U o U' L 4 8) := by
  refine MetFree.of_bodySF (plainFor_of_name pn_0) hisR ?_
  intro p e s m args below meth c s₁ Bd hml0 hP hK
  obtain ⟨rfl, hZ, hh⟩ := hP
  have hx := Bd.exec
  have hby := Bd.bytes
  have hml : c.maxLocals = 27 := hml0
  have hown : s.vm.findClass "com/example/sibyl/sibyl/kernel/ObjectIdEqualsPinLaw" = some m.cls := findClass_of_methodNamed Bd.named
  have hnm := (name_of_methodNamed Bd.named Bd.method).1
  have X0 : Stand p l e room_1 s m #[(.int p0), (.long p1), (.long p2), (.int p3), (.long p4), (.long p5)] below meth c s₁ [] 0 0 := Stand.of_body Bd
  have e0 : s₁.heap = h0 := by rw [← hh, Bd.state]; rfl
  have N0 := Fr.nil n0
  have K0 : Keep h0 h0 [] := Keep.refl h0 _
  have pre0 : ∀ t, Steps p.tables e below (s₁.setTop (mkF m 0 #[.val (.int p0), .val (.long p1), .second, .val (.long p2), .second, .val (.int p3), .val (.long p4), .second, .val (.long p5), .second, .unset, .unset, .unset, .unset, .unset, .unset, .unset, .unset, .unset, .unset, .unset, .unset, .unset, .unset, .unset, .unset, .unset] [])) t → Steps p.tables e below (s₁.setTop (entryFrame m #[(.int p0), (.long p1), (.long p2), (.int p3), (.long p4), (.long p5)] maxLocals)) t := fun t k => castTop (ef_0 m p0 p1 p2 p3 p4 p5) k
  have pre2 : ∀ t, Steps p.tables e below (s₁.setTop (mkF m 6 #[.val (.int p0), .val (.long p1), .second, .val (.long p2), .second, .val (.int p3), .val (.long p4), .second, .val (.long p5), .second, .unset, .unset, .unset, .unset, .unset, .unset, .unset, .unset, .unset, .unset, .unset, .unset, .unset, .unset, .unset, .unset, .unset] [(.long (p2 &&& (9223372036854775807 : Int64))), (.long (1 : Int64))])) t → Steps p.tables e below (s₁.setTop (entryFrame m #[(.int p0), (.long p1), (.long p2), (.int p3), (.long p4), (.long p5)] maxLocals)) t := by
    intro t k
    refine pre0 t ?_
    show Steps p.tables e below (s₁.setTop (mkF m 0 #[.val (.int p0), .val (.long p1), .second, .val (.long p2), .second, .val (.int p3), .val (.long p4), .second, .val (.long p5), .second, .unset, .unset, .unset, .unset, .unset, .unset, .unset, .unset, .unset, .unset, .unset, .unset, .unset, .unset, .unset, .unset, .unset] [])) _
    refine XS.lconst X0.here hx rfl (hb hby at_0) ?_
    show Steps p.tables e below (s₁.setTop (mkF m 1 #[.val (.int p0), .val (.long p1), .second, .val (.long p2), .second, .val (.int p3), .val (.long p4), .second, .val (.long p5), .second, .unset, .unset, .unset, .unset, .unset, .unset, .unset, .unset, .unset, .unset, .unset, .unset, .unset, .unset, .unset, .unset, .unset] [(.long (1 : Int64))])) _
    refine XS.lloadN X0.here hx rfl (hb hby at_1) rfl  ?_
    show Steps p.tables e below (s₁.setTop (mkF m 2 #[.val (.int p0), .val (.long p1), .second, .val (.long p2), .second, .val (.int p3), .val (.long p4), .second, .val (.long p5), .second, .unset, .unset, .unset, .unset, .unset, .unset, .unset, .unset, .unset, .unset, .unset, .unset, .unset, .unset, .unset, .unset, .unset] [(.long p2), (.long (1 : Int64))])) _
    refine X0.ldc2Long hx hown (mvT hZ (hw _ (List.mem_of_getElem? (i := 0) rfl))) (g := (mkF m 2 #[.val (.int p0), .val (.long p1), .second, .val (.long p2), .second, .val (.int p3), .val (.long p4), .second, .val (.long p5), .second, .unset, .unset, .unset, .unset, .unset, .unset, .unset, .unset, .unset, .unset, .unset, .unset, .unset, .unset, .unset, .unset, .unset] [(.long p2), (.long (1 : Int64))])) rfl (hb hby at_2) _ ?_
    show Steps p.tables e below (s₁.setTop (mkF m 5 #[.val (.int p0), .val (.long p1), .second, .val (.long p2), .second, .val (.int p3), .val (.long p4), .second, .val (.long p5), .second, .unset, .unset, .unset, .unset, .unset, .unset, .unset, .unset, .unset, .unset, .unset, .unset, .unset, .unset, .unset, .unset, .unset] [(.long (9223372036854775807 : Int64)), (.long p2), (.long (1 : Int64))])) _
    refine XS.land X0.here hx rfl (hb hby at_5) rfl ?_
    exact k
  obtain ⟨_, _, ⟨T1, L1, k1, n1⟩, -, X1, ⟨Lc1, hQ1, l1, y1, z1⟩, st1⟩ := Jvm.LawKit.callS X0 hx (y := (⟨"java/lang/Math", "max", "(JJ)J"⟩ : MethodName)) hown (mvT hZ (hw _ (List.mem_of_getElem? (i := 1) rfl))) (mvT hZ (hw _ (List.mem_of_getElem? (i := 2) rfl))) (mvT hZ (hw _ (List.mem_of_getElem? (i := 3) rfl))) (mvT hZ (hw _ (List.mem_of_getElem? (i := 4) rfl))) (by decide) (backOf (W := 0) (rm_1 l Z a0 hw [] (1 : Int64) (p2 &&& (9223372036854775807 : Int64)) h0 n0 Z0 ) hZ (hw _ (List.mem_of_getElem? (i := 4) rfl)) (hw _ (List.mem_of_getElem? (i := 3) rfl)) (by decide) (by decide)) (g := (mkF m 6 #[.val (.int p0), .val (.long p1), .second, .val (.long p2), .second, .val (.int p3), .val (.long p4), .second, .val (.long p5), .second, .unset, .unset, .unset, .unset, .unset, .unset, .unset, .unset, .unset, .unset, .unset, .unset, .unset, .unset, .unset, .unset, .unset] [(.long (p2 &&& (9223372036854775807 : Int64))), (.long (1 : Int64))])) rfl (by rw [hml]; rfl) (argsL := [(.long (1 : Int64)), (.long (p2 &&& (9223372036854775807 : Int64)))]) (rest := []) (lenOf pd_1 rfl) rfl (by show 2 * 0 + _ ≤ _; exact Nat.le_of_eq rfl) (hb hby at_6) (fun _ _ => ⟨rfl, e0, (by decide : 0 + 0 ≤ _), (by decide : 0 + 0 ≤ _)⟩)
  dsimp only [Pt.U, Pt.locs, Pt.cells, Pt.slots] at X1 l1 y1 z1 st1 hQ1
  subst l1 y1 z1
  obtain ⟨rfl, N1q, e1⟩ := hQ1
  have N1 := Fr.app N0 N1q
  obtain ⟨v10_9, hv10_9⟩ : ∃ z : Int64, z = (f_1 (1 : Int64) (p2 &&& (9223372036854775807 : Int64))) := ⟨_, rfl⟩
  have pre3 : ∀ t, Steps p.tables e below (T1.setTop (mkF m 15 #[.val (.int p0), .val (.long p1), .second, .val (.long p2), .second, .val (.int p3), .val (.long p4), .second, .val (.long p5), .second, .val (.long v10_9), .second, .unset, .unset, .unset, .unset, .unset, .unset, .unset, .unset, .unset, .unset, .unset, .unset, .unset, .unset, .unset] [(.int (p3 &&& (4 : Int32)))])) t → Steps p.tables e below (s₁.setTop (entryFrame m #[(.int p0), (.long p1), (.long p2), (.int p3), (.long p4), (.long p5)] maxLocals)) t := by
    intro t k
    refine pre2 t ?_
    show Steps p.tables e below (s₁.setTop (mkF m 6 #[.val (.int p0), .val (.long p1), .second, .val (.long p2), .second, .val (.int p3), .val (.long p4), .second, .val (.long p5), .second, .unset, .unset, .unset, .unset, .unset, .unset, .unset, .unset, .unset, .unset, .unset, .unset, .unset, .unset, .unset, .unset, .unset] [(.long (p2 &&& (9223372036854775807 : Int64))), (.long (1 : Int64))])) _
    refine st1 _ ?_
    show Steps p.tables e below (T1.setTop (mkF m 9 #[.val (.int p0), .val (.long p1), .second, .val (.long p2), .second, .val (.int p3), .val (.long p4), .second, .val (.long p5), .second, .unset, .unset, .unset, .unset, .unset, .unset, .unset, .unset, .unset, .unset, .unset, .unset, .unset, .unset, .unset, .unset, .unset] [(.long (f_1 (1 : Int64) (p2 &&& (9223372036854775807 : Int64))))])) _
    refine XS.lstore X1.here hx rfl (hb hby at_9) rfl (l' := #[.val (.int p0), .val (.long p1), .second, .val (.long p2), .second, .val (.int p3), .val (.long p4), .second, .val (.long p5), .second, .val (.long v10_9), .second, .unset, .unset, .unset, .unset, .unset, .unset, .unset, .unset, .unset, .unset, .unset, .unset, .unset, .unset, .unset]) (by rw [hv10_9]; rfl) ?_
    show Steps p.tables e below (T1.setTop (mkF m 11 #[.val (.int p0), .val (.long p1), .second, .val (.long p2), .second, .val (.int p3), .val (.long p4), .second, .val (.long p5), .second, .val (.long v10_9), .second, .unset, .unset, .unset, .unset, .unset, .unset, .unset, .unset, .unset, .unset, .unset, .unset, .unset, .unset, .unset] [])) _
    refine XS.iload X1.here hx rfl (hb hby at_11) rfl  ?_
    show Steps p.tables e below (T1.setTop (mkF m 13 #[.val (.int p0), .val (.long p1), .second, .val (.long p2), .second, .val (.int p3), .val (.long p4), .second, .val (.long p5), .second, .val (.long v10_9), .second, .unset, .unset, .unset, .unset, .unset, .unset, .unset, .unset, .unset, .unset, .unset, .unset, .unset, .unset, .unset] [(.int p3)])) _
    refine XS.iconst X1.here hx rfl (hb hby at_13) ?_
    show Steps p.tables e below (T1.setTop (mkF m 14 #[.val (.int p0), .val (.long p1), .second, .val (.long p2), .second, .val (.int p3), .val (.long p4), .second, .val (.long p5), .second, .val (.long v10_9), .second, .unset, .unset, .unset, .unset, .unset, .unset, .unset, .unset, .unset, .unset, .unset, .unset, .unset, .unset, .unset] [(.int (4 : Int32)), (.int p3)])) _
    refine XS.iand X1.here hx rfl (hb hby at_14) rfl ?_
    exact k
  obtain ⟨ms0_23, hms0_23⟩ : ∃ z : Int32, z = (if (p3 &&& (4 : Int32)) = (0 : Int32) then (0 : Int32) else (1 : Int32)) := ⟨_, rfl⟩
  have pre4 : ∀ t, Steps p.tables e below (T1.setTop (mkF m 23 #[.val (.int p0), .val (.long p1), .second, .val (.long p2), .second, .val (.int p3), .val (.long p4), .second, .val (.long p5), .second, .val (.long v10_9), .second, .unset, .unset, .unset, .unset, .unset, .unset, .unset, .unset, .unset, .unset, .unset, .unset, .unset, .unset, .unset] [(.int ms0_23)])) t → Steps p.tables e below (s₁.setTop (entryFrame m #[(.int p0), (.long p1), (.long p2), (.int p3), (.long p4), (.long p5)] maxLocals)) t := by
    intro t k
    refine pre3 t ?_
    by_cases hc15 : (p3 &&& (4 : Int32)) = (0 : Int32)
    · show Steps p.tables e below (T1.setTop (mkF m 15 #[.val (.int p0), .val (.long p1), .second, .val (.long p2), .second, .val (.int p3), .val (.long p4), .second, .val (.long p5), .second, .val (.long v10_9), .second, .unset, .unset, .unset, .unset, .unset, .unset, .unset, .unset, .unset, .unset, .unset, .unset, .unset, .unset, .unset] [(.int (p3 &&& (4 : Int32)))])) _
      refine XS.ifYes X1.here hx rfl (pc0 := 15) (pc' := 22) rfl (hb hby at_15) rfl ((if0 _ _).trans (teq hc15).1) (by decide) (by decide) ?_
      show Steps p.tables e below (T1.setTop (mkF m 22 #[.val (.int p0), .val (.long p1), .second, .val (.long p2), .second, .val (.int p3), .val (.long p4), .second, .val (.long p5), .second, .val (.long v10_9), .second, .unset, .unset, .unset, .unset, .unset, .unset, .unset, .unset, .unset, .unset, .unset, .unset, .unset, .unset, .unset] [])) _
      refine XS.iconst X1.here hx rfl (hb hby at_22) ?_
      have qms0_23 : ms0_23 = (0 : Int32) := by rw [hms0_23, if_pos hc15]
      rw [qms0_23] at k
      exact k
    · show Steps p.tables e below (T1.setTop (mkF m 15 #[.val (.int p0), .val (.long p1), .second, .val (.long p2), .second, .val (.int p3), .val (.long p4), .second, .val (.long p5), .second, .val (.long v10_9), .second, .unset, .unset, .unset, .unset, .unset, .unset, .unset, .unset, .unset, .unset, .unset, .unset, .unset, .unset, .unset] [(.int (p3 &&& (4 : Int32)))])) _
      refine XS.ifNo X1.here hx rfl (hb hby at_15) rfl ((if0 _ _).trans (feq hc15).1) ?_
      show Steps p.tables e below (T1.setTop (mkF m 18 #[.val (.int p0), .val (.long p1), .second, .val (.long p2), .second, .val (.int p3), .val (.long p4), .second, .val (.long p5), .second, .val (.long v10_9), .second, .unset, .unset, .unset, .unset, .unset, .unset, .unset, .unset, .unset, .unset, .unset, .unset, .unset, .unset, .unset] [])) _
      refine XS.iconst X1.here hx rfl (hb hby at_18) ?_
      show Steps p.tables e below (T1.setTop (mkF m 19 #[.val (.int p0), .val (.long p1), .second, .val (.long p2), .second, .val (.int p3), .val (.long p4), .second, .val (.long p5), .second, .val (.long v10_9), .second, .unset, .unset, .unset, .unset, .unset, .unset, .unset, .unset, .unset, .unset, .unset, .unset, .unset, .unset, .unset] [(.int (1 : Int32))])) _
      refine XS.goto X1.here hx rfl (pc0 := 19) (pc' := 23) rfl (hb hby at_19) (by decide) (by decide) ?_
      have qms0_23 : ms0_23 = (1 : Int32) := by rw [hms0_23, if_neg hc15]
      rw [qms0_23] at k
      exact k
  have pre5 : ∀ t, Steps p.tables e below (T1.setTop (mkF m 30 #[.val (.int p0), .val (.long p1), .second, .val (.long p2), .second, .val (.int p3), .val (.long p4), .second, .val (.long p5), .second, .val (.long v10_9), .second, .val (.int ms0_23), .unset, .unset, .unset, .unset, .unset, .unset, .unset, .unset, .unset, .unset, .unset, .unset, .unset, .unset] [(.int (p3 &&& (8 : Int32)))])) t → Steps p.tables e below (s₁.setTop (entryFrame m #[(.int p0), (.long p1), (.long p2), (.int p3), (.long p4), (.long p5)] maxLocals)) t := by
    intro t k
    refine pre4 t ?_
    show Steps p.tables e below (T1.setTop (mkF m 23 #[.val (.int p0), .val (.long p1), .second, .val (.long p2), .second, .val (.int p3), .val (.long p4), .second, .val (.long p5), .second, .val (.long v10_9), .second, .unset, .unset, .unset, .unset, .unset, .unset, .unset, .unset, .unset, .unset, .unset, .unset, .unset, .unset, .unset] [(.int ms0_23)])) _
    refine XS.istore X1.here hx rfl (hb hby at_23) rfl (l' := #[.val (.int p0), .val (.long p1), .second, .val (.long p2), .second, .val (.int p3), .val (.long p4), .second, .val (.long p5), .second, .val (.long v10_9), .second, .val (.int ms0_23), .unset, .unset, .unset, .unset, .unset, .unset, .unset, .unset, .unset, .unset, .unset, .unset, .unset, .unset]) rfl ?_
    show Steps p.tables e below (T1.setTop (mkF m 25 #[.val (.int p0), .val (.long p1), .second, .val (.long p2), .second, .val (.int p3), .val (.long p4), .second, .val (.long p5), .second, .val (.long v10_9), .second, .val (.int ms0_23), .unset, .unset, .unset, .unset, .unset, .unset, .unset, .unset, .unset, .unset, .unset, .unset, .unset, .unset] [])) _
    refine XS.iload X1.here hx rfl (hb hby at_25) rfl  ?_
    show Steps p.tables e below (T1.setTop (mkF m 27 #[.val (.int p0), .val (.long p1), .second, .val (.long p2), .second, .val (.int p3), .val (.long p4), .second, .val (.long p5), .second, .val (.long v10_9), .second, .val (.int ms0_23), .unset, .unset, .unset, .unset, .unset, .unset, .unset, .unset, .unset, .unset, .unset, .unset, .unset, .unset] [(.int p3)])) _
    refine XS.bipush X1.here hx rfl (hb hby at_27) ?_
    show Steps p.tables e below (T1.setTop (mkF m 29 #[.val (.int p0), .val (.long p1), .second, .val (.long p2), .second, .val (.int p3), .val (.long p4), .second, .val (.long p5), .second, .val (.long v10_9), .second, .val (.int ms0_23), .unset, .unset, .unset, .unset, .unset, .unset, .unset, .unset, .unset, .unset, .unset, .unset, .unset, .unset] [(.int (8 : Int32)), (.int p3)])) _
    refine XS.iand X1.here hx rfl (hb hby at_29) rfl ?_
    exact k
  obtain ⟨ms0_38, hms0_38⟩ : ∃ z : Int32, z = (if (p3 &&& (8 : Int32)) = (0 : Int32) then (0 : Int32) else (1 : Int32)) := ⟨_, rfl⟩
  have pre6 : ∀ t, Steps p.tables e below (T1.setTop (mkF m 38 #[.val (.int p0), .val (.long p1), .second, .val (.long p2), .second, .val (.int p3), .val (.long p4), .second, .val (.long p5), .second, .val (.long v10_9), .second, .val (.int ms0_23), .unset, .unset, .unset, .unset, .unset, .unset, .unset, .unset, .unset, .unset, .unset, .unset, .unset, .unset] [(.int ms0_38)])) t → Steps p.tables e below (s₁.setTop (entryFrame m #[(.int p0), (.long p1), (.long p2), (.int p3), (.long p4), (.long p5)] maxLocals)) t := by
    intro t k
    refine pre5 t ?_
    by_cases hc30 : (p3 &&& (8 : Int32)) = (0 : Int32)
    · show Steps p.tables e below (T1.setTop (mkF m 30 #[.val (.int p0), .val (.long p1), .second, .val (.long p2), .second, .val (.int p3), .val (.long p4), .second, .val (.long p5), .second, .val (.long v10_9), .second, .val (.int ms0_23), .unset, .unset, .unset, .unset, .unset, .unset, .unset, .unset, .unset, .unset, .unset, .unset, .unset, .unset] [(.int (p3 &&& (8 : Int32)))])) _
      refine XS.ifYes X1.here hx rfl (pc0 := 30) (pc' := 37) rfl (hb hby at_30) rfl ((if0 _ _).trans (teq hc30).1) (by decide) (by decide) ?_
      show Steps p.tables e below (T1.setTop (mkF m 37 #[.val (.int p0), .val (.long p1), .second, .val (.long p2), .second, .val (.int p3), .val (.long p4), .second, .val (.long p5), .second, .val (.long v10_9), .second, .val (.int ms0_23), .unset, .unset, .unset, .unset, .unset, .unset, .unset, .unset, .unset, .unset, .unset, .unset, .unset, .unset] [])) _
      refine XS.iconst X1.here hx rfl (hb hby at_37) ?_
      have qms0_38 : ms0_38 = (0 : Int32) := by rw [hms0_38, if_pos hc30]
      rw [qms0_38] at k
      exact k
    · show Steps p.tables e below (T1.setTop (mkF m 30 #[.val (.int p0), .val (.long p1), .second, .val (.long p2), .second, .val (.int p3), .val (.long p4), .second, .val (.long p5), .second, .val (.long v10_9), .second, .val (.int ms0_23), .unset, .unset, .unset, .unset, .unset, .unset, .unset, .unset, .unset, .unset, .unset, .unset, .unset, .unset] [(.int (p3 &&& (8 : Int32)))])) _
      refine XS.ifNo X1.here hx rfl (hb hby at_30) rfl ((if0 _ _).trans (feq hc30).1) ?_
      show Steps p.tables e below (T1.setTop (mkF m 33 #[.val (.int p0), .val (.long p1), .second, .val (.long p2), .second, .val (.int p3), .val (.long p4), .second, .val (.long p5), .second, .val (.long v10_9), .second, .val (.int ms0_23), .unset, .unset, .unset, .unset, .unset, .unset, .unset, .unset, .unset, .unset, .unset, .unset, .unset, .unset] [])) _
      refine XS.iconst X1.here hx rfl (hb hby at_33) ?_
      show Steps p.tables e below (T1.setTop (mkF m 34 #[.val (.int p0), .val (.long p1), .second, .val (.long p2), .second, .val (.int p3), .val (.long p4), .second, .val (.long p5), .second, .val (.long v10_9), .second, .val (.int ms0_23), .unset, .unset, .unset, .unset, .unset, .unset, .unset, .unset, .unset, .unset, .unset, .unset, .unset, .unset] [(.int (1 : Int32))])) _
      refine XS.goto X1.here hx rfl (pc0 := 34) (pc' := 38) rfl (hb hby at_34) (by decide) (by decide) ?_
      have qms0_38 : ms0_38 = (1 : Int32) := by rw [hms0_38, if_neg hc30]
      rw [qms0_38] at k
      exact k
  have pre7 : ∀ t, Steps p.tables e below (T1.setTop (mkF m 45 #[.val (.int p0), .val (.long p1), .second, .val (.long p2), .second, .val (.int p3), .val (.long p4), .second, .val (.long p5), .second, .val (.long v10_9), .second, .val (.int ms0_23), .val (.int ms0_38), .unset, .unset, .unset, .unset, .unset, .unset, .unset, .unset, .unset, .unset, .unset, .unset, .unset] [(.int (p3 &&& (16 : Int32)))])) t → Steps p.tables e below (s₁.setTop (entryFrame m #[(.int p0), (.long p1), (.long p2), (.int p3), (.long p4), (.long p5)] maxLocals)) t := by
    intro t k
    refine pre6 t ?_
    show Steps p.tables e below (T1.setTop (mkF m 38 #[.val (.int p0), .val (.long p1), .second, .val (.long p2), .second, .val (.int p3), .val (.long p4), .second, .val (.long p5), .second, .val (.long v10_9), .second, .val (.int ms0_23), .unset, .unset, .unset, .unset, .unset, .unset, .unset, .unset, .unset, .unset, .unset, .unset, .unset, .unset] [(.int ms0_38)])) _
    refine XS.istore X1.here hx rfl (hb hby at_38) rfl (l' := #[.val (.int p0), .val (.long p1), .second, .val (.long p2), .second, .val (.int p3), .val (.long p4), .second, .val (.long p5), .second, .val (.long v10_9), .second, .val (.int ms0_23), .val (.int ms0_38), .unset, .unset, .unset, .unset, .unset, .unset, .unset, .unset, .unset, .unset, .unset, .unset, .unset]) rfl ?_
    show Steps p.tables e below (T1.setTop (mkF m 40 #[.val (.int p0), .val (.long p1), .second, .val (.long p2), .second, .val (.int p3), .val (.long p4), .second, .val (.long p5), .second, .val (.long v10_9), .second, .val (.int ms0_23), .val (.int ms0_38), .unset, .unset, .unset, .unset, .unset, .unset, .unset, .unset, .unset, .unset, .unset, .unset, .unset] [])) _
    refine XS.iload X1.here hx rfl (hb hby at_40) rfl  ?_
    show Steps p.tables e below (T1.setTop (mkF m 42 #[.val (.int p0), .val (.long p1), .second, .val (.long p2), .second, .val (.int p3), .val (.long p4), .second, .val (.long p5), .second, .val (.long v10_9), .second, .val (.int ms0_23), .val (.int ms0_38), .unset, .unset, .unset, .unset, .unset, .unset, .unset, .unset, .unset, .unset, .unset, .unset, .unset] [(.int p3)])) _
    refine XS.bipush X1.here hx rfl (hb hby at_42) ?_
    show Steps p.tables e below (T1.setTop (mkF m 44 #[.val (.int p0), .val (.long p1), .second, .val (.long p2), .second, .val (.int p3), .val (.long p4), .second, .val (.long p5), .second, .val (.long v10_9), .second, .val (.int ms0_23), .val (.int ms0_38), .unset, .unset, .unset, .unset, .unset, .unset, .unset, .unset, .unset, .unset, .unset, .unset, .unset] [(.int (16 : Int32)), (.int p3)])) _
    refine XS.iand X1.here hx rfl (hb hby at_44) rfl ?_
    exact k
  obtain ⟨ms0_53, hms0_53⟩ : ∃ z : Int32, z = (if (p3 &&& (16 : Int32)) = (0 : Int32) then (0 : Int32) else (1 : Int32)) := ⟨_, rfl⟩
  have pre8 : ∀ t, Steps p.tables e below (T1.setTop (mkF m 53 #[.val (.int p0), .val (.long p1), .second, .val (.long p2), .second, .val (.int p3), .val (.long p4), .second, .val (.long p5), .second, .val (.long v10_9), .second, .val (.int ms0_23), .val (.int ms0_38), .unset, .unset, .unset, .unset, .unset, .unset, .unset, .unset, .unset, .unset, .unset, .unset, .unset] [(.int ms0_53)])) t → Steps p.tables e below (s₁.setTop (entryFrame m #[(.int p0), (.long p1), (.long p2), (.int p3), (.long p4), (.long p5)] maxLocals)) t := by
    intro t k
    refine pre7 t ?_
    by_cases hc45 : (p3 &&& (16 : Int32)) = (0 : Int32)
    · show Steps p.tables e below (T1.setTop (mkF m 45 #[.val (.int p0), .val (.long p1), .second, .val (.long p2), .second, .val (.int p3), .val (.long p4), .second, .val (.long p5), .second, .val (.long v10_9), .second, .val (.int ms0_23), .val (.int ms0_38), .unset, .unset, .unset, .unset, .unset, .unset, .unset, .unset, .unset, .unset, .unset, .unset, .unset] [(.int (p3 &&& (16 : Int32)))])) _
      refine XS.ifYes X1.here hx rfl (pc0 := 45) (pc' := 52) rfl (hb hby at_45) rfl ((if0 _ _).trans (teq hc45).1) (by decide) (by decide) ?_
      show Steps p.tables e below (T1.setTop (mkF m 52 #[.val (.int p0), .val (.long p1), .second, .val (.long p2), .second, .val (.int p3), .val (.long p4), .second, .val (.long p5), .second, .val (.long v10_9), .second, .val (.int ms0_23), .val (.int ms0_38), .unset, .unset, .unset, .unset, .unset, .unset, .unset, .unset, .unset, .unset, .unset, .unset, .unset] [])) _
      refine XS.iconst X1.here hx rfl (hb hby at_52) ?_
      have qms0_53 : ms0_53 = (0 : Int32) := by rw [hms0_53, if_pos hc45]
      rw [qms0_53] at k
      exact k
    · show Steps p.tables e below (T1.setTop (mkF m 45 #[.val (.int p0), .val (.long p1), .second, .val (.long p2), .second, .val (.int p3), .val (.long p4), .second, .val (.long p5), .second, .val (.long v10_9), .second, .val (.int ms0_23), .val (.int ms0_38), .unset, .unset, .unset, .unset, .unset, .unset, .unset, .unset, .unset, .unset, .unset, .unset, .unset] [(.int (p3 &&& (16 : Int32)))])) _
      refine XS.ifNo X1.here hx rfl (hb hby at_45) rfl ((if0 _ _).trans (feq hc45).1) ?_
      show Steps p.tables e below (T1.setTop (mkF m 48 #[.val (.int p0), .val (.long p1), .second, .val (.long p2), .second, .val (.int p3), .val (.long p4), .second, .val (.long p5), .second, .val (.long v10_9), .second, .val (.int ms0_23), .val (.int ms0_38), .unset, .unset, .unset, .unset, .unset, .unset, .unset, .unset, .unset, .unset, .unset, .unset, .unset] [])) _
      refine XS.iconst X1.here hx rfl (hb hby at_48) ?_
      show Steps p.tables e below (T1.setTop (mkF m 49 #[.val (.int p0), .val (.long p1), .second, .val (.long p2), .second, .val (.int p3), .val (.long p4), .second, .val (.long p5), .second, .val (.long v10_9), .second, .val (.int ms0_23), .val (.int ms0_38), .unset, .unset, .unset, .unset, .unset, .unset, .unset, .unset, .unset, .unset, .unset, .unset, .unset] [(.int (1 : Int32))])) _
      refine XS.goto X1.here hx rfl (pc0 := 49) (pc' := 53) rfl (hb hby at_49) (by decide) (by decide) ?_
      have qms0_53 : ms0_53 = (1 : Int32) := by rw [hms0_53, if_neg hc45]
      rw [qms0_53] at k
      exact k
  have pre9 : ∀ t, Steps p.tables e below (T1.setTop (mkF m 57 #[.val (.int p0), .val (.long p1), .second, .val (.long p2), .second, .val (.int p3), .val (.long p4), .second, .val (.long p5), .second, .val (.long v10_9), .second, .val (.int ms0_23), .val (.int ms0_38), .val (.int ms0_53), .unset, .unset, .unset, .unset, .unset, .unset, .unset, .unset, .unset, .unset, .unset, .unset] [(.int ms0_23)])) t → Steps p.tables e below (s₁.setTop (entryFrame m #[(.int p0), (.long p1), (.long p2), (.int p3), (.long p4), (.long p5)] maxLocals)) t := by
    intro t k
    refine pre8 t ?_
    show Steps p.tables e below (T1.setTop (mkF m 53 #[.val (.int p0), .val (.long p1), .second, .val (.long p2), .second, .val (.int p3), .val (.long p4), .second, .val (.long p5), .second, .val (.long v10_9), .second, .val (.int ms0_23), .val (.int ms0_38), .unset, .unset, .unset, .unset, .unset, .unset, .unset, .unset, .unset, .unset, .unset, .unset, .unset] [(.int ms0_53)])) _
    refine XS.istore X1.here hx rfl (hb hby at_53) rfl (l' := #[.val (.int p0), .val (.long p1), .second, .val (.long p2), .second, .val (.int p3), .val (.long p4), .second, .val (.long p5), .second, .val (.long v10_9), .second, .val (.int ms0_23), .val (.int ms0_38), .val (.int ms0_53), .unset, .unset, .unset, .unset, .unset, .unset, .unset, .unset, .unset, .unset, .unset, .unset]) rfl ?_
    show Steps p.tables e below (T1.setTop (mkF m 55 #[.val (.int p0), .val (.long p1), .second, .val (.long p2), .second, .val (.int p3), .val (.long p4), .second, .val (.long p5), .second, .val (.long v10_9), .second, .val (.int ms0_23), .val (.int ms0_38), .val (.int ms0_53), .unset, .unset, .unset, .unset, .unset, .unset, .unset, .unset, .unset, .unset, .unset, .unset] [])) _
    refine XS.iload X1.here hx rfl (hb hby at_55) rfl  ?_
    exact k
  obtain ⟨ms0_70, hms0_70⟩ : ∃ z : Int32, z = (if ms0_23 = (0 : Int32) then (p0 ^^^ (p3 >>> ((5 : Int32) &&& 31))) else p0) := ⟨_, rfl⟩
  have pre10 : ∀ t, Steps p.tables e below (T1.setTop (mkF m 70 #[.val (.int p0), .val (.long p1), .second, .val (.long p2), .second, .val (.int p3), .val (.long p4), .second, .val (.long p5), .second, .val (.long v10_9), .second, .val (.int ms0_23), .val (.int ms0_38), .val (.int ms0_53), .unset, .unset, .unset, .unset, .unset, .unset, .unset, .unset, .unset, .unset, .unset, .unset] [(.int ms0_70)])) t → Steps p.tables e below (s₁.setTop (entryFrame m #[(.int p0), (.long p1), (.long p2), (.int p3), (.long p4), (.long p5)] maxLocals)) t := by
    intro t k
    refine pre9 t ?_
    by_cases hc57 : ms0_23 = (0 : Int32)
    · show Steps p.tables e below (T1.setTop (mkF m 57 #[.val (.int p0), .val (.long p1), .second, .val (.long p2), .second, .val (.int p3), .val (.long p4), .second, .val (.long p5), .second, .val (.long v10_9), .second, .val (.int ms0_23), .val (.int ms0_38), .val (.int ms0_53), .unset, .unset, .unset, .unset, .unset, .unset, .unset, .unset, .unset, .unset, .unset, .unset] [(.int ms0_23)])) _
      refine XS.ifYes X1.here hx rfl (pc0 := 57) (pc' := 64) rfl (hb hby at_57) rfl ((if0 _ _).trans (teq hc57).1) (by decide) (by decide) ?_
      show Steps p.tables e below (T1.setTop (mkF m 64 #[.val (.int p0), .val (.long p1), .second, .val (.long p2), .second, .val (.int p3), .val (.long p4), .second, .val (.long p5), .second, .val (.long v10_9), .second, .val (.int ms0_23), .val (.int ms0_38), .val (.int ms0_53), .unset, .unset, .unset, .unset, .unset, .unset, .unset, .unset, .unset, .unset, .unset, .unset] [])) _
      refine XS.iloadN X1.here hx rfl (hb hby at_64) rfl  ?_
      show Steps p.tables e below (T1.setTop (mkF m 65 #[.val (.int p0), .val (.long p1), .second, .val (.long p2), .second, .val (.int p3), .val (.long p4), .second, .val (.long p5), .second, .val (.long v10_9), .second, .val (.int ms0_23), .val (.int ms0_38), .val (.int ms0_53), .unset, .unset, .unset, .unset, .unset, .unset, .unset, .unset, .unset, .unset, .unset, .unset] [(.int p0)])) _
      refine XS.iload X1.here hx rfl (hb hby at_65) rfl  ?_
      show Steps p.tables e below (T1.setTop (mkF m 67 #[.val (.int p0), .val (.long p1), .second, .val (.long p2), .second, .val (.int p3), .val (.long p4), .second, .val (.long p5), .second, .val (.long v10_9), .second, .val (.int ms0_23), .val (.int ms0_38), .val (.int ms0_53), .unset, .unset, .unset, .unset, .unset, .unset, .unset, .unset, .unset, .unset, .unset, .unset] [(.int p3), (.int p0)])) _
      refine XS.iconst X1.here hx rfl (hb hby at_67) ?_
      show Steps p.tables e below (T1.setTop (mkF m 68 #[.val (.int p0), .val (.long p1), .second, .val (.long p2), .second, .val (.int p3), .val (.long p4), .second, .val (.long p5), .second, .val (.long v10_9), .second, .val (.int ms0_23), .val (.int ms0_38), .val (.int ms0_53), .unset, .unset, .unset, .unset, .unset, .unset, .unset, .unset, .unset, .unset, .unset, .unset] [(.int (5 : Int32)), (.int p3), (.int p0)])) _
      refine XS.ishr X1.here hx rfl (hb hby at_68) rfl ?_
      show Steps p.tables e below (T1.setTop (mkF m 69 #[.val (.int p0), .val (.long p1), .second, .val (.long p2), .second, .val (.int p3), .val (.long p4), .second, .val (.long p5), .second, .val (.long v10_9), .second, .val (.int ms0_23), .val (.int ms0_38), .val (.int ms0_53), .unset, .unset, .unset, .unset, .unset, .unset, .unset, .unset, .unset, .unset, .unset, .unset] [(.int (p3 >>> ((5 : Int32) &&& 31))), (.int p0)])) _
      refine XS.ixor X1.here hx rfl (hb hby at_69) rfl ?_
      have qms0_70 : ms0_70 = (p0 ^^^ (p3 >>> ((5 : Int32) &&& 31))) := by rw [hms0_70, if_pos hc57]
      rw [qms0_70] at k
      exact k
    · show Steps p.tables e below (T1.setTop (mkF m 57 #[.val (.int p0), .val (.long p1), .second, .val (.long p2), .second, .val (.int p3), .val (.long p4), .second, .val (.long p5), .second, .val (.long v10_9), .second, .val (.int ms0_23), .val (.int ms0_38), .val (.int ms0_53), .unset, .unset, .unset, .unset, .unset, .unset, .unset, .unset, .unset, .unset, .unset, .unset] [(.int ms0_23)])) _
      refine XS.ifNo X1.here hx rfl (hb hby at_57) rfl ((if0 _ _).trans (feq hc57).1) ?_
      show Steps p.tables e below (T1.setTop (mkF m 60 #[.val (.int p0), .val (.long p1), .second, .val (.long p2), .second, .val (.int p3), .val (.long p4), .second, .val (.long p5), .second, .val (.long v10_9), .second, .val (.int ms0_23), .val (.int ms0_38), .val (.int ms0_53), .unset, .unset, .unset, .unset, .unset, .unset, .unset, .unset, .unset, .unset, .unset, .unset] [])) _
      refine XS.iloadN X1.here hx rfl (hb hby at_60) rfl  ?_
      show Steps p.tables e below (T1.setTop (mkF m 61 #[.val (.int p0), .val (.long p1), .second, .val (.long p2), .second, .val (.int p3), .val (.long p4), .second, .val (.long p5), .second, .val (.long v10_9), .second, .val (.int ms0_23), .val (.int ms0_38), .val (.int ms0_53), .unset, .unset, .unset, .unset, .unset, .unset, .unset, .unset, .unset, .unset, .unset, .unset] [(.int p0)])) _
      refine XS.goto X1.here hx rfl (pc0 := 61) (pc' := 70) rfl (hb hby at_61) (by decide) (by decide) ?_
      have qms0_70 : ms0_70 = p0 := by rw [hms0_70, if_neg hc57]
      rw [qms0_70] at k
      exact k
  have pre11 : ∀ t, Steps p.tables e below (T1.setTop (mkF m 74 #[.val (.int p0), .val (.long p1), .second, .val (.long p2), .second, .val (.int p3), .val (.long p4), .second, .val (.long p5), .second, .val (.long v10_9), .second, .val (.int ms0_23), .val (.int ms0_38), .val (.int ms0_53), .val (.int ms0_70), .unset, .unset, .unset, .unset, .unset, .unset, .unset, .unset, .unset, .unset, .unset] [(.int ms0_38)])) t → Steps p.tables e below (s₁.setTop (entryFrame m #[(.int p0), (.long p1), (.long p2), (.int p3), (.long p4), (.long p5)] maxLocals)) t := by
    intro t k
    refine pre10 t ?_
    show Steps p.tables e below (T1.setTop (mkF m 70 #[.val (.int p0), .val (.long p1), .second, .val (.long p2), .second, .val (.int p3), .val (.long p4), .second, .val (.long p5), .second, .val (.long v10_9), .second, .val (.int ms0_23), .val (.int ms0_38), .val (.int ms0_53), .unset, .unset, .unset, .unset, .unset, .unset, .unset, .unset, .unset, .unset, .unset, .unset] [(.int ms0_70)])) _
    refine XS.istore X1.here hx rfl (hb hby at_70) rfl (l' := #[.val (.int p0), .val (.long p1), .second, .val (.long p2), .second, .val (.int p3), .val (.long p4), .second, .val (.long p5), .second, .val (.long v10_9), .second, .val (.int ms0_23), .val (.int ms0_38), .val (.int ms0_53), .val (.int ms0_70), .unset, .unset, .unset, .unset, .unset, .unset, .unset, .unset, .unset, .unset, .unset]) rfl ?_
    show Steps p.tables e below (T1.setTop (mkF m 72 #[.val (.int p0), .val (.long p1), .second, .val (.long p2), .second, .val (.int p3), .val (.long p4), .second, .val (.long p5), .second, .val (.long v10_9), .second, .val (.int ms0_23), .val (.int ms0_38), .val (.int ms0_53), .val (.int ms0_70), .unset, .unset, .unset, .unset, .unset, .unset, .unset, .unset, .unset, .unset, .unset] [])) _
    refine XS.iload X1.here hx rfl (hb hby at_72) rfl  ?_
    exact k
  obtain ⟨ms0_83, hms0_83⟩ : ∃ z : Int64, z = (if ms0_38 = (0 : Int32) then p4 else p1) := ⟨_, rfl⟩
  have pre12 : ∀ t, Steps p.tables e below (T1.setTop (mkF m 83 #[.val (.int p0), .val (.long p1), .second, .val (.long p2), .second, .val (.int p3), .val (.long p4), .second, .val (.long p5), .second, .val (.long v10_9), .second, .val (.int ms0_23), .val (.int ms0_38), .val (.int ms0_53), .val (.int ms0_70), .unset, .unset, .unset, .unset, .unset, .unset, .unset, .unset, .unset, .unset, .unset] [(.long ms0_83)])) t → Steps p.tables e below (s₁.setTop (entryFrame m #[(.int p0), (.long p1), (.long p2), (.int p3), (.long p4), (.long p5)] maxLocals)) t := by
    intro t k
    refine pre11 t ?_
    by_cases hc74 : ms0_38 = (0 : Int32)
    · show Steps p.tables e below (T1.setTop (mkF m 74 #[.val (.int p0), .val (.long p1), .second, .val (.long p2), .second, .val (.int p3), .val (.long p4), .second, .val (.long p5), .second, .val (.long v10_9), .second, .val (.int ms0_23), .val (.int ms0_38), .val (.int ms0_53), .val (.int ms0_70), .unset, .unset, .unset, .unset, .unset, .unset, .unset, .unset, .unset, .unset, .unset] [(.int ms0_38)])) _
      refine XS.ifYes X1.here hx rfl (pc0 := 74) (pc' := 81) rfl (hb hby at_74) rfl ((if0 _ _).trans (teq hc74).1) (by decide) (by decide) ?_
      show Steps p.tables e below (T1.setTop (mkF m 81 #[.val (.int p0), .val (.long p1), .second, .val (.long p2), .second, .val (.int p3), .val (.long p4), .second, .val (.long p5), .second, .val (.long v10_9), .second, .val (.int ms0_23), .val (.int ms0_38), .val (.int ms0_53), .val (.int ms0_70), .unset, .unset, .unset, .unset, .unset, .unset, .unset, .unset, .unset, .unset, .unset] [])) _
      refine XS.lload X1.here hx rfl (hb hby at_81) rfl  ?_
      have qms0_83 : ms0_83 = p4 := by rw [hms0_83, if_pos hc74]
      rw [qms0_83] at k
      exact k
    · show Steps p.tables e below (T1.setTop (mkF m 74 #[.val (.int p0), .val (.long p1), .second, .val (.long p2), .second, .val (.int p3), .val (.long p4), .second, .val (.long p5), .second, .val (.long v10_9), .second, .val (.int ms0_23), .val (.int ms0_38), .val (.int ms0_53), .val (.int ms0_70), .unset, .unset, .unset, .unset, .unset, .unset, .unset, .unset, .unset, .unset, .unset] [(.int ms0_38)])) _
      refine XS.ifNo X1.here hx rfl (hb hby at_74) rfl ((if0 _ _).trans (feq hc74).1) ?_
      show Steps p.tables e below (T1.setTop (mkF m 77 #[.val (.int p0), .val (.long p1), .second, .val (.long p2), .second, .val (.int p3), .val (.long p4), .second, .val (.long p5), .second, .val (.long v10_9), .second, .val (.int ms0_23), .val (.int ms0_38), .val (.int ms0_53), .val (.int ms0_70), .unset, .unset, .unset, .unset, .unset, .unset, .unset, .unset, .unset, .unset, .unset] [])) _
      refine XS.lloadN X1.here hx rfl (hb hby at_77) rfl  ?_
      show Steps p.tables e below (T1.setTop (mkF m 78 #[.val (.int p0), .val (.long p1), .second, .val (.long p2), .second, .val (.int p3), .val (.long p4), .second, .val (.long p5), .second, .val (.long v10_9), .second, .val (.int ms0_23), .val (.int ms0_38), .val (.int ms0_53), .val (.int ms0_70), .unset, .unset, .unset, .unset, .unset, .unset, .unset, .unset, .unset, .unset, .unset] [(.long p1)])) _
      refine XS.goto X1.here hx rfl (pc0 := 78) (pc' := 83) rfl (hb hby at_78) (by decide) (by decide) ?_
      have qms0_83 : ms0_83 = p1 := by rw [hms0_83, if_neg hc74]
      rw [qms0_83] at k
      exact k
  have pre13 : ∀ t, Steps p.tables e below (T1.setTop (mkF m 87 #[.val (.int p0), .val (.long p1), .second, .val (.long p2), .second, .val (.int p3), .val (.long p4), .second, .val (.long p5), .second, .val (.long v10_9), .second, .val (.int ms0_23), .val (.int ms0_38), .val (.int ms0_53), .val (.int ms0_70), .val (.long ms0_83), .second, .unset, .unset, .unset, .unset, .unset, .unset, .unset, .unset, .unset] [(.int ms0_53)])) t → Steps p.tables e below (s₁.setTop (entryFrame m #[(.int p0), (.long p1), (.long p2), (.int p3), (.long p4), (.long p5)] maxLocals)) t := by
    intro t k
    refine pre12 t ?_
    show Steps p.tables e below (T1.setTop (mkF m 83 #[.val (.int p0), .val (.long p1), .second, .val (.long p2), .second, .val (.int p3), .val (.long p4), .second, .val (.long p5), .second, .val (.long v10_9), .second, .val (.int ms0_23), .val (.int ms0_38), .val (.int ms0_53), .val (.int ms0_70), .unset, .unset, .unset, .unset, .unset, .unset, .unset, .unset, .unset, .unset, .unset] [(.long ms0_83)])) _
    refine XS.lstore X1.here hx rfl (hb hby at_83) rfl (l' := #[.val (.int p0), .val (.long p1), .second, .val (.long p2), .second, .val (.int p3), .val (.long p4), .second, .val (.long p5), .second, .val (.long v10_9), .second, .val (.int ms0_23), .val (.int ms0_38), .val (.int ms0_53), .val (.int ms0_70), .val (.long ms0_83), .second, .unset, .unset, .unset, .unset, .unset, .unset, .unset, .unset, .unset]) rfl ?_
    show Steps p.tables e below (T1.setTop (mkF m 85 #[.val (.int p0), .val (.long p1), .second, .val (.long p2), .second, .val (.int p3), .val (.long p4), .second, .val (.long p5), .second, .val (.long v10_9), .second, .val (.int ms0_23), .val (.int ms0_38), .val (.int ms0_53), .val (.int ms0_70), .val (.long ms0_83), .second, .unset, .unset, .unset, .unset, .unset, .unset, .unset, .unset, .unset] [])) _
    refine XS.iload X1.here hx rfl (hb hby at_85) rfl  ?_
    exact k
  obtain ⟨ms0_105, hms0_105⟩ : ∃ z : Int64, z = (if ms0_53 = (0 : Int32) then (f_1 (1 : Int64) (p5 &&& (9223372036854775807 : Int64))) else v10_9) := ⟨_, rfl⟩
  obtain ⟨T14, h14, lc14, X14, e14, N14, K14, Z14, pre14⟩ : ∃ (T' : State) (h' : Heap) (lc : List Loc), Stand p l e room_1 s m #[(.int p0), (.long p1), (.long p2), (.int p3), (.long p4), (.long p5)] below meth c T' lc 0 0 ∧ T'.heap = h' ∧ Fr n0 lc ∧ Keep h0 h' [] ∧ n0 ≤ h'.size ∧ (∀ t, Steps p.tables e below (T'.setTop (mkF m 105 #[.val (.int p0), .val (.long p1), .second, .val (.long p2), .second, .val (.int p3), .val (.long p4), .second, .val (.long p5), .second, .val (.long v10_9), .second, .val (.int ms0_23), .val (.int ms0_38), .val (.int ms0_53), .val (.int ms0_70), .val (.long ms0_83), .second, .unset, .unset, .unset, .unset, .unset, .unset, .unset, .unset, .unset] [(.long ms0_105)])) t → Steps p.tables e below (s₁.setTop (entryFrame m #[(.int p0), (.long p1), (.long p2), (.int p3), (.long p4), (.long p5)] maxLocals)) t) := by
    by_cases hc87 : ms0_53 = (0 : Int32)
    · have pre16 : ∀ t, Steps p.tables e below (T1.setTop (mkF m 102 #[.val (.int p0), .val (.long p1), .second, .val (.long p2), .second, .val (.int p3), .val (.long p4), .second, .val (.long p5), .second, .val (.long v10_9), .second, .val (.int ms0_23), .val (.int ms0_38), .val (.int ms0_53), .val (.int ms0_70), .val (.long ms0_83), .second, .unset, .unset, .unset, .unset, .unset, .unset, .unset, .unset, .unset] [(.long (p5 &&& (9223372036854775807 : Int64))), (.long (1 : Int64))])) t → Steps p.tables e below (s₁.setTop (entryFrame m #[(.int p0), (.long p1), (.long p2), (.int p3), (.long p4), (.long p5)] maxLocals)) t := by
        intro t k
        refine pre13 t ?_
        show Steps p.tables e below (T1.setTop (mkF m 87 #[.val (.int p0), .val (.long p1), .second, .val (.long p2), .second, .val (.int p3), .val (.long p4), .second, .val (.long p5), .second, .val (.long v10_9), .second, .val (.int ms0_23), .val (.int ms0_38), .val (.int ms0_53), .val (.int ms0_70), .val (.long ms0_83), .second, .unset, .unset, .unset, .unset, .unset, .unset, .unset, .unset, .unset] [(.int ms0_53)])) _
        refine XS.ifYes X1.here hx rfl (pc0 := 87) (pc' := 95) rfl (hb hby at_87) rfl ((if0 _ _).trans (teq hc87).1) (by decide) (by decide) ?_
        show Steps p.tables e below (T1.setTop (mkF m 95 #[.val (.int p0), .val (.long p1), .second, .val (.long p2), .second, .val (.int p3), .val (.long p4), .second, .val (.long p5), .second, .val (.long v10_9), .second, .val (.int ms0_23), .val (.int ms0_38), .val (.int ms0_53), .val (.int ms0_70), .val (.long ms0_83), .second, .unset, .unset, .unset, .unset, .unset, .unset, .unset, .unset, .unset] [])) _
        refine XS.lconst X1.here hx rfl (hb hby at_95) ?_
        show Steps p.tables e below (T1.setTop (mkF m 96 #[.val (.int p0), .val (.long p1), .second, .val (.long p2), .second, .val (.int p3), .val (.long p4), .second, .val (.long p5), .second, .val (.long v10_9), .second, .val (.int ms0_23), .val (.int ms0_38), .val (.int ms0_53), .val (.int ms0_70), .val (.long ms0_83), .second, .unset, .unset, .unset, .unset, .unset, .unset, .unset, .unset, .unset] [(.long (1 : Int64))])) _
        refine XS.lload X1.here hx rfl (hb hby at_96) rfl  ?_
        show Steps p.tables e below (T1.setTop (mkF m 98 #[.val (.int p0), .val (.long p1), .second, .val (.long p2), .second, .val (.int p3), .val (.long p4), .second, .val (.long p5), .second, .val (.long v10_9), .second, .val (.int ms0_23), .val (.int ms0_38), .val (.int ms0_53), .val (.int ms0_70), .val (.long ms0_83), .second, .unset, .unset, .unset, .unset, .unset, .unset, .unset, .unset, .unset] [(.long p5), (.long (1 : Int64))])) _
        refine X1.ldc2Long hx hown (mvT hZ (hw _ (List.mem_of_getElem? (i := 0) rfl))) (g := (mkF m 98 #[.val (.int p0), .val (.long p1), .second, .val (.long p2), .second, .val (.int p3), .val (.long p4), .second, .val (.long p5), .second, .val (.long v10_9), .second, .val (.int ms0_23), .val (.int ms0_38), .val (.int ms0_53), .val (.int ms0_70), .val (.long ms0_83), .second, .unset, .unset, .unset, .unset, .unset, .unset, .unset, .unset, .unset] [(.long p5), (.long (1 : Int64))])) rfl (hb hby at_98) _ ?_
        show Steps p.tables e below (T1.setTop (mkF m 101 #[.val (.int p0), .val (.long p1), .second, .val (.long p2), .second, .val (.int p3), .val (.long p4), .second, .val (.long p5), .second, .val (.long v10_9), .second, .val (.int ms0_23), .val (.int ms0_38), .val (.int ms0_53), .val (.int ms0_70), .val (.long ms0_83), .second, .unset, .unset, .unset, .unset, .unset, .unset, .unset, .unset, .unset] [(.long (9223372036854775807 : Int64)), (.long p5), (.long (1 : Int64))])) _
        refine XS.land X1.here hx rfl (hb hby at_101) rfl ?_
        exact k
      obtain ⟨_, _, ⟨T15, L15, k15, n15⟩, -, X15, ⟨Lc15, hQ15, l15, y15, z15⟩, st15⟩ := Jvm.LawKit.callS X1 hx (y := (⟨"java/lang/Math", "max", "(JJ)J"⟩ : MethodName)) hown (mvT hZ (hw _ (List.mem_of_getElem? (i := 1) rfl))) (mvT hZ (hw _ (List.mem_of_getElem? (i := 2) rfl))) (mvT hZ (hw _ (List.mem_of_getElem? (i := 3) rfl))) (mvT hZ (hw _ (List.mem_of_getElem? (i := 4) rfl))) (by decide) (backOf (W := 0) (rm_1 l Z a0 hw [] (1 : Int64) (p5 &&& (9223372036854775807 : Int64)) h0 n0 Z0 ) hZ (hw _ (List.mem_of_getElem? (i := 4) rfl)) (hw _ (List.mem_of_getElem? (i := 3) rfl)) (by decide) (by decide)) (g := (mkF m 102 #[.val (.int p0), .val (.long p1), .second, .val (.long p2), .second, .val (.int p3), .val (.long p4), .second, .val (.long p5), .second, .val (.long v10_9), .second, .val (.int ms0_23), .val (.int ms0_38), .val (.int ms0_53), .val (.int ms0_70), .val (.long ms0_83), .second, .unset, .unset, .unset, .unset, .unset, .unset, .unset, .unset, .unset] [(.long (p5 &&& (9223372036854775807 : Int64))), (.long (1 : Int64))])) rfl (by rw [hml]; rfl) (argsL := [(.long (1 : Int64)), (.long (p5 &&& (9223372036854775807 : Int64)))]) (rest := []) (lenOf pd_1 rfl) rfl (by show 2 * 0 + _ ≤ _; exact Nat.le_of_eq rfl) (hb hby at_102) (fun _ _ => ⟨rfl, e1, (by decide : 0 + 0 ≤ _), (by decide : 0 + 0 ≤ _)⟩)
      dsimp only [Pt.U, Pt.locs, Pt.cells, Pt.slots] at X15 l15 y15 z15 st15 hQ15
      subst l15 y15 z15
      obtain ⟨rfl, N15q, e15⟩ := hQ15
      have N15 := Fr.app N1 N15q
      have pre17 : ∀ t, Steps p.tables e below (T15.setTop (mkF m 105 #[.val (.int p0), .val (.long p1), .second, .val (.long p2), .second, .val (.int p3), .val (.long p4), .second, .val (.long p5), .second, .val (.long v10_9), .second, .val (.int ms0_23), .val (.int ms0_38), .val (.int ms0_53), .val (.int ms0_70), .val (.long ms0_83), .second, .unset, .unset, .unset, .unset, .unset, .unset, .unset, .unset, .unset] [(.long (f_1 (1 : Int64) (p5 &&& (9223372036854775807 : Int64))))])) t → Steps p.tables e below (s₁.setTop (entryFrame m #[(.int p0), (.long p1), (.long p2), (.int p3), (.long p4), (.long p5)] maxLocals)) t := by
        intro t k
        refine pre16 t ?_
        show Steps p.tables e below (T1.setTop (mkF m 102 #[.val (.int p0), .val (.long p1), .second, .val (.long p2), .second, .val (.int p3), .val (.long p4), .second, .val (.long p5), .second, .val (.long v10_9), .second, .val (.int ms0_23), .val (.int ms0_38), .val (.int ms0_53), .val (.int ms0_70), .val (.long ms0_83), .second, .unset, .unset, .unset, .unset, .unset, .unset, .unset, .unset, .unset] [(.long (p5 &&& (9223372036854775807 : Int64))), (.long (1 : Int64))])) _
        refine st15 _ ?_
        exact k
      have qms0_105 : ms0_105 = (f_1 (1 : Int64) (p5 &&& (9223372036854775807 : Int64))) := by rw [hms0_105, if_pos hc87]
      exact ⟨T15, h0, _, X15, e15, N15, K0, Z0, (by (try rw [qms0_105]); exact pre17)⟩
    · have pre18 : ∀ t, Steps p.tables e below (T1.setTop (mkF m 105 #[.val (.int p0), .val (.long p1), .second, .val (.long p2), .second, .val (.int p3), .val (.long p4), .second, .val (.long p5), .second, .val (.long v10_9), .second, .val (.int ms0_23), .val (.int ms0_38), .val (.int ms0_53), .val (.int ms0_70), .val (.long ms0_83), .second, .unset, .unset, .unset, .unset, .unset, .unset, .unset, .unset, .unset] [(.long v10_9)])) t → Steps p.tables e below (s₁.setTop (entryFrame m #[(.int p0), (.long p1), (.long p2), (.int p3), (.long p4), (.long p5)] maxLocals)) t := by
        intro t k
        refine pre13 t ?_
        show Steps p.tables e below (T1.setTop (mkF m 87 #[.val (.int p0), .val (.long p1), .second, .val (.long p2), .second, .val (.int p3), .val (.long p4), .second, .val (.long p5), .second, .val (.long v10_9), .second, .val (.int ms0_23), .val (.int ms0_38), .val (.int ms0_53), .val (.int ms0_70), .val (.long ms0_83), .second, .unset, .unset, .unset, .unset, .unset, .unset, .unset, .unset, .unset] [(.int ms0_53)])) _
        refine XS.ifNo X1.here hx rfl (hb hby at_87) rfl ((if0 _ _).trans (feq hc87).1) ?_
        show Steps p.tables e below (T1.setTop (mkF m 90 #[.val (.int p0), .val (.long p1), .second, .val (.long p2), .second, .val (.int p3), .val (.long p4), .second, .val (.long p5), .second, .val (.long v10_9), .second, .val (.int ms0_23), .val (.int ms0_38), .val (.int ms0_53), .val (.int ms0_70), .val (.long ms0_83), .second, .unset, .unset, .unset, .unset, .unset, .unset, .unset, .unset, .unset] [])) _
        refine XS.lload X1.here hx rfl (hb hby at_90) rfl  ?_
        show Steps p.tables e below (T1.setTop (mkF m 92 #[.val (.int p0), .val (.long p1), .second, .val (.long p2), .second, .val (.int p3), .val (.long p4), .second, .val (.long p5), .second, .val (.long v10_9), .second, .val (.int ms0_23), .val (.int ms0_38), .val (.int ms0_53), .val (.int ms0_70), .val (.long ms0_83), .second, .unset, .unset, .unset, .unset, .unset, .unset, .unset, .unset, .unset] [(.long v10_9)])) _
        refine XS.goto X1.here hx rfl (pc0 := 92) (pc' := 105) rfl (hb hby at_92) (by decide) (by decide) ?_
        exact k
      have qms0_105 : ms0_105 = v10_9 := by rw [hms0_105, if_neg hc87]
      exact ⟨T1, h0, _, X1, e1, N1, K0, Z0, (by (try rw [qms0_105]); exact pre18)⟩
  have pre19 : ∀ t, Steps p.tables e below (T14.setTop (mkF m 107 #[.val (.int p0), .val (.long p1), .second, .val (.long p2), .second, .val (.int p3), .val (.long p4), .second, .val (.long p5), .second, .val (.long v10_9), .second, .val (.int ms0_23), .val (.int ms0_38), .val (.int ms0_53), .val (.int ms0_70), .val (.long ms0_83), .second, .val (.long ms0_105), .second, .unset, .unset, .unset, .unset, .unset, .unset, .unset] [])) t → Steps p.tables e below (s₁.setTop (entryFrame m #[(.int p0), (.long p1), (.long p2), (.int p3), (.long p4), (.long p5)] maxLocals)) t := by
    intro t k
    refine pre14 t ?_
    show Steps p.tables e below (T14.setTop (mkF m 105 #[.val (.int p0), .val (.long p1), .second, .val (.long p2), .second, .val (.int p3), .val (.long p4), .second, .val (.long p5), .second, .val (.long v10_9), .second, .val (.int ms0_23), .val (.int ms0_38), .val (.int ms0_53), .val (.int ms0_70), .val (.long ms0_83), .second, .unset, .unset, .unset, .unset, .unset, .unset, .unset, .unset, .unset] [(.long ms0_105)])) _
    refine XS.lstore X14.here hx rfl (hb hby at_105) rfl (l' := #[.val (.int p0), .val (.long p1), .second, .val (.long p2), .second, .val (.int p3), .val (.long p4), .second, .val (.long p5), .second, .val (.long v10_9), .second, .val (.int ms0_23), .val (.int ms0_38), .val (.int ms0_53), .val (.int ms0_70), .val (.long ms0_83), .second, .val (.long ms0_105), .second, .unset, .unset, .unset, .unset, .unset, .unset, .unset]) rfl ?_
    exact k
  obtain ⟨T20, h20, X20, e20, E20, A20, D20, -, st20⟩ := newO X14 hx hZ hown (hw _ (List.mem_of_getElem? (i := 5) rfl)) (hw _ (List.mem_of_getElem? (i := 6) rfl)) (hw _ (List.mem_of_getElem? (i := 7) rfl)) e14 (g := (mkF m 107 #[.val (.int p0), .val (.long p1), .second, .val (.long p2), .second, .val (.int p3), .val (.long p4), .second, .val (.long p5), .second, .val (.long v10_9), .second, .val (.int ms0_23), .val (.int ms0_38), .val (.int ms0_53), .val (.int ms0_70), .val (.long ms0_83), .second, .val (.long ms0_105), .second, .unset, .unset, .unset, .unset, .unset, .unset, .unset] [])) rfl (hb hby at_107) (by decide) (by decide)
  obtain ⟨b20, gb20⟩ : ∃ z, z = h14.size := ⟨_, rfl⟩
  rw [← gb20] at A20 D20 st20
  have sz_b20 : h0.size ≤ b20 := Nat.le_trans K14.1 (Nat.le_of_eq gb20.symm)
  have ge_b20 : n0 ≤ b20 := Nat.le_trans Z14 (Nat.le_of_eq gb20.symm)
  have K20 := K14.ext E20
  have Z20 := Nat.le_trans Z14 E20.1
  have F20_level : Fld Z h20 b20 "com/example/sibyl/sibyl/kernel/Label" "level" "I" (.int (0 : Int32)) := D20 (Or.inr (hw _ (List.mem_of_getElem? (i := 15) rfl))) (ty := .int) (by decide)
  have F20_categories : Fld Z h20 b20 "com/example/sibyl/sibyl/kernel/Label" "categories" "J" (.long (0 : Int64)) := D20 (Or.inr (hw _ (List.mem_of_getElem? (i := 17) rfl))) (ty := .long) (by decide)
  have pre22 : ∀ t, Steps p.tables e below (T20.setTop (mkF m 113 #[.val (.int p0), .val (.long p1), .second, .val (.long p2), .second, .val (.int p3), .val (.long p4), .second, .val (.long p5), .second, .val (.long v10_9), .second, .val (.int ms0_23), .val (.int ms0_38), .val (.int ms0_53), .val (.int ms0_70), .val (.long ms0_83), .second, .val (.long ms0_105), .second, .unset, .unset, .unset, .unset, .unset, .unset, .unset] [(.long p1), (.int p0), (.ref b20), (.ref b20)])) t → Steps p.tables e below (s₁.setTop (entryFrame m #[(.int p0), (.long p1), (.long p2), (.int p3), (.long p4), (.long p5)] maxLocals)) t := by
    intro t k
    refine pre19 t ?_
    show Steps p.tables e below (T14.setTop (mkF m 107 #[.val (.int p0), .val (.long p1), .second, .val (.long p2), .second, .val (.int p3), .val (.long p4), .second, .val (.long p5), .second, .val (.long v10_9), .second, .val (.int ms0_23), .val (.int ms0_38), .val (.int ms0_53), .val (.int ms0_70), .val (.long ms0_83), .second, .val (.long ms0_105), .second, .unset, .unset, .unset, .unset, .unset, .unset, .unset] [])) _
    refine st20 _ ?_
    show Steps p.tables e below (T20.setTop (mkF m 110 #[.val (.int p0), .val (.long p1), .second, .val (.long p2), .second, .val (.int p3), .val (.long p4), .second, .val (.long p5), .second, .val (.long v10_9), .second, .val (.int ms0_23), .val (.int ms0_38), .val (.int ms0_53), .val (.int ms0_70), .val (.long ms0_83), .second, .val (.long ms0_105), .second, .unset, .unset, .unset, .unset, .unset, .unset, .unset] [(.ref b20)])) _
    refine XS.dup X20.here hx rfl (hb hby at_110) rfl rfl ?_
    show Steps p.tables e below (T20.setTop (mkF m 111 #[.val (.int p0), .val (.long p1), .second, .val (.long p2), .second, .val (.int p3), .val (.long p4), .second, .val (.long p5), .second, .val (.long v10_9), .second, .val (.int ms0_23), .val (.int ms0_38), .val (.int ms0_53), .val (.int ms0_70), .val (.long ms0_83), .second, .val (.long ms0_105), .second, .unset, .unset, .unset, .unset, .unset, .unset, .unset] [(.ref b20), (.ref b20)])) _
    refine XS.iloadN X20.here hx rfl (hb hby at_111) rfl  ?_
    show Steps p.tables e below (T20.setTop (mkF m 112 #[.val (.int p0), .val (.long p1), .second, .val (.long p2), .second, .val (.int p3), .val (.long p4), .second, .val (.long p5), .second, .val (.long v10_9), .second, .val (.int ms0_23), .val (.int ms0_38), .val (.int ms0_53), .val (.int ms0_70), .val (.long ms0_83), .second, .val (.long ms0_105), .second, .unset, .unset, .unset, .unset, .unset, .unset, .unset] [(.int p0), (.ref b20), (.ref b20)])) _
    refine XS.lloadN X20.here hx rfl (hb hby at_112) rfl  ?_
    exact k
  obtain ⟨_, _, ⟨T21, L21, k21, n21⟩, -, X21, ⟨Lc21, hQ21, l21, y21, z21⟩, st21⟩ := X20.specialBack hx (y := (⟨"com/example/sibyl/sibyl/kernel/Label", "<init>", "(IJ)V"⟩ : MethodName)) rfl hown (mvT hZ (hw _ (List.mem_of_getElem? (i := 8) rfl))) (mvT hZ (hw _ (List.mem_of_getElem? (i := 9) rfl))) (mvT hZ (hw _ (List.mem_of_getElem? (i := 10) rfl))) (by decide) (backOf (W := 1) (rm_2 l Z a0 hw [] b20 p0 p1 h20 n0 Z20 A20 F20_level F20_categories ge_b20) hZ (hw _ (List.mem_of_getElem? (i := 10) rfl)) (hw _ (List.mem_of_getElem? (i := 7) rfl)) (by decide) (by decide)) (g := (mkF m 113 #[.val (.int p0), .val (.long p1), .second, .val (.long p2), .second, .val (.int p3), .val (.long p4), .second, .val (.long p5), .second, .val (.long v10_9), .second, .val (.int ms0_23), .val (.int ms0_38), .val (.int ms0_53), .val (.int ms0_70), .val (.long ms0_83), .second, .val (.long ms0_105), .second, .unset, .unset, .unset, .unset, .unset, .unset, .unset] [(.long p1), (.int p0), (.ref b20), (.ref b20)])) rfl (by rw [hml]; rfl) (Steps.refl _) (a := b20) (argsL := [(.int p0), (.long p1)]) (rest := [(.ref b20)]) (lenOf pd_2 rfl) rfl (by show 2 * 0 + _ ≤ _; exact Nat.le_of_eq rfl) (hb hby at_113) (fun _ _ => ⟨rfl, e20, (by decide : 1 + 0 ≤ _), (by decide : 2 + 0 ≤ _)⟩)
  dsimp only [Pt.U, Pt.locs, Pt.cells, Pt.slots] at X21 l21 y21 z21 st21 hQ21
  subst l21 y21 z21
  obtain ⟨rfl, N21q, Kc21, Q21_0, Q21_1, Q21_2⟩ := hQ21
  have Kd21 : Keep h20 T21.heap [b20] := Kc21
  have exa_b20_21 := A20.keep Kd21
  have K21 := K20.trans Kd21 (allS (Or.inr sz_b20) all0)
  have Z21 := Nat.le_trans Z20 Kd21.1
  have N21 := Fr.app N14 N21q
  have pre23 : ∀ t, Steps p.tables e below (T21.setTop (mkF m 118 #[.val (.int p0), .val (.long p1), .second, .val (.long p2), .second, .val (.int p3), .val (.long p4), .second, .val (.long p5), .second, .val (.long v10_9), .second, .val (.int ms0_23), .val (.int ms0_38), .val (.int ms0_53), .val (.int ms0_70), .val (.long ms0_83), .second, .val (.long ms0_105), .second, .val (.ref b20), .unset, .unset, .unset, .unset, .unset, .unset] [])) t → Steps p.tables e below (s₁.setTop (entryFrame m #[(.int p0), (.long p1), (.long p2), (.int p3), (.long p4), (.long p5)] maxLocals)) t := by
    intro t k
    refine pre22 t ?_
    show Steps p.tables e below (T20.setTop (mkF m 113 #[.val (.int p0), .val (.long p1), .second, .val (.long p2), .second, .val (.int p3), .val (.long p4), .second, .val (.long p5), .second, .val (.long v10_9), .second, .val (.int ms0_23), .val (.int ms0_38), .val (.int ms0_53), .val (.int ms0_70), .val (.long ms0_83), .second, .val (.long ms0_105), .second, .unset, .unset, .unset, .unset, .unset, .unset, .unset] [(.long p1), (.int p0), (.ref b20), (.ref b20)])) _
    refine st21.trans ?_
    show Steps p.tables e below (T21.setTop (mkF m 116 #[.val (.int p0), .val (.long p1), .second, .val (.long p2), .second, .val (.int p3), .val (.long p4), .second, .val (.long p5), .second, .val (.long v10_9), .second, .val (.int ms0_23), .val (.int ms0_38), .val (.int ms0_53), .val (.int ms0_70), .val (.long ms0_83), .second, .val (.long ms0_105), .second, .unset, .unset, .unset, .unset, .unset, .unset, .unset] [(.ref b20)])) _
    refine XS.astore X21.here hx rfl (hb hby at_116) rfl rfl (l' := #[.val (.int p0), .val (.long p1), .second, .val (.long p2), .second, .val (.int p3), .val (.long p4), .second, .val (.long p5), .second, .val (.long v10_9), .second, .val (.int ms0_23), .val (.int ms0_38), .val (.int ms0_53), .val (.int ms0_70), .val (.long ms0_83), .second, .val (.long ms0_105), .second, .val (.ref b20), .unset, .unset, .unset, .unset, .unset, .unset]) rfl ?_
    exact k
  obtain ⟨T24, h24, X24, e24, E24, A24, D24, -, st24⟩ := newO X21 hx hZ hown (hw _ (List.mem_of_getElem? (i := 18) rfl)) (hw _ (List.mem_of_getElem? (i := 19) rfl)) (hw _ (List.mem_of_getElem? (i := 20) rfl)) rfl (g := (mkF m 118 #[.val (.int p0), .val (.long p1), .second, .val (.long p2), .second, .val (.int p3), .val (.long p4), .second, .val (.long p5), .second, .val (.long v10_9), .second, .val (.int ms0_23), .val (.int ms0_38), .val (.int ms0_53), .val (.int ms0_70), .val (.long ms0_83), .second, .val (.long ms0_105), .second, .val (.ref b20), .unset, .unset, .unset, .unset, .unset, .unset] [])) rfl (hb hby at_118) (by decide) (by decide)
  obtain ⟨b24, gb24⟩ : ∃ z, z = T21.heap.size := ⟨_, rfl⟩
  rw [← gb24] at A24 D24 st24
  have ne_b20_b24 : b20 ≠ b24 := Nat.ne_of_lt (Nat.lt_of_lt_of_le Q21_0.lt (Nat.le_of_eq gb24.symm))
  have sz_b24 : h0.size ≤ b24 := Nat.le_trans K21.1 (Nat.le_of_eq gb24.symm)
  have ge_b24 : n0 ≤ b24 := Nat.le_trans Z21 (Nat.le_of_eq gb24.symm)
  have exa_b20_24 := Q21_0.ext E24
  have fld_b20_level_24 := Q21_1.ext E24
  have fld_b20_categories_24 := Q21_2.ext E24
  have K24 := K21.ext E24
  have Z24 := Nat.le_trans Z21 E24.1
  have F24_creator : Fld Z h24 b24 "com/example/sibyl/sibyl/kernel/ObjectId" "creator" "Lcom/example/sibyl/sibyl/kernel/Label;" .null := D24 (Or.inr (hw _ (List.mem_of_getElem? (i := 26) rfl))) (ty := (.object "com/example/sibyl/sibyl/kernel/Label")) (by decide)
  have F24_count : Fld Z h24 b24 "com/example/sibyl/sibyl/kernel/ObjectId" "count" "J" (.long (0 : Int64)) := D24 (Or.inr (hw _ (List.mem_of_getElem? (i := 28) rfl))) (ty := .long) (by decide)
  have pre26 : ∀ t, Steps p.tables e below (T24.setTop (mkF m 126 #[.val (.int p0), .val (.long p1), .second, .val (.long p2), .second, .val (.int p3), .val (.long p4), .second, .val (.long p5), .second, .val (.long v10_9), .second, .val (.int ms0_23), .val (.int ms0_38), .val (.int ms0_53), .val (.int ms0_70), .val (.long ms0_83), .second, .val (.long ms0_105), .second, .val (.ref b20), .unset, .unset, .unset, .unset, .unset, .unset] [(.long v10_9), (.ref b20), (.ref b24), (.ref b24)])) t → Steps p.tables e below (s₁.setTop (entryFrame m #[(.int p0), (.long p1), (.long p2), (.int p3), (.long p4), (.long p5)] maxLocals)) t := by
    intro t k
    refine pre23 t ?_
    show Steps p.tables e below (T21.setTop (mkF m 118 #[.val (.int p0), .val (.long p1), .second, .val (.long p2), .second, .val (.int p3), .val (.long p4), .second, .val (.long p5), .second, .val (.long v10_9), .second, .val (.int ms0_23), .val (.int ms0_38), .val (.int ms0_53), .val (.int ms0_70), .val (.long ms0_83), .second, .val (.long ms0_105), .second, .val (.ref b20), .unset, .unset, .unset, .unset, .unset, .unset] [])) _
    refine st24 _ ?_
    show Steps p.tables e below (T24.setTop (mkF m 121 #[.val (.int p0), .val (.long p1), .second, .val (.long p2), .second, .val (.int p3), .val (.long p4), .second, .val (.long p5), .second, .val (.long v10_9), .second, .val (.int ms0_23), .val (.int ms0_38), .val (.int ms0_53), .val (.int ms0_70), .val (.long ms0_83), .second, .val (.long ms0_105), .second, .val (.ref b20), .unset, .unset, .unset, .unset, .unset, .unset] [(.ref b24)])) _
    refine XS.dup X24.here hx rfl (hb hby at_121) rfl rfl ?_
    show Steps p.tables e below (T24.setTop (mkF m 122 #[.val (.int p0), .val (.long p1), .second, .val (.long p2), .second, .val (.int p3), .val (.long p4), .second, .val (.long p5), .second, .val (.long v10_9), .second, .val (.int ms0_23), .val (.int ms0_38), .val (.int ms0_53), .val (.int ms0_70), .val (.long ms0_83), .second, .val (.long ms0_105), .second, .val (.ref b20), .unset, .unset, .unset, .unset, .unset, .unset] [(.ref b24), (.ref b24)])) _
    refine XS.aload X24.here hx rfl (hb hby at_122) rfl rfl ?_
    show Steps p.tables e below (T24.setTop (mkF m 124 #[.val (.int p0), .val (.long p1), .second, .val (.long p2), .second, .val (.int p3), .val (.long p4), .second, .val (.long p5), .second, .val (.long v10_9), .second, .val (.int ms0_23), .val (.int ms0_38), .val (.int ms0_53), .val (.int ms0_70), .val (.long ms0_83), .second, .val (.long ms0_105), .second, .val (.ref b20), .unset, .unset, .unset, .unset, .unset, .unset] [(.ref b20), (.ref b24), (.ref b24)])) _
    refine XS.lload X24.here hx rfl (hb hby at_124) rfl  ?_
    exact k
  obtain ⟨_, _, ⟨T25, L25, k25, n25⟩, -, X25, ⟨Lc25, hQ25, l25, y25, z25⟩, st25⟩ := X24.specialBack hx (y := (⟨"com/example/sibyl/sibyl/kernel/ObjectId", "<init>", "(Lcom/example/sibyl/sibyl/kernel/Label;J)V"⟩ : MethodName)) rfl hown (mvT hZ (hw _ (List.mem_of_getElem? (i := 21) rfl))) (mvT hZ (hw _ (List.mem_of_getElem? (i := 22) rfl))) (mvT hZ (hw _ (List.mem_of_getElem? (i := 23) rfl))) (by decide) (backOf (W := 1) (rm_4 l Z a0 hw [] b24 b20 v10_9 h24 n0 Z24 A24 F24_creator F24_count ge_b24 (by rw [hv10_9]; exact own_mx _)) hZ (hw _ (List.mem_of_getElem? (i := 23) rfl)) (hw _ (List.mem_of_getElem? (i := 20) rfl)) (by decide) (by decide)) (g := (mkF m 126 #[.val (.int p0), .val (.long p1), .second, .val (.long p2), .second, .val (.int p3), .val (.long p4), .second, .val (.long p5), .second, .val (.long v10_9), .second, .val (.int ms0_23), .val (.int ms0_38), .val (.int ms0_53), .val (.int ms0_70), .val (.long ms0_83), .second, .val (.long ms0_105), .second, .val (.ref b20), .unset, .unset, .unset, .unset, .unset, .unset] [(.long v10_9), (.ref b20), (.ref b24), (.ref b24)])) rfl (by rw [hml]; rfl) (Steps.refl _) (a := b24) (argsL := [(.ref b20), (.long v10_9)]) (rest := [(.ref b24)]) (lenOf pd_3 rfl) rfl (by show 2 * 0 + _ ≤ _; exact Nat.le_of_eq rfl) (hb hby at_126) (fun _ _ => ⟨rfl, e24, (by decide : 2 + 0 ≤ _), (by decide : 4 + 0 ≤ _)⟩)
  dsimp only [Pt.U, Pt.locs, Pt.cells, Pt.slots] at X25 l25 y25 z25 st25 hQ25
  subst l25 y25 z25
  obtain ⟨rfl, N25q, Kc25, Q25_0, Q25_1, Q25_2⟩ := hQ25
  have Kd25 : Keep h24 T25.heap [b24] := Kc25
  have exa_b20_25 := exa_b20_24.keep Kd25
  have fld_b20_level_25 := fld_b20_level_24.keep Kd25 (ninS ne_b20_b24 nin0)
  have fld_b20_categories_25 := fld_b20_categories_24.keep Kd25 (ninS ne_b20_b24 nin0)
  have exa_b24_25 := A24.keep Kd25
  have K25 := K24.trans Kd25 (allS (Or.inr sz_b24) all0)
  have Z25 := Nat.le_trans Z24 Kd25.1
  have N25 := Fr.app N21 N25q
  have pre27 : ∀ t, Steps p.tables e below (T25.setTop (mkF m 131 #[.val (.int p0), .val (.long p1), .second, .val (.long p2), .second, .val (.int p3), .val (.long p4), .second, .val (.long p5), .second, .val (.long v10_9), .second, .val (.int ms0_23), .val (.int ms0_38), .val (.int ms0_53), .val (.int ms0_70), .val (.long ms0_83), .second, .val (.long ms0_105), .second, .val (.ref b20), .val (.ref b24), .unset, .unset, .unset, .unset, .unset] [])) t → Steps p.tables e below (s₁.setTop (entryFrame m #[(.int p0), (.long p1), (.long p2), (.int p3), (.long p4), (.long p5)] maxLocals)) t := by
    intro t k
    refine pre26 t ?_
    show Steps p.tables e below (T24.setTop (mkF m 126 #[.val (.int p0), .val (.long p1), .second, .val (.long p2), .second, .val (.int p3), .val (.long p4), .second, .val (.long p5), .second, .val (.long v10_9), .second, .val (.int ms0_23), .val (.int ms0_38), .val (.int ms0_53), .val (.int ms0_70), .val (.long ms0_83), .second, .val (.long ms0_105), .second, .val (.ref b20), .unset, .unset, .unset, .unset, .unset, .unset] [(.long v10_9), (.ref b20), (.ref b24), (.ref b24)])) _
    refine st25.trans ?_
    show Steps p.tables e below (T25.setTop (mkF m 129 #[.val (.int p0), .val (.long p1), .second, .val (.long p2), .second, .val (.int p3), .val (.long p4), .second, .val (.long p5), .second, .val (.long v10_9), .second, .val (.int ms0_23), .val (.int ms0_38), .val (.int ms0_53), .val (.int ms0_70), .val (.long ms0_83), .second, .val (.long ms0_105), .second, .val (.ref b20), .unset, .unset, .unset, .unset, .unset, .unset] [(.ref b24)])) _
    refine XS.astore X25.here hx rfl (hb hby at_129) rfl rfl (l' := #[.val (.int p0), .val (.long p1), .second, .val (.long p2), .second, .val (.int p3), .val (.long p4), .second, .val (.long p5), .second, .val (.long v10_9), .second, .val (.int ms0_23), .val (.int ms0_38), .val (.int ms0_53), .val (.int ms0_70), .val (.long ms0_83), .second, .val (.long ms0_105), .second, .val (.ref b20), .val (.ref b24), .unset, .unset, .unset, .unset, .unset]) rfl ?_
    exact k
  obtain ⟨T28, h28, X28, e28, E28, A28, D28, -, st28⟩ := newO X25 hx hZ hown (hw _ (List.mem_of_getElem? (i := 5) rfl)) (hw _ (List.mem_of_getElem? (i := 6) rfl)) (hw _ (List.mem_of_getElem? (i := 7) rfl)) rfl (g := (mkF m 131 #[.val (.int p0), .val (.long p1), .second, .val (.long p2), .second, .val (.int p3), .val (.long p4), .second, .val (.long p5), .second, .val (.long v10_9), .second, .val (.int ms0_23), .val (.int ms0_38), .val (.int ms0_53), .val (.int ms0_70), .val (.long ms0_83), .second, .val (.long ms0_105), .second, .val (.ref b20), .val (.ref b24), .unset, .unset, .unset, .unset, .unset] [])) rfl (hb hby at_131) (by decide) (by decide)
  obtain ⟨b28, gb28⟩ : ∃ z, z = T25.heap.size := ⟨_, rfl⟩
  rw [← gb28] at A28 D28 st28
  have ne_b20_b28 : b20 ≠ b28 := Nat.ne_of_lt (Nat.lt_of_lt_of_le exa_b20_25.lt (Nat.le_of_eq gb28.symm))
  have ne_b24_b28 : b24 ≠ b28 := Nat.ne_of_lt (Nat.lt_of_lt_of_le Q25_0.lt (Nat.le_of_eq gb28.symm))
  have sz_b28 : h0.size ≤ b28 := Nat.le_trans K25.1 (Nat.le_of_eq gb28.symm)
  have ge_b28 : n0 ≤ b28 := Nat.le_trans Z25 (Nat.le_of_eq gb28.symm)
  have exa_b20_28 := exa_b20_25.ext E28
  have fld_b20_level_28 := fld_b20_level_25.ext E28
  have fld_b20_categories_28 := fld_b20_categories_25.ext E28
  have exa_b24_28 := Q25_0.ext E28
  have fld_b24_creator_28 := Q25_1.ext E28
  have fld_b24_count_28 := Q25_2.ext E28
  have K28 := K25.ext E28
  have Z28 := Nat.le_trans Z25 E28.1
  have F28_level : Fld Z h28 b28 "com/example/sibyl/sibyl/kernel/Label" "level" "I" (.int (0 : Int32)) := D28 (Or.inr (hw _ (List.mem_of_getElem? (i := 15) rfl))) (ty := .int) (by decide)
  have F28_categories : Fld Z h28 b28 "com/example/sibyl/sibyl/kernel/Label" "categories" "J" (.long (0 : Int64)) := D28 (Or.inr (hw _ (List.mem_of_getElem? (i := 17) rfl))) (ty := .long) (by decide)
  have pre30 : ∀ t, Steps p.tables e below (T28.setTop (mkF m 139 #[.val (.int p0), .val (.long p1), .second, .val (.long p2), .second, .val (.int p3), .val (.long p4), .second, .val (.long p5), .second, .val (.long v10_9), .second, .val (.int ms0_23), .val (.int ms0_38), .val (.int ms0_53), .val (.int ms0_70), .val (.long ms0_83), .second, .val (.long ms0_105), .second, .val (.ref b20), .val (.ref b24), .unset, .unset, .unset, .unset, .unset] [(.long ms0_83), (.int ms0_70), (.ref b28), (.ref b28)])) t → Steps p.tables e below (s₁.setTop (entryFrame m #[(.int p0), (.long p1), (.long p2), (.int p3), (.long p4), (.long p5)] maxLocals)) t := by
    intro t k
    refine pre27 t ?_
    show Steps p.tables e below (T25.setTop (mkF m 131 #[.val (.int p0), .val (.long p1), .second, .val (.long p2), .second, .val (.int p3), .val (.long p4), .second, .val (.long p5), .second, .val (.long v10_9), .second, .val (.int ms0_23), .val (.int ms0_38), .val (.int ms0_53), .val (.int ms0_70), .val (.long ms0_83), .second, .val (.long ms0_105), .second, .val (.ref b20), .val (.ref b24), .unset, .unset, .unset, .unset, .unset] [])) _
    refine st28 _ ?_
    show Steps p.tables e below (T28.setTop (mkF m 134 #[.val (.int p0), .val (.long p1), .second, .val (.long p2), .second, .val (.int p3), .val (.long p4), .second, .val (.long p5), .second, .val (.long v10_9), .second, .val (.int ms0_23), .val (.int ms0_38), .val (.int ms0_53), .val (.int ms0_70), .val (.long ms0_83), .second, .val (.long ms0_105), .second, .val (.ref b20), .val (.ref b24), .unset, .unset, .unset, .unset, .unset] [(.ref b28)])) _
    refine XS.dup X28.here hx rfl (hb hby at_134) rfl rfl ?_
    show Steps p.tables e below (T28.setTop (mkF m 135 #[.val (.int p0), .val (.long p1), .second, .val (.long p2), .second, .val (.int p3), .val (.long p4), .second, .val (.long p5), .second, .val (.long v10_9), .second, .val (.int ms0_23), .val (.int ms0_38), .val (.int ms0_53), .val (.int ms0_70), .val (.long ms0_83), .second, .val (.long ms0_105), .second, .val (.ref b20), .val (.ref b24), .unset, .unset, .unset, .unset, .unset] [(.ref b28), (.ref b28)])) _
    refine XS.iload X28.here hx rfl (hb hby at_135) rfl  ?_
    show Steps p.tables e below (T28.setTop (mkF m 137 #[.val (.int p0), .val (.long p1), .second, .val (.long p2), .second, .val (.int p3), .val (.long p4), .second, .val (.long p5), .second, .val (.long v10_9), .second, .val (.int ms0_23), .val (.int ms0_38), .val (.int ms0_53), .val (.int ms0_70), .val (.long ms0_83), .second, .val (.long ms0_105), .second, .val (.ref b20), .val (.ref b24), .unset, .unset, .unset, .unset, .unset] [(.int ms0_70), (.ref b28), (.ref b28)])) _
    refine XS.lload X28.here hx rfl (hb hby at_137) rfl  ?_
    exact k
  obtain ⟨_, _, ⟨T29, L29, k29, n29⟩, -, X29, ⟨Lc29, hQ29, l29, y29, z29⟩, st29⟩ := X28.specialBack hx (y := (⟨"com/example/sibyl/sibyl/kernel/Label", "<init>", "(IJ)V"⟩ : MethodName)) rfl hown (mvT hZ (hw _ (List.mem_of_getElem? (i := 8) rfl))) (mvT hZ (hw _ (List.mem_of_getElem? (i := 9) rfl))) (mvT hZ (hw _ (List.mem_of_getElem? (i := 10) rfl))) (by decide) (backOf (W := 1) (rm_2 l Z a0 hw [] b28 ms0_70 ms0_83 h28 n0 Z28 A28 F28_level F28_categories ge_b28) hZ (hw _ (List.mem_of_getElem? (i := 10) rfl)) (hw _ (List.mem_of_getElem? (i := 7) rfl)) (by decide) (by decide)) (g := (mkF m 139 #[.val (.int p0), .val (.long p1), .second, .val (.long p2), .second, .val (.int p3), .val (.long p4), .second, .val (.long p5), .second, .val (.long v10_9), .second, .val (.int ms0_23), .val (.int ms0_38), .val (.int ms0_53), .val (.int ms0_70), .val (.long ms0_83), .second, .val (.long ms0_105), .second, .val (.ref b20), .val (.ref b24), .unset, .unset, .unset, .unset, .unset] [(.long ms0_83), (.int ms0_70), (.ref b28), (.ref b28)])) rfl (by rw [hml]; rfl) (Steps.refl _) (a := b28) (argsL := [(.int ms0_70), (.long ms0_83)]) (rest := [(.ref b28)]) (lenOf pd_2 rfl) rfl (by show 2 * 0 + _ ≤ _; exact Nat.le_of_eq rfl) (hb hby at_139) (fun _ _ => ⟨rfl, e28, (by decide : 3 + 0 ≤ _), (by decide : 6 + 0 ≤ _)⟩)
  dsimp only [Pt.U, Pt.locs, Pt.cells, Pt.slots] at X29 l29 y29 z29 st29 hQ29
  subst l29 y29 z29
  obtain ⟨rfl, N29q, Kc29, Q29_0, Q29_1, Q29_2⟩ := hQ29
  have Kd29 : Keep h28 T29.heap [b28] := Kc29
  have exa_b20_29 := exa_b20_28.keep Kd29
  have fld_b20_level_29 := fld_b20_level_28.keep Kd29 (ninS ne_b20_b28 nin0)
  have fld_b20_categories_29 := fld_b20_categories_28.keep Kd29 (ninS ne_b20_b28 nin0)
  have exa_b24_29 := exa_b24_28.keep Kd29
  have fld_b24_creator_29 := fld_b24_creator_28.keep Kd29 (ninS ne_b24_b28 nin0)
  have fld_b24_count_29 := fld_b24_count_28.keep Kd29 (ninS ne_b24_b28 nin0)
  have exa_b28_29 := A28.keep Kd29
  have K29 := K28.trans Kd29 (allS (Or.inr sz_b28) all0)
  have Z29 := Nat.le_trans Z28 Kd29.1
  have N29 := Fr.app N25 N29q
  have pre31 : ∀ t, Steps p.tables e below (T29.setTop (mkF m 144 #[.val (.int p0), .val (.long p1), .second, .val (.long p2), .second, .val (.int p3), .val (.long p4), .second, .val (.long p5), .second, .val (.long v10_9), .second, .val (.int ms0_23), .val (.int ms0_38), .val (.int ms0_53), .val (.int ms0_70), .val (.long ms0_83), .second, .val (.long ms0_105), .second, .val (.ref b20), .val (.ref b24), .val (.ref b28), .unset, .unset, .unset, .unset] [])) t → Steps p.tables e below (s₁.setTop (entryFrame m #[(.int p0), (.long p1), (.long p2), (.int p3), (.long p4), (.long p5)] maxLocals)) t := by
    intro t k
    refine pre30 t ?_
    show Steps p.tables e below (T28.setTop (mkF m 139 #[.val (.int p0), .val (.long p1), .second, .val (.long p2), .second, .val (.int p3), .val (.long p4), .second, .val (.long p5), .second, .val (.long v10_9), .second, .val (.int ms0_23), .val (.int ms0_38), .val (.int ms0_53), .val (.int ms0_70), .val (.long ms0_83), .second, .val (.long ms0_105), .second, .val (.ref b20), .val (.ref b24), .unset, .unset, .unset, .unset, .unset] [(.long ms0_83), (.int ms0_70), (.ref b28), (.ref b28)])) _
    refine st29.trans ?_
    show Steps p.tables e below (T29.setTop (mkF m 142 #[.val (.int p0), .val (.long p1), .second, .val (.long p2), .second, .val (.int p3), .val (.long p4), .second, .val (.long p5), .second, .val (.long v10_9), .second, .val (.int ms0_23), .val (.int ms0_38), .val (.int ms0_53), .val (.int ms0_70), .val (.long ms0_83), .second, .val (.long ms0_105), .second, .val (.ref b20), .val (.ref b24), .unset, .unset, .unset, .unset, .unset] [(.ref b28)])) _
    refine XS.astore X29.here hx rfl (hb hby at_142) rfl rfl (l' := #[.val (.int p0), .val (.long p1), .second, .val (.long p2), .second, .val (.int p3), .val (.long p4), .second, .val (.long p5), .second, .val (.long v10_9), .second, .val (.int ms0_23), .val (.int ms0_38), .val (.int ms0_53), .val (.int ms0_70), .val (.long ms0_83), .second, .val (.long ms0_105), .second, .val (.ref b20), .val (.ref b24), .val (.ref b28), .unset, .unset, .unset, .unset]) rfl ?_
    exact k
  obtain ⟨T32, h32, X32, e32, E32, A32, D32, -, st32⟩ := newO X29 hx hZ hown (hw _ (List.mem_of_getElem? (i := 18) rfl)) (hw _ (List.mem_of_getElem? (i := 19) rfl)) (hw _ (List.mem_of_getElem? (i := 20) rfl)) rfl (g := (mkF m 144 #[.val (.int p0), .val (.long p1), .second, .val (.long p2), .second, .val (.int p3), .val (.long p4), .second, .val (.long p5), .second, .val (.long v10_9), .second, .val (.int ms0_23), .val (.int ms0_38), .val (.int ms0_53), .val (.int ms0_70), .val (.long ms0_83), .second, .val (.long ms0_105), .second, .val (.ref b20), .val (.ref b24), .val (.ref b28), .unset, .unset, .unset, .unset] [])) rfl (hb hby at_144) (by decide) (by decide)
  obtain ⟨b32, gb32⟩ : ∃ z, z = T29.heap.size := ⟨_, rfl⟩
  rw [← gb32] at A32 D32 st32
  have ne_b20_b32 : b20 ≠ b32 := Nat.ne_of_lt (Nat.lt_of_lt_of_le exa_b20_29.lt (Nat.le_of_eq gb32.symm))
  have ne_b24_b32 : b24 ≠ b32 := Nat.ne_of_lt (Nat.lt_of_lt_of_le exa_b24_29.lt (Nat.le_of_eq gb32.symm))
  have ne_b28_b32 : b28 ≠ b32 := Nat.ne_of_lt (Nat.lt_of_lt_of_le Q29_0.lt (Nat.le_of_eq gb32.symm))
  have sz_b32 : h0.size ≤ b32 := Nat.le_trans K29.1 (Nat.le_of_eq gb32.symm)
  have ge_b32 : n0 ≤ b32 := Nat.le_trans Z29 (Nat.le_of_eq gb32.symm)
  have exa_b20_32 := exa_b20_29.ext E32
  have fld_b20_level_32 := fld_b20_level_29.ext E32
  have fld_b20_categories_32 := fld_b20_categories_29.ext E32
  have exa_b24_32 := exa_b24_29.ext E32
  have fld_b24_creator_32 := fld_b24_creator_29.ext E32
  have fld_b24_count_32 := fld_b24_count_29.ext E32
  have exa_b28_32 := Q29_0.ext E32
  have fld_b28_level_32 := Q29_1.ext E32
  have fld_b28_categories_32 := Q29_2.ext E32
  have K32 := K29.ext E32
  have Z32 := Nat.le_trans Z29 E32.1
  have F32_creator : Fld Z h32 b32 "com/example/sibyl/sibyl/kernel/ObjectId" "creator" "Lcom/example/sibyl/sibyl/kernel/Label;" .null := D32 (Or.inr (hw _ (List.mem_of_getElem? (i := 26) rfl))) (ty := (.object "com/example/sibyl/sibyl/kernel/Label")) (by decide)
  have F32_count : Fld Z h32 b32 "com/example/sibyl/sibyl/kernel/ObjectId" "count" "J" (.long (0 : Int64)) := D32 (Or.inr (hw _ (List.mem_of_getElem? (i := 28) rfl))) (ty := .long) (by decide)
  have pre34 : ∀ t, Steps p.tables e below (T32.setTop (mkF m 152 #[.val (.int p0), .val (.long p1), .second, .val (.long p2), .second, .val (.int p3), .val (.long p4), .second, .val (.long p5), .second, .val (.long v10_9), .second, .val (.int ms0_23), .val (.int ms0_38), .val (.int ms0_53), .val (.int ms0_70), .val (.long ms0_83), .second, .val (.long ms0_105), .second, .val (.ref b20), .val (.ref b24), .val (.ref b28), .unset, .unset, .unset, .unset] [(.long ms0_105), (.ref b28), (.ref b32), (.ref b32)])) t → Steps p.tables e below (s₁.setTop (entryFrame m #[(.int p0), (.long p1), (.long p2), (.int p3), (.long p4), (.long p5)] maxLocals)) t := by
    intro t k
    refine pre31 t ?_
    show Steps p.tables e below (T29.setTop (mkF m 144 #[.val (.int p0), .val (.long p1), .second, .val (.long p2), .second, .val (.int p3), .val (.long p4), .second, .val (.long p5), .second, .val (.long v10_9), .second, .val (.int ms0_23), .val (.int ms0_38), .val (.int ms0_53), .val (.int ms0_70), .val (.long ms0_83), .second, .val (.long ms0_105), .second, .val (.ref b20), .val (.ref b24), .val (.ref b28), .unset, .unset, .unset, .unset] [])) _
    refine st32 _ ?_
    show Steps p.tables e below (T32.setTop (mkF m 147 #[.val (.int p0), .val (.long p1), .second, .val (.long p2), .second, .val (.int p3), .val (.long p4), .second, .val (.long p5), .second, .val (.long v10_9), .second, .val (.int ms0_23), .val (.int ms0_38), .val (.int ms0_53), .val (.int ms0_70), .val (.long ms0_83), .second, .val (.long ms0_105), .second, .val (.ref b20), .val (.ref b24), .val (.ref b28), .unset, .unset, .unset, .unset] [(.ref b32)])) _
    refine XS.dup X32.here hx rfl (hb hby at_147) rfl rfl ?_
    show Steps p.tables e below (T32.setTop (mkF m 148 #[.val (.int p0), .val (.long p1), .second, .val (.long p2), .second, .val (.int p3), .val (.long p4), .second, .val (.long p5), .second, .val (.long v10_9), .second, .val (.int ms0_23), .val (.int ms0_38), .val (.int ms0_53), .val (.int ms0_70), .val (.long ms0_83), .second, .val (.long ms0_105), .second, .val (.ref b20), .val (.ref b24), .val (.ref b28), .unset, .unset, .unset, .unset] [(.ref b32), (.ref b32)])) _
    refine XS.aload X32.here hx rfl (hb hby at_148) rfl rfl ?_
    show Steps p.tables e below (T32.setTop (mkF m 150 #[.val (.int p0), .val (.long p1), .second, .val (.long p2), .second, .val (.int p3), .val (.long p4), .second, .val (.long p5), .second, .val (.long v10_9), .second, .val (.int ms0_23), .val (.int ms0_38), .val (.int ms0_53), .val (.int ms0_70), .val (.long ms0_83), .second, .val (.long ms0_105), .second, .val (.ref b20), .val (.ref b24), .val (.ref b28), .unset, .unset, .unset, .unset] [(.ref b28), (.ref b32), (.ref b32)])) _
    refine XS.lload X32.here hx rfl (hb hby at_150) rfl  ?_
    exact k
  obtain ⟨_, _, ⟨T33, L33, k33, n33⟩, -, X33, ⟨Lc33, hQ33, l33, y33, z33⟩, st33⟩ := X32.specialBack hx (y := (⟨"com/example/sibyl/sibyl/kernel/ObjectId", "<init>", "(Lcom/example/sibyl/sibyl/kernel/Label;J)V"⟩ : MethodName)) rfl hown (mvT hZ (hw _ (List.mem_of_getElem? (i := 21) rfl))) (mvT hZ (hw _ (List.mem_of_getElem? (i := 22) rfl))) (mvT hZ (hw _ (List.mem_of_getElem? (i := 23) rfl))) (by decide) (backOf (W := 1) (rm_4 l Z a0 hw [] b32 b28 ms0_105 h32 n0 Z32 A32 F32_creator F32_count ge_b32 (own_mx2 hms0_105 hv10_9)) hZ (hw _ (List.mem_of_getElem? (i := 23) rfl)) (hw _ (List.mem_of_getElem? (i := 20) rfl)) (by decide) (by decide)) (g := (mkF m 152 #[.val (.int p0), .val (.long p1), .second, .val (.long p2), .second, .val (.int p3), .val (.long p4), .second, .val (.long p5), .second, .val (.long v10_9), .second, .val (.int ms0_23), .val (.int ms0_38), .val (.int ms0_53), .val (.int ms0_70), .val (.long ms0_83), .second, .val (.long ms0_105), .second, .val (.ref b20), .val (.ref b24), .val (.ref b28), .unset, .unset, .unset, .unset] [(.long ms0_105), (.ref b28), (.ref b32), (.ref b32)])) rfl (by rw [hml]; rfl) (Steps.refl _) (a := b32) (argsL := [(.ref b28), (.long ms0_105)]) (rest := [(.ref b32)]) (lenOf pd_3 rfl) rfl (by show 2 * 0 + _ ≤ _; exact Nat.le_of_eq rfl) (hb hby at_152) (fun _ _ => ⟨rfl, e32, (by decide : 4 + 0 ≤ _), (by decide : 8 + 0 ≤ _)⟩)
  dsimp only [Pt.U, Pt.locs, Pt.cells, Pt.slots] at X33 l33 y33 z33 st33 hQ33
  subst l33 y33 z33
  obtain ⟨rfl, N33q, Kc33, Q33_0, Q33_1, Q33_2⟩ := hQ33
  have Kd33 : Keep h32 T33.heap [b32] := Kc33
  have exa_b20_33 := exa_b20_32.keep Kd33
  have fld_b20_level_33 := fld_b20_level_32.keep Kd33 (ninS ne_b20_b32 nin0)
  have fld_b20_categories_33 := fld_b20_categories_32.keep Kd33 (ninS ne_b20_b32 nin0)
  have exa_b24_33 := exa_b24_32.keep Kd33
  have fld_b24_creator_33 := fld_b24_creator_32.keep Kd33 (ninS ne_b24_b32 nin0)
  have fld_b24_count_33 := fld_b24_count_32.keep Kd33 (ninS ne_b24_b32 nin0)
  have exa_b28_33 := exa_b28_32.keep Kd33
  have fld_b28_level_33 := fld_b28_level_32.keep Kd33 (ninS ne_b28_b32 nin0)
  have fld_b28_categories_33 := fld_b28_categories_32.keep Kd33 (ninS ne_b28_b32 nin0)
  have exa_b32_33 := A32.keep Kd33
  have K33 := K32.trans Kd33 (allS (Or.inr sz_b32) all0)
  have Z33 := Nat.le_trans Z32 Kd33.1
  have N33 := Fr.app N29 N33q
  obtain ⟨v24_161, hv24_161⟩ : ∃ z : Int32, z = (p3 &&& (3 : Int32)) := ⟨_, rfl⟩
  have pre35 : ∀ t, Steps p.tables e below (T33.setTop (mkF m 165 #[.val (.int p0), .val (.long p1), .second, .val (.long p2), .second, .val (.int p3), .val (.long p4), .second, .val (.long p5), .second, .val (.long v10_9), .second, .val (.int ms0_23), .val (.int ms0_38), .val (.int ms0_53), .val (.int ms0_70), .val (.long ms0_83), .second, .val (.long ms0_105), .second, .val (.ref b20), .val (.ref b24), .val (.ref b28), .val (.ref b32), .val (.int v24_161), .unset, .unset] [(.int v24_161)])) t → Steps p.tables e below (s₁.setTop (entryFrame m #[(.int p0), (.long p1), (.long p2), (.int p3), (.long p4), (.long p5)] maxLocals)) t := by
    intro t k
    refine pre34 t ?_
    show Steps p.tables e below (T32.setTop (mkF m 152 #[.val (.int p0), .val (.long p1), .second, .val (.long p2), .second, .val (.int p3), .val (.long p4), .second, .val (.long p5), .second, .val (.long v10_9), .second, .val (.int ms0_23), .val (.int ms0_38), .val (.int ms0_53), .val (.int ms0_70), .val (.long ms0_83), .second, .val (.long ms0_105), .second, .val (.ref b20), .val (.ref b24), .val (.ref b28), .unset, .unset, .unset, .unset] [(.long ms0_105), (.ref b28), (.ref b32), (.ref b32)])) _
    refine st33.trans ?_
    show Steps p.tables e below (T33.setTop (mkF m 155 #[.val (.int p0), .val (.long p1), .second, .val (.long p2), .second, .val (.int p3), .val (.long p4), .second, .val (.long p5), .second, .val (.long v10_9), .second, .val (.int ms0_23), .val (.int ms0_38), .val (.int ms0_53), .val (.int ms0_70), .val (.long ms0_83), .second, .val (.long ms0_105), .second, .val (.ref b20), .val (.ref b24), .val (.ref b28), .unset, .unset, .unset, .unset] [(.ref b32)])) _
    refine XS.astore X33.here hx rfl (hb hby at_155) rfl rfl (l' := #[.val (.int p0), .val (.long p1), .second, .val (.long p2), .second, .val (.int p3), .val (.long p4), .second, .val (.long p5), .second, .val (.long v10_9), .second, .val (.int ms0_23), .val (.int ms0_38), .val (.int ms0_53), .val (.int ms0_70), .val (.long ms0_83), .second, .val (.long ms0_105), .second, .val (.ref b20), .val (.ref b24), .val (.ref b28), .val (.ref b32), .unset, .unset, .unset]) rfl ?_
    show Steps p.tables e below (T33.setTop (mkF m 157 #[.val (.int p0), .val (.long p1), .second, .val (.long p2), .second, .val (.int p3), .val (.long p4), .second, .val (.long p5), .second, .val (.long v10_9), .second, .val (.int ms0_23), .val (.int ms0_38), .val (.int ms0_53), .val (.int ms0_70), .val (.long ms0_83), .second, .val (.long ms0_105), .second, .val (.ref b20), .val (.ref b24), .val (.ref b28), .val (.ref b32), .unset, .unset, .unset] [])) _
    refine XS.iload X33.here hx rfl (hb hby at_157) rfl  ?_
    show Steps p.tables e below (T33.setTop (mkF m 159 #[.val (.int p0), .val (.long p1), .second, .val (.long p2), .second, .val (.int p3), .val (.long p4), .second, .val (.long p5), .second, .val (.long v10_9), .second, .val (.int ms0_23), .val (.int ms0_38), .val (.int ms0_53), .val (.int ms0_70), .val (.long ms0_83), .second, .val (.long ms0_105), .second, .val (.ref b20), .val (.ref b24), .val (.ref b28), .val (.ref b32), .unset, .unset, .unset] [(.int p3)])) _
    refine XS.iconst X33.here hx rfl (hb hby at_159) ?_
    show Steps p.tables e below (T33.setTop (mkF m 160 #[.val (.int p0), .val (.long p1), .second, .val (.long p2), .second, .val (.int p3), .val (.long p4), .second, .val (.long p5), .second, .val (.long v10_9), .second, .val (.int ms0_23), .val (.int ms0_38), .val (.int ms0_53), .val (.int ms0_70), .val (.long ms0_83), .second, .val (.long ms0_105), .second, .val (.ref b20), .val (.ref b24), .val (.ref b28), .val (.ref b32), .unset, .unset, .unset] [(.int (3 : Int32)), (.int p3)])) _
    refine XS.iand X33.here hx rfl (hb hby at_160) rfl ?_
    show Steps p.tables e below (T33.setTop (mkF m 161 #[.val (.int p0), .val (.long p1), .second, .val (.long p2), .second, .val (.int p3), .val (.long p4), .second, .val (.long p5), .second, .val (.long v10_9), .second, .val (.int ms0_23), .val (.int ms0_38), .val (.int ms0_53), .val (.int ms0_70), .val (.long ms0_83), .second, .val (.long ms0_105), .second, .val (.ref b20), .val (.ref b24), .val (.ref b28), .val (.ref b32), .unset, .unset, .unset] [(.int (p3 &&& (3 : Int32)))])) _
    refine XS.istore X33.here hx rfl (hb hby at_161) rfl (l' := #[.val (.int p0), .val (.long p1), .second, .val (.long p2), .second, .val (.int p3), .val (.long p4), .second, .val (.long p5), .second, .val (.long v10_9), .second, .val (.int ms0_23), .val (.int ms0_38), .val (.int ms0_53), .val (.int ms0_70), .val (.long ms0_83), .second, .val (.long ms0_105), .second, .val (.ref b20), .val (.ref b24), .val (.ref b28), .val (.ref b32), .val (.int v24_161), .unset, .unset]) (by rw [hv24_161]; rfl) ?_
    show Steps p.tables e below (T33.setTop (mkF m 163 #[.val (.int p0), .val (.long p1), .second, .val (.long p2), .second, .val (.int p3), .val (.long p4), .second, .val (.long p5), .second, .val (.long v10_9), .second, .val (.int ms0_23), .val (.int ms0_38), .val (.int ms0_53), .val (.int ms0_70), .val (.long ms0_83), .second, .val (.long ms0_105), .second, .val (.ref b20), .val (.ref b24), .val (.ref b28), .val (.ref b32), .val (.int v24_161), .unset, .unset] [])) _
    refine XS.iload X33.here hx rfl (hb hby at_163) rfl  ?_
    exact k
  by_cases hc165 : v24_161 = (0 : Int32)
  · have pre36 : ∀ t, Steps p.tables e below (T33.setTop (mkF m 175 #[.val (.int p0), .val (.long p1), .second, .val (.long p2), .second, .val (.int p3), .val (.long p4), .second, .val (.long p5), .second, .val (.long v10_9), .second, .val (.int ms0_23), .val (.int ms0_38), .val (.int ms0_53), .val (.int ms0_70), .val (.long ms0_83), .second, .val (.long ms0_105), .second, .val (.ref b20), .val (.ref b24), .val (.ref b28), .val (.ref b32), .val (.int v24_161), .val (.ref b32), .unset] [(.int p0), (.int ms0_70)])) t → Steps p.tables e below (s₁.setTop (entryFrame m #[(.int p0), (.long p1), (.long p2), (.int p3), (.long p4), (.long p5)] maxLocals)) t := by
      intro t k
      refine pre35 t ?_
      show Steps p.tables e below (T33.setTop (mkF m 165 #[.val (.int p0), .val (.long p1), .second, .val (.long p2), .second, .val (.int p3), .val (.long p4), .second, .val (.long p5), .second, .val (.long v10_9), .second, .val (.int ms0_23), .val (.int ms0_38), .val (.int ms0_53), .val (.int ms0_70), .val (.long ms0_83), .second, .val (.long ms0_105), .second, .val (.ref b20), .val (.ref b24), .val (.ref b28), .val (.ref b32), .val (.int v24_161), .unset, .unset] [(.int v24_161)])) _
      refine XS.ifNo X33.here hx rfl (hb hby at_165) rfl ((if0 _ _).trans (teq hc165).2) ?_
      show Steps p.tables e below (T33.setTop (mkF m 168 #[.val (.int p0), .val (.long p1), .second, .val (.long p2), .second, .val (.int p3), .val (.long p4), .second, .val (.long p5), .second, .val (.long v10_9), .second, .val (.int ms0_23), .val (.int ms0_38), .val (.int ms0_53), .val (.int ms0_70), .val (.long ms0_83), .second, .val (.long ms0_105), .second, .val (.ref b20), .val (.ref b24), .val (.ref b28), .val (.ref b32), .val (.int v24_161), .unset, .unset] [])) _
      refine XS.aload X33.here hx rfl (hb hby at_168) rfl rfl ?_
      show Steps p.tables e below (T33.setTop (mkF m 170 #[.val (.int p0), .val (.long p1), .second, .val (.long p2), .second, .val (.int p3), .val (.long p4), .second, .val (.long p5), .second, .val (.long v10_9), .second, .val (.int ms0_23), .val (.int ms0_38), .val (.int ms0_53), .val (.int ms0_70), .val (.long ms0_83), .second, .val (.long ms0_105), .second, .val (.ref b20), .val (.ref b24), .val (.ref b28), .val (.ref b32), .val (.int v24_161), .unset, .unset] [(.ref b32)])) _
      refine XS.astore X33.here hx rfl (hb hby at_170) rfl rfl (l' := #[.val (.int p0), .val (.long p1), .second, .val (.long p2), .second, .val (.int p3), .val (.long p4), .second, .val (.long p5), .second, .val (.long v10_9), .second, .val (.int ms0_23), .val (.int ms0_38), .val (.int ms0_53), .val (.int ms0_70), .val (.long ms0_83), .second, .val (.long ms0_105), .second, .val (.ref b20), .val (.ref b24), .val (.ref b28), .val (.ref b32), .val (.int v24_161), .val (.ref b32), .unset]) rfl ?_
      show Steps p.tables e below (T33.setTop (mkF m 172 #[.val (.int p0), .val (.long p1), .second, .val (.long p2), .second, .val (.int p3), .val (.long p4), .second, .val (.long p5), .second, .val (.long v10_9), .second, .val (.int ms0_23), .val (.int ms0_38), .val (.int ms0_53), .val (.int ms0_70), .val (.long ms0_83), .second, .val (.long ms0_105), .second, .val (.ref b20), .val (.ref b24), .val (.ref b28), .val (.ref b32), .val (.int v24_161), .val (.ref b32), .unset] [])) _
      refine XS.iload X33.here hx rfl (hb hby at_172) rfl  ?_
      show Steps p.tables e below (T33.setTop (mkF m 174 #[.val (.int p0), .val (.long p1), .second, .val (.long p2), .second, .val (.int p3), .val (.long p4), .second, .val (.long p5), .second, .val (.long v10_9), .second, .val (.int ms0_23), .val (.int ms0_38), .val (.int ms0_53), .val (.int ms0_70), .val (.long ms0_83), .second, .val (.long ms0_105), .second, .val (.ref b20), .val (.ref b24), .val (.ref b28), .val (.ref b32), .val (.int v24_161), .val (.ref b32), .unset] [(.int ms0_70)])) _
      refine XS.iloadN X33.here hx rfl (hb hby at_174) rfl  ?_
      exact k
    obtain ⟨ms0_198, hms0_198⟩ : ∃ z : Int32, z = (if ms0_70 = p0 then (if ms0_83 = p1 then (if ms0_105 = v10_9 then (1 : Int32) else (0 : Int32)) else (0 : Int32)) else (0 : Int32)) := ⟨_, rfl⟩
    have pre37 : ∀ t, Steps p.tables e below (T33.setTop (mkF m 198 #[.val (.int p0), .val (.long p1), .second, .val (.long p2), .second, .val (.int p3), .val (.long p4), .second, .val (.long p5), .second, .val (.long v10_9), .second, .val (.int ms0_23), .val (.int ms0_38), .val (.int ms0_53), .val (.int ms0_70), .val (.long ms0_83), .second, .val (.long ms0_105), .second, .val (.ref b20), .val (.ref b24), .val (.ref b28), .val (.ref b32), .val (.int v24_161), .val (.ref b32), .unset] [(.int ms0_198)])) t → Steps p.tables e below (s₁.setTop (entryFrame m #[(.int p0), (.long p1), (.long p2), (.int p3), (.long p4), (.long p5)] maxLocals)) t := by
      intro t k
      refine pre36 t ?_
      by_cases hc175 : ms0_70 = p0
      · show Steps p.tables e below (T33.setTop (mkF m 175 #[.val (.int p0), .val (.long p1), .second, .val (.long p2), .second, .val (.int p3), .val (.long p4), .second, .val (.long p5), .second, .val (.long v10_9), .second, .val (.int ms0_23), .val (.int ms0_38), .val (.int ms0_53), .val (.int ms0_70), .val (.long ms0_83), .second, .val (.long ms0_105), .second, .val (.ref b20), .val (.ref b24), .val (.ref b28), .val (.ref b32), .val (.int v24_161), .val (.ref b32), .unset] [(.int p0), (.int ms0_70)])) _
        refine XS.icmpNo X33.here hx rfl (hb hby at_175) rfl (teq hc175).2 ?_
        show Steps p.tables e below (T33.setTop (mkF m 178 #[.val (.int p0), .val (.long p1), .second, .val (.long p2), .second, .val (.int p3), .val (.long p4), .second, .val (.long p5), .second, .val (.long v10_9), .second, .val (.int ms0_23), .val (.int ms0_38), .val (.int ms0_53), .val (.int ms0_70), .val (.long ms0_83), .second, .val (.long ms0_105), .second, .val (.ref b20), .val (.ref b24), .val (.ref b28), .val (.ref b32), .val (.int v24_161), .val (.ref b32), .unset] [])) _
        refine XS.lload X33.here hx rfl (hb hby at_178) rfl  ?_
        show Steps p.tables e below (T33.setTop (mkF m 180 #[.val (.int p0), .val (.long p1), .second, .val (.long p2), .second, .val (.int p3), .val (.long p4), .second, .val (.long p5), .second, .val (.long v10_9), .second, .val (.int ms0_23), .val (.int ms0_38), .val (.int ms0_53), .val (.int ms0_70), .val (.long ms0_83), .second, .val (.long ms0_105), .second, .val (.ref b20), .val (.ref b24), .val (.ref b28), .val (.ref b32), .val (.int v24_161), .val (.ref b32), .unset] [(.long ms0_83)])) _
        refine XS.lloadN X33.here hx rfl (hb hby at_180) rfl  ?_
        show Steps p.tables e below (T33.setTop (mkF m 181 #[.val (.int p0), .val (.long p1), .second, .val (.long p2), .second, .val (.int p3), .val (.long p4), .second, .val (.long p5), .second, .val (.long v10_9), .second, .val (.int ms0_23), .val (.int ms0_38), .val (.int ms0_53), .val (.int ms0_70), .val (.long ms0_83), .second, .val (.long ms0_105), .second, .val (.ref b20), .val (.ref b24), .val (.ref b28), .val (.ref b32), .val (.int v24_161), .val (.ref b32), .unset] [(.long p1), (.long ms0_83)])) _
        refine XS.lcmp X33.here hx rfl (hb hby at_181) rfl ?_
        by_cases hc182 : ms0_83 = p1
        · show Steps p.tables e below (T33.setTop (mkF m 182 #[.val (.int p0), .val (.long p1), .second, .val (.long p2), .second, .val (.int p3), .val (.long p4), .second, .val (.long p5), .second, .val (.long v10_9), .second, .val (.int ms0_23), .val (.int ms0_38), .val (.int ms0_53), .val (.int ms0_70), .val (.long ms0_83), .second, .val (.long ms0_105), .second, .val (.ref b20), .val (.ref b24), .val (.ref b28), .val (.ref b32), .val (.int v24_161), .val (.ref b32), .unset] [(.int (lcmpW ms0_83 p1))])) _
          refine XS.ifNo X33.here hx rfl (hb hby at_182) rfl ((if0 _ _).trans (teq ((lw_eq _ _).mpr hc182)).2) ?_
          show Steps p.tables e below (T33.setTop (mkF m 185 #[.val (.int p0), .val (.long p1), .second, .val (.long p2), .second, .val (.int p3), .val (.long p4), .second, .val (.long p5), .second, .val (.long v10_9), .second, .val (.int ms0_23), .val (.int ms0_38), .val (.int ms0_53), .val (.int ms0_70), .val (.long ms0_83), .second, .val (.long ms0_105), .second, .val (.ref b20), .val (.ref b24), .val (.ref b28), .val (.ref b32), .val (.int v24_161), .val (.ref b32), .unset] [])) _
          refine XS.lload X33.here hx rfl (hb hby at_185) rfl  ?_
          show Steps p.tables e below (T33.setTop (mkF m 187 #[.val (.int p0), .val (.long p1), .second, .val (.long p2), .second, .val (.int p3), .val (.long p4), .second, .val (.long p5), .second, .val (.long v10_9), .second, .val (.int ms0_23), .val (.int ms0_38), .val (.int ms0_53), .val (.int ms0_70), .val (.long ms0_83), .second, .val (.long ms0_105), .second, .val (.ref b20), .val (.ref b24), .val (.ref b28), .val (.ref b32), .val (.int v24_161), .val (.ref b32), .unset] [(.long ms0_105)])) _
          refine XS.lload X33.here hx rfl (hb hby at_187) rfl  ?_
          show Steps p.tables e below (T33.setTop (mkF m 189 #[.val (.int p0), .val (.long p1), .second, .val (.long p2), .second, .val (.int p3), .val (.long p4), .second, .val (.long p5), .second, .val (.long v10_9), .second, .val (.int ms0_23), .val (.int ms0_38), .val (.int ms0_53), .val (.int ms0_70), .val (.long ms0_83), .second, .val (.long ms0_105), .second, .val (.ref b20), .val (.ref b24), .val (.ref b28), .val (.ref b32), .val (.int v24_161), .val (.ref b32), .unset] [(.long v10_9), (.long ms0_105)])) _
          refine XS.lcmp X33.here hx rfl (hb hby at_189) rfl ?_
          by_cases hc190 : ms0_105 = v10_9
          · show Steps p.tables e below (T33.setTop (mkF m 190 #[.val (.int p0), .val (.long p1), .second, .val (.long p2), .second, .val (.int p3), .val (.long p4), .second, .val (.long p5), .second, .val (.long v10_9), .second, .val (.int ms0_23), .val (.int ms0_38), .val (.int ms0_53), .val (.int ms0_70), .val (.long ms0_83), .second, .val (.long ms0_105), .second, .val (.ref b20), .val (.ref b24), .val (.ref b28), .val (.ref b32), .val (.int v24_161), .val (.ref b32), .unset] [(.int (lcmpW ms0_105 v10_9))])) _
            refine XS.ifNo X33.here hx rfl (hb hby at_190) rfl ((if0 _ _).trans (teq ((lw_eq _ _).mpr hc190)).2) ?_
            show Steps p.tables e below (T33.setTop (mkF m 193 #[.val (.int p0), .val (.long p1), .second, .val (.long p2), .second, .val (.int p3), .val (.long p4), .second, .val (.long p5), .second, .val (.long v10_9), .second, .val (.int ms0_23), .val (.int ms0_38), .val (.int ms0_53), .val (.int ms0_70), .val (.long ms0_83), .second, .val (.long ms0_105), .second, .val (.ref b20), .val (.ref b24), .val (.ref b28), .val (.ref b32), .val (.int v24_161), .val (.ref b32), .unset] [])) _
            refine XS.iconst X33.here hx rfl (hb hby at_193) ?_
            show Steps p.tables e below (T33.setTop (mkF m 194 #[.val (.int p0), .val (.long p1), .second, .val (.long p2), .second, .val (.int p3), .val (.long p4), .second, .val (.long p5), .second, .val (.long v10_9), .second, .val (.int ms0_23), .val (.int ms0_38), .val (.int ms0_53), .val (.int ms0_70), .val (.long ms0_83), .second, .val (.long ms0_105), .second, .val (.ref b20), .val (.ref b24), .val (.ref b28), .val (.ref b32), .val (.int v24_161), .val (.ref b32), .unset] [(.int (1 : Int32))])) _
            refine XS.goto X33.here hx rfl (pc0 := 194) (pc' := 198) rfl (hb hby at_194) (by decide) (by decide) ?_
            have qms0_198 : ms0_198 = (1 : Int32) := by rw [hms0_198, if_pos hc175, if_pos hc182, if_pos hc190]
            rw [qms0_198] at k
            exact k
          · show Steps p.tables e below (T33.setTop (mkF m 190 #[.val (.int p0), .val (.long p1), .second, .val (.long p2), .second, .val (.int p3), .val (.long p4), .second, .val (.long p5), .second, .val (.long v10_9), .second, .val (.int ms0_23), .val (.int ms0_38), .val (.int ms0_53), .val (.int ms0_70), .val (.long ms0_83), .second, .val (.long ms0_105), .second, .val (.ref b20), .val (.ref b24), .val (.ref b28), .val (.ref b32), .val (.int v24_161), .val (.ref b32), .unset] [(.int (lcmpW ms0_105 v10_9))])) _
            refine XS.ifYes X33.here hx rfl (pc0 := 190) (pc' := 197) rfl (hb hby at_190) rfl ((if0 _ _).trans (feq (fun q => hc190 ((lw_eq _ _).mp q))).2) (by decide) (by decide) ?_
            show Steps p.tables e below (T33.setTop (mkF m 197 #[.val (.int p0), .val (.long p1), .second, .val (.long p2), .second, .val (.int p3), .val (.long p4), .second, .val (.long p5), .second, .val (.long v10_9), .second, .val (.int ms0_23), .val (.int ms0_38), .val (.int ms0_53), .val (.int ms0_70), .val (.long ms0_83), .second, .val (.long ms0_105), .second, .val (.ref b20), .val (.ref b24), .val (.ref b28), .val (.ref b32), .val (.int v24_161), .val (.ref b32), .unset] [])) _
            refine XS.iconst X33.here hx rfl (hb hby at_197) ?_
            have qms0_198 : ms0_198 = (0 : Int32) := by rw [hms0_198, if_pos hc175, if_pos hc182, if_neg hc190]
            rw [qms0_198] at k
            exact k
        · show Steps p.tables e below (T33.setTop (mkF m 182 #[.val (.int p0), .val (.long p1), .second, .val (.long p2), .second, .val (.int p3), .val (.long p4), .second, .val (.long p5), .second, .val (.long v10_9), .second, .val (.int ms0_23), .val (.int ms0_38), .val (.int ms0_53), .val (.int ms0_70), .val (.long ms0_83), .second, .val (.long ms0_105), .second, .val (.ref b20), .val (.ref b24), .val (.ref b28), .val (.ref b32), .val (.int v24_161), .val (.ref b32), .unset] [(.int (lcmpW ms0_83 p1))])) _
          refine XS.ifYes X33.here hx rfl (pc0 := 182) (pc' := 197) rfl (hb hby at_182) rfl ((if0 _ _).trans (feq (fun q => hc182 ((lw_eq _ _).mp q))).2) (by decide) (by decide) ?_
          show Steps p.tables e below (T33.setTop (mkF m 197 #[.val (.int p0), .val (.long p1), .second, .val (.long p2), .second, .val (.int p3), .val (.long p4), .second, .val (.long p5), .second, .val (.long v10_9), .second, .val (.int ms0_23), .val (.int ms0_38), .val (.int ms0_53), .val (.int ms0_70), .val (.long ms0_83), .second, .val (.long ms0_105), .second, .val (.ref b20), .val (.ref b24), .val (.ref b28), .val (.ref b32), .val (.int v24_161), .val (.ref b32), .unset] [])) _
          refine XS.iconst X33.here hx rfl (hb hby at_197) ?_
          have qms0_198 : ms0_198 = (0 : Int32) := by rw [hms0_198, if_pos hc175, if_neg hc182]
          rw [qms0_198] at k
          exact k
      · show Steps p.tables e below (T33.setTop (mkF m 175 #[.val (.int p0), .val (.long p1), .second, .val (.long p2), .second, .val (.int p3), .val (.long p4), .second, .val (.long p5), .second, .val (.long v10_9), .second, .val (.int ms0_23), .val (.int ms0_38), .val (.int ms0_53), .val (.int ms0_70), .val (.long ms0_83), .second, .val (.long ms0_105), .second, .val (.ref b20), .val (.ref b24), .val (.ref b28), .val (.ref b32), .val (.int v24_161), .val (.ref b32), .unset] [(.int p0), (.int ms0_70)])) _
        refine XS.icmpYes X33.here hx rfl (pc0 := 175) (pc' := 197) rfl (hb hby at_175) rfl (feq hc175).2 (by decide) (by decide) ?_
        show Steps p.tables e below (T33.setTop (mkF m 197 #[.val (.int p0), .val (.long p1), .second, .val (.long p2), .second, .val (.int p3), .val (.long p4), .second, .val (.long p5), .second, .val (.long v10_9), .second, .val (.int ms0_23), .val (.int ms0_38), .val (.int ms0_53), .val (.int ms0_70), .val (.long ms0_83), .second, .val (.long ms0_105), .second, .val (.ref b20), .val (.ref b24), .val (.ref b28), .val (.ref b32), .val (.int v24_161), .val (.ref b32), .unset] [])) _
        refine XS.iconst X33.here hx rfl (hb hby at_197) ?_
        have qms0_198 : ms0_198 = (0 : Int32) := by rw [hms0_198, if_neg hc175]
        rw [qms0_198] at k
        exact k
    have pre39 : ∀ t, Steps p.tables e below (T33.setTop (mkF m 245 #[.val (.int p0), .val (.long p1), .second, .val (.long p2), .second, .val (.int p3), .val (.long p4), .second, .val (.long p5), .second, .val (.long v10_9), .second, .val (.int ms0_23), .val (.int ms0_38), .val (.int ms0_53), .val (.int ms0_70), .val (.long ms0_83), .second, .val (.long ms0_105), .second, .val (.ref b20), .val (.ref b24), .val (.ref b28), .val (.ref b32), .val (.int v24_161), .val (.ref b32), .val (.int ms0_198)] [(.ref b32), (.ref b24)])) t → Steps p.tables e below (s₁.setTop (entryFrame m #[(.int p0), (.long p1), (.long p2), (.int p3), (.long p4), (.long p5)] maxLocals)) t := by
      intro t k
      refine pre37 t ?_
      show Steps p.tables e below (T33.setTop (mkF m 198 #[.val (.int p0), .val (.long p1), .second, .val (.long p2), .second, .val (.int p3), .val (.long p4), .second, .val (.long p5), .second, .val (.long v10_9), .second, .val (.int ms0_23), .val (.int ms0_38), .val (.int ms0_53), .val (.int ms0_70), .val (.long ms0_83), .second, .val (.long ms0_105), .second, .val (.ref b20), .val (.ref b24), .val (.ref b28), .val (.ref b32), .val (.int v24_161), .val (.ref b32), .unset] [(.int ms0_198)])) _
      refine XS.istore X33.here hx rfl (hb hby at_198) rfl (l' := #[.val (.int p0), .val (.long p1), .second, .val (.long p2), .second, .val (.int p3), .val (.long p4), .second, .val (.long p5), .second, .val (.long v10_9), .second, .val (.int ms0_23), .val (.int ms0_38), .val (.int ms0_53), .val (.int ms0_70), .val (.long ms0_83), .second, .val (.long ms0_105), .second, .val (.ref b20), .val (.ref b24), .val (.ref b28), .val (.ref b32), .val (.int v24_161), .val (.ref b32), .val (.int ms0_198)]) rfl ?_
      show Steps p.tables e below (T33.setTop (mkF m 200 #[.val (.int p0), .val (.long p1), .second, .val (.long p2), .second, .val (.int p3), .val (.long p4), .second, .val (.long p5), .second, .val (.long v10_9), .second, .val (.int ms0_23), .val (.int ms0_38), .val (.int ms0_53), .val (.int ms0_70), .val (.long ms0_83), .second, .val (.long ms0_105), .second, .val (.ref b20), .val (.ref b24), .val (.ref b28), .val (.ref b32), .val (.int v24_161), .val (.ref b32), .val (.int ms0_198)] [])) _
      refine XS.goto X33.here hx rfl (pc0 := 200) (pc' := 241) rfl (hb hby at_200) (by decide) (by decide) ?_
      show Steps p.tables e below (T33.setTop (mkF m 241 #[.val (.int p0), .val (.long p1), .second, .val (.long p2), .second, .val (.int p3), .val (.long p4), .second, .val (.long p5), .second, .val (.long v10_9), .second, .val (.int ms0_23), .val (.int ms0_38), .val (.int ms0_53), .val (.int ms0_70), .val (.long ms0_83), .second, .val (.long ms0_105), .second, .val (.ref b20), .val (.ref b24), .val (.ref b28), .val (.ref b32), .val (.int v24_161), .val (.ref b32), .val (.int ms0_198)] [])) _
      refine XS.aload X33.here hx rfl (hb hby at_241) rfl rfl ?_
      show Steps p.tables e below (T33.setTop (mkF m 243 #[.val (.int p0), .val (.long p1), .second, .val (.long p2), .second, .val (.int p3), .val (.long p4), .second, .val (.long p5), .second, .val (.long v10_9), .second, .val (.int ms0_23), .val (.int ms0_38), .val (.int ms0_53), .val (.int ms0_70), .val (.long ms0_83), .second, .val (.long ms0_105), .second, .val (.ref b20), .val (.ref b24), .val (.ref b28), .val (.ref b32), .val (.int v24_161), .val (.ref b32), .val (.int ms0_198)] [(.ref b24)])) _
      refine XS.aload X33.here hx rfl (hb hby at_243) rfl rfl ?_
      exact k
    obtain ⟨cq38, kq38, q38a, q38b, q38c⟩ := isOf hZ rfl exa_b24_33
    obtain ⟨_, _, ⟨T38, L38, k38, n38⟩, -, X38, ⟨Lc38, hQ38, l38, y38, z38⟩, st38⟩ := X33.virtualBack hx (y := (⟨"com/example/sibyl/sibyl/kernel/ObjectId", "equals", "(Ljava/lang/Object;)Z"⟩ : MethodName)) (z := (⟨"com/example/sibyl/sibyl/kernel/ObjectId", "equals", "(Ljava/lang/Object;)Z"⟩ : MethodName)) hown (mvT hZ (hw _ (List.mem_of_getElem? (i := 29) rfl))) (mvT hZ (hw _ (List.mem_of_getElem? (i := 30) rfl))) (notFace_of_selects (args := #[]) (mvT hZ (hw _ (List.mem_of_getElem? (i := 32) rfl)))) (mvT hZ (hw _ (List.mem_of_getElem? (i := 32) rfl))) (mvT hZ (hw _ (List.mem_of_getElem? (i := 31) rfl))) (by decide) (backOf (W := 0) (rm_5o l Z a0 hw [] b24 b32 v10_9 ms0_105 b20 b28 p0 p1 ms0_70 ms0_83 T33.heap n0 Z33 ne_b24_b32 Q33_0 fld_b24_count_33 Q33_2 fld_b24_creator_33 Q33_1 ne_b20_b28 exa_b20_33 exa_b28_33 fld_b20_level_33 fld_b20_categories_33 fld_b28_level_33 fld_b28_categories_33) hZ (hw _ (List.mem_of_getElem? (i := 33) rfl)) (hw _ (List.mem_of_getElem? (i := 20) rfl)) (by decide) (by decide)) q38a q38c (g := (mkF m 245 #[.val (.int p0), .val (.long p1), .second, .val (.long p2), .second, .val (.int p3), .val (.long p4), .second, .val (.long p5), .second, .val (.long v10_9), .second, .val (.int ms0_23), .val (.int ms0_38), .val (.int ms0_53), .val (.int ms0_70), .val (.long ms0_83), .second, .val (.long ms0_105), .second, .val (.ref b20), .val (.ref b24), .val (.ref b28), .val (.ref b32), .val (.int v24_161), .val (.ref b32), .val (.int ms0_198)] [(.ref b32), (.ref b24)])) rfl (by rw [hml]; rfl) (Steps.refl _) (argsL := [(.ref b32)]) (rest := []) (lenOf pd_0 rfl) rfl (by show 2 * 0 + _ ≤ _; exact Nat.le_of_eq rfl) (hb hby at_245) (fun _ _ => ⟨rfl, rfl, (by decide : 4 + 0 ≤ _), (by decide : 8 + 0 ≤ _)⟩)
    dsimp only [Pt.U, Pt.locs, Pt.cells, Pt.slots] at X38 l38 y38 z38 st38 hQ38
    subst l38 y38 z38
    obtain ⟨rfl, N38q, e38⟩ := hQ38
    have N38 := Fr.app N33 N38q
    have pre40 : ∀ t, Steps p.tables e below (T38.setTop (mkF m 250 #[.val (.int p0), .val (.long p1), .second, .val (.long p2), .second, .val (.int p3), .val (.long p4), .second, .val (.long p5), .second, .val (.long v10_9), .second, .val (.int ms0_23), .val (.int ms0_38), .val (.int ms0_53), .val (.int ms0_70), .val (.long ms0_83), .second, .val (.long ms0_105), .second, .val (.ref b20), .val (.ref b24), .val (.ref b28), .val (.ref b32), .val (.int v24_161), .val (.ref b32), .val (.int ms0_198)] [(.int ms0_198), (.int (f_5o v10_9 ms0_105 p0 p1 ms0_70 ms0_83))])) t → Steps p.tables e below (s₁.setTop (entryFrame m #[(.int p0), (.long p1), (.long p2), (.int p3), (.long p4), (.long p5)] maxLocals)) t := by
      intro t k
      refine pre39 t ?_
      show Steps p.tables e below (T33.setTop (mkF m 245 #[.val (.int p0), .val (.long p1), .second, .val (.long p2), .second, .val (.int p3), .val (.long p4), .second, .val (.long p5), .second, .val (.long v10_9), .second, .val (.int ms0_23), .val (.int ms0_38), .val (.int ms0_53), .val (.int ms0_70), .val (.long ms0_83), .second, .val (.long ms0_105), .second, .val (.ref b20), .val (.ref b24), .val (.ref b28), .val (.ref b32), .val (.int v24_161), .val (.ref b32), .val (.int ms0_198)] [(.ref b32), (.ref b24)])) _
      refine st38.trans ?_
      show Steps p.tables e below (T38.setTop (mkF m 248 #[.val (.int p0), .val (.long p1), .second, .val (.long p2), .second, .val (.int p3), .val (.long p4), .second, .val (.long p5), .second, .val (.long v10_9), .second, .val (.int ms0_23), .val (.int ms0_38), .val (.int ms0_53), .val (.int ms0_70), .val (.long ms0_83), .second, .val (.long ms0_105), .second, .val (.ref b20), .val (.ref b24), .val (.ref b28), .val (.ref b32), .val (.int v24_161), .val (.ref b32), .val (.int ms0_198)] [(.int (f_5o v10_9 ms0_105 p0 p1 ms0_70 ms0_83))])) _
      refine XS.iload X38.here hx rfl (hb hby at_248) rfl  ?_
      exact k
    obtain ⟨ms0_258, hms0_258⟩ : ∃ z : Int32, z = (if (f_5o v10_9 ms0_105 p0 p1 ms0_70 ms0_83) = ms0_198 then (1 : Int32) else (0 : Int32)) := ⟨_, rfl⟩
    have pre41 : ∀ t, Steps p.tables e below (T38.setTop (mkF m 258 #[.val (.int p0), .val (.long p1), .second, .val (.long p2), .second, .val (.int p3), .val (.long p4), .second, .val (.long p5), .second, .val (.long v10_9), .second, .val (.int ms0_23), .val (.int ms0_38), .val (.int ms0_53), .val (.int ms0_70), .val (.long ms0_83), .second, .val (.long ms0_105), .second, .val (.ref b20), .val (.ref b24), .val (.ref b28), .val (.ref b32), .val (.int v24_161), .val (.ref b32), .val (.int ms0_198)] [(.int ms0_258)])) t → Steps p.tables e below (s₁.setTop (entryFrame m #[(.int p0), (.long p1), (.long p2), (.int p3), (.long p4), (.long p5)] maxLocals)) t := by
      intro t k
      refine pre40 t ?_
      by_cases hc250 : (f_5o v10_9 ms0_105 p0 p1 ms0_70 ms0_83) = ms0_198
      · show Steps p.tables e below (T38.setTop (mkF m 250 #[.val (.int p0), .val (.long p1), .second, .val (.long p2), .second, .val (.int p3), .val (.long p4), .second, .val (.long p5), .second, .val (.long v10_9), .second, .val (.int ms0_23), .val (.int ms0_38), .val (.int ms0_53), .val (.int ms0_70), .val (.long ms0_83), .second, .val (.long ms0_105), .second, .val (.ref b20), .val (.ref b24), .val (.ref b28), .val (.ref b32), .val (.int v24_161), .val (.ref b32), .val (.int ms0_198)] [(.int ms0_198), (.int (f_5o v10_9 ms0_105 p0 p1 ms0_70 ms0_83))])) _
        refine XS.icmpNo X38.here hx rfl (hb hby at_250) rfl (teq hc250).2 ?_
        show Steps p.tables e below (T38.setTop (mkF m 253 #[.val (.int p0), .val (.long p1), .second, .val (.long p2), .second, .val (.int p3), .val (.long p4), .second, .val (.long p5), .second, .val (.long v10_9), .second, .val (.int ms0_23), .val (.int ms0_38), .val (.int ms0_53), .val (.int ms0_70), .val (.long ms0_83), .second, .val (.long ms0_105), .second, .val (.ref b20), .val (.ref b24), .val (.ref b28), .val (.ref b32), .val (.int v24_161), .val (.ref b32), .val (.int ms0_198)] [])) _
        refine XS.iconst X38.here hx rfl (hb hby at_253) ?_
        show Steps p.tables e below (T38.setTop (mkF m 254 #[.val (.int p0), .val (.long p1), .second, .val (.long p2), .second, .val (.int p3), .val (.long p4), .second, .val (.long p5), .second, .val (.long v10_9), .second, .val (.int ms0_23), .val (.int ms0_38), .val (.int ms0_53), .val (.int ms0_70), .val (.long ms0_83), .second, .val (.long ms0_105), .second, .val (.ref b20), .val (.ref b24), .val (.ref b28), .val (.ref b32), .val (.int v24_161), .val (.ref b32), .val (.int ms0_198)] [(.int (1 : Int32))])) _
        refine XS.goto X38.here hx rfl (pc0 := 254) (pc' := 258) rfl (hb hby at_254) (by decide) (by decide) ?_
        have qms0_258 : ms0_258 = (1 : Int32) := by rw [hms0_258, if_pos hc250]
        rw [qms0_258] at k
        exact k
      · show Steps p.tables e below (T38.setTop (mkF m 250 #[.val (.int p0), .val (.long p1), .second, .val (.long p2), .second, .val (.int p3), .val (.long p4), .second, .val (.long p5), .second, .val (.long v10_9), .second, .val (.int ms0_23), .val (.int ms0_38), .val (.int ms0_53), .val (.int ms0_70), .val (.long ms0_83), .second, .val (.long ms0_105), .second, .val (.ref b20), .val (.ref b24), .val (.ref b28), .val (.ref b32), .val (.int v24_161), .val (.ref b32), .val (.int ms0_198)] [(.int ms0_198), (.int (f_5o v10_9 ms0_105 p0 p1 ms0_70 ms0_83))])) _
        refine XS.icmpYes X38.here hx rfl (pc0 := 250) (pc' := 257) rfl (hb hby at_250) rfl (feq hc250).2 (by decide) (by decide) ?_
        show Steps p.tables e below (T38.setTop (mkF m 257 #[.val (.int p0), .val (.long p1), .second, .val (.long p2), .second, .val (.int p3), .val (.long p4), .second, .val (.long p5), .second, .val (.long v10_9), .second, .val (.int ms0_23), .val (.int ms0_38), .val (.int ms0_53), .val (.int ms0_70), .val (.long ms0_83), .second, .val (.long ms0_105), .second, .val (.ref b20), .val (.ref b24), .val (.ref b28), .val (.ref b32), .val (.int v24_161), .val (.ref b32), .val (.int ms0_198)] [])) _
        refine XS.iconst X38.here hx rfl (hb hby at_257) ?_
        have qms0_258 : ms0_258 = (0 : Int32) := by rw [hms0_258, if_neg hc250]
        rw [qms0_258] at k
        exact k
    have hnar : nar .boolean ms0_258 = ms0_258 := by rw [hms0_258]; (repeat' split) <;> rfl
    obtain ⟨fs, hr, hrun, hended, hW, hsame⟩ := X38.leave (v := some (.int ms0_258)) (fun h => by rw [Bd.returns] at h; cases h)
    refine ⟨_, _, pre41 _ ?_, hrun, hended, _, _, rfl, ?_, ⟨_, rfl⟩, hW, hsame.mono (by decide) (by decide)⟩
    · show Steps p.tables e below (T38.setTop (mkF m 258 #[.val (.int p0), .val (.long p1), .second, .val (.long p2), .second, .val (.int p3), .val (.long p4), .second, .val (.long p5), .second, .val (.long v10_9), .second, .val (.int ms0_23), .val (.int ms0_38), .val (.int ms0_53), .val (.int ms0_70), .val (.long ms0_83), .second, .val (.long ms0_105), .second, .val (.ref b20), .val (.ref b24), .val (.ref b28), .val (.ref b32), .val (.int v24_161), .val (.ref b32), .val (.int ms0_198)] [(.int ms0_258)])) _
      exact retN X38 hx (t := .boolean) Bd.returns (by simp) (hb hby at_258) (by rw [hnar]; exact hr)
    · show Q_0 Z p0 p1 p2 p3 p4 p5 h0 n0 _ T38.heap _
      rw [e38]
      exact ⟨congrArg (fun z => some (Value.int z)) (by subst hv10_9 hms0_23 hms0_38 hms0_53 hms0_70 hms0_83 hms0_105 hv24_161 hms0_198 hms0_258; exact (if_pos hc165).symm : ms0_258 = f_0 p0 p1 p2 p3 p4 p5), N38, trivial⟩
  · have pre42 : ∀ t, Steps p.tables e below (T33.setTop (mkF m 206 #[.val (.int p0), .val (.long p1), .second, .val (.long p2), .second, .val (.int p3), .val (.long p4), .second, .val (.long p5), .second, .val (.long v10_9), .second, .val (.int ms0_23), .val (.int ms0_38), .val (.int ms0_53), .val (.int ms0_70), .val (.long ms0_83), .second, .val (.long ms0_105), .second, .val (.ref b20), .val (.ref b24), .val (.ref b28), .val (.ref b32), .val (.int v24_161), .unset, .unset] [(.int (1 : Int32)), (.int v24_161)])) t → Steps p.tables e below (s₁.setTop (entryFrame m #[(.int p0), (.long p1), (.long p2), (.int p3), (.long p4), (.long p5)] maxLocals)) t := by
      intro t k
      refine pre35 t ?_
      show Steps p.tables e below (T33.setTop (mkF m 165 #[.val (.int p0), .val (.long p1), .second, .val (.long p2), .second, .val (.int p3), .val (.long p4), .second, .val (.long p5), .second, .val (.long v10_9), .second, .val (.int ms0_23), .val (.int ms0_38), .val (.int ms0_53), .val (.int ms0_70), .val (.long ms0_83), .second, .val (.long ms0_105), .second, .val (.ref b20), .val (.ref b24), .val (.ref b28), .val (.ref b32), .val (.int v24_161), .unset, .unset] [(.int v24_161)])) _
      refine XS.ifYes X33.here hx rfl (pc0 := 165) (pc' := 203) rfl (hb hby at_165) rfl ((if0 _ _).trans (feq hc165).2) (by decide) (by decide) ?_
      show Steps p.tables e below (T33.setTop (mkF m 203 #[.val (.int p0), .val (.long p1), .second, .val (.long p2), .second, .val (.int p3), .val (.long p4), .second, .val (.long p5), .second, .val (.long v10_9), .second, .val (.int ms0_23), .val (.int ms0_38), .val (.int ms0_53), .val (.int ms0_70), .val (.long ms0_83), .second, .val (.long ms0_105), .second, .val (.ref b20), .val (.ref b24), .val (.ref b28), .val (.ref b32), .val (.int v24_161), .unset, .unset] [])) _
      refine XS.iload X33.here hx rfl (hb hby at_203) rfl  ?_
      show Steps p.tables e below (T33.setTop (mkF m 205 #[.val (.int p0), .val (.long p1), .second, .val (.long p2), .second, .val (.int p3), .val (.long p4), .second, .val (.long p5), .second, .val (.long v10_9), .second, .val (.int ms0_23), .val (.int ms0_38), .val (.int ms0_53), .val (.int ms0_70), .val (.long ms0_83), .second, .val (.long ms0_105), .second, .val (.ref b20), .val (.ref b24), .val (.ref b28), .val (.ref b32), .val (.int v24_161), .unset, .unset] [(.int v24_161)])) _
      refine XS.iconst X33.here hx rfl (hb hby at_205) ?_
      exact k
    by_cases hc206 : v24_161 = (1 : Int32)
    · have pre44 : ∀ t, Steps p.tables e below (T33.setTop (mkF m 245 #[.val (.int p0), .val (.long p1), .second, .val (.long p2), .second, .val (.int p3), .val (.long p4), .second, .val (.long p5), .second, .val (.long v10_9), .second, .val (.int ms0_23), .val (.int ms0_38), .val (.int ms0_53), .val (.int ms0_70), .val (.long ms0_83), .second, .val (.long ms0_105), .second, .val (.ref b20), .val (.ref b24), .val (.ref b28), .val (.ref b32), .val (.int v24_161), .val (.ref b24), .val (.int (1 : Int32))] [(.ref b24), (.ref b24)])) t → Steps p.tables e below (s₁.setTop (entryFrame m #[(.int p0), (.long p1), (.long p2), (.int p3), (.long p4), (.long p5)] maxLocals)) t := by
        intro t k
        refine pre42 t ?_
        show Steps p.tables e below (T33.setTop (mkF m 206 #[.val (.int p0), .val (.long p1), .second, .val (.long p2), .second, .val (.int p3), .val (.long p4), .second, .val (.long p5), .second, .val (.long v10_9), .second, .val (.int ms0_23), .val (.int ms0_38), .val (.int ms0_53), .val (.int ms0_70), .val (.long ms0_83), .second, .val (.long ms0_105), .second, .val (.ref b20), .val (.ref b24), .val (.ref b28), .val (.ref b32), .val (.int v24_161), .unset, .unset] [(.int (1 : Int32)), (.int v24_161)])) _
        refine XS.icmpNo X33.here hx rfl (hb hby at_206) rfl (teq hc206).2 ?_
        show Steps p.tables e below (T33.setTop (mkF m 209 #[.val (.int p0), .val (.long p1), .second, .val (.long p2), .second, .val (.int p3), .val (.long p4), .second, .val (.long p5), .second, .val (.long v10_9), .second, .val (.int ms0_23), .val (.int ms0_38), .val (.int ms0_53), .val (.int ms0_70), .val (.long ms0_83), .second, .val (.long ms0_105), .second, .val (.ref b20), .val (.ref b24), .val (.ref b28), .val (.ref b32), .val (.int v24_161), .unset, .unset] [])) _
        refine XS.aload X33.here hx rfl (hb hby at_209) rfl rfl ?_
        show Steps p.tables e below (T33.setTop (mkF m 211 #[.val (.int p0), .val (.long p1), .second, .val (.long p2), .second, .val (.int p3), .val (.long p4), .second, .val (.long p5), .second, .val (.long v10_9), .second, .val (.int ms0_23), .val (.int ms0_38), .val (.int ms0_53), .val (.int ms0_70), .val (.long ms0_83), .second, .val (.long ms0_105), .second, .val (.ref b20), .val (.ref b24), .val (.ref b28), .val (.ref b32), .val (.int v24_161), .unset, .unset] [(.ref b24)])) _
        refine XS.astore X33.here hx rfl (hb hby at_211) rfl rfl (l' := #[.val (.int p0), .val (.long p1), .second, .val (.long p2), .second, .val (.int p3), .val (.long p4), .second, .val (.long p5), .second, .val (.long v10_9), .second, .val (.int ms0_23), .val (.int ms0_38), .val (.int ms0_53), .val (.int ms0_70), .val (.long ms0_83), .second, .val (.long ms0_105), .second, .val (.ref b20), .val (.ref b24), .val (.ref b28), .val (.ref b32), .val (.int v24_161), .val (.ref b24), .unset]) rfl ?_
        show Steps p.tables e below (T33.setTop (mkF m 213 #[.val (.int p0), .val (.long p1), .second, .val (.long p2), .second, .val (.int p3), .val (.long p4), .second, .val (.long p5), .second, .val (.long v10_9), .second, .val (.int ms0_23), .val (.int ms0_38), .val (.int ms0_53), .val (.int ms0_70), .val (.long ms0_83), .second, .val (.long ms0_105), .second, .val (.ref b20), .val (.ref b24), .val (.ref b28), .val (.ref b32), .val (.int v24_161), .val (.ref b24), .unset] [])) _
        refine XS.iconst X33.here hx rfl (hb hby at_213) ?_
        show Steps p.tables e below (T33.setTop (mkF m 214 #[.val (.int p0), .val (.long p1), .second, .val (.long p2), .second, .val (.int p3), .val (.long p4), .second, .val (.long p5), .second, .val (.long v10_9), .second, .val (.int ms0_23), .val (.int ms0_38), .val (.int ms0_53), .val (.int ms0_70), .val (.long ms0_83), .second, .val (.long ms0_105), .second, .val (.ref b20), .val (.ref b24), .val (.ref b28), .val (.ref b32), .val (.int v24_161), .val (.ref b24), .unset] [(.int (1 : Int32))])) _
        refine XS.istore X33.here hx rfl (hb hby at_214) rfl (l' := #[.val (.int p0), .val (.long p1), .second, .val (.long p2), .second, .val (.int p3), .val (.long p4), .second, .val (.long p5), .second, .val (.long v10_9), .second, .val (.int ms0_23), .val (.int ms0_38), .val (.int ms0_53), .val (.int ms0_70), .val (.long ms0_83), .second, .val (.long ms0_105), .second, .val (.ref b20), .val (.ref b24), .val (.ref b28), .val (.ref b32), .val (.int v24_161), .val (.ref b24), .val (.int (1 : Int32))]) rfl ?_
        show Steps p.tables e below (T33.setTop (mkF m 216 #[.val (.int p0), .val (.long p1), .second, .val (.long p2), .second, .val (.int p3), .val (.long p4), .second, .val (.long p5), .second, .val (.long v10_9), .second, .val (.int ms0_23), .val (.int ms0_38), .val (.int ms0_53), .val (.int ms0_70), .val (.long ms0_83), .second, .val (.long ms0_105), .second, .val (.ref b20), .val (.ref b24), .val (.ref b28), .val (.ref b32), .val (.int v24_161), .val (.ref b24), .val (.int (1 : Int32))] [])) _
        refine XS.goto X33.here hx rfl (pc0 := 216) (pc' := 241) rfl (hb hby at_216) (by decide) (by decide) ?_
        show Steps p.tables e below (T33.setTop (mkF m 241 #[.val (.int p0), .val (.long p1), .second, .val (.long p2), .second, .val (.int p3), .val (.long p4), .second, .val (.long p5), .second, .val (.long v10_9), .second, .val (.int ms0_23), .val (.int ms0_38), .val (.int ms0_53), .val (.int ms0_70), .val (.long ms0_83), .second, .val (.long ms0_105), .second, .val (.ref b20), .val (.ref b24), .val (.ref b28), .val (.ref b32), .val (.int v24_161), .val (.ref b24), .val (.int (1 : Int32))] [])) _
        refine XS.aload X33.here hx rfl (hb hby at_241) rfl rfl ?_
        show Steps p.tables e below (T33.setTop (mkF m 243 #[.val (.int p0), .val (.long p1), .second, .val (.long p2), .second, .val (.int p3), .val (.long p4), .second, .val (.long p5), .second, .val (.long v10_9), .second, .val (.int ms0_23), .val (.int ms0_38), .val (.int ms0_53), .val (.int ms0_70), .val (.long ms0_83), .second, .val (.long ms0_105), .second, .val (.ref b20), .val (.ref b24), .val (.ref b28), .val (.ref b32), .val (.int v24_161), .val (.ref b24), .val (.int (1 : Int32))] [(.ref b24)])) _
        refine XS.aload X33.here hx rfl (hb hby at_243) rfl rfl ?_
        exact k
      obtain ⟨cq43, kq43, q43a, q43b, q43c⟩ := isOf hZ rfl exa_b24_33
      obtain ⟨_, _, ⟨T43, L43, k43, n43⟩, -, X43, ⟨Lc43, hQ43, l43, y43, z43⟩, st43⟩ := X33.virtualBack hx (y := (⟨"com/example/sibyl/sibyl/kernel/ObjectId", "equals", "(Ljava/lang/Object;)Z"⟩ : MethodName)) (z := (⟨"com/example/sibyl/sibyl/kernel/ObjectId", "equals", "(Ljava/lang/Object;)Z"⟩ : MethodName)) hown (mvT hZ (hw _ (List.mem_of_getElem? (i := 29) rfl))) (mvT hZ (hw _ (List.mem_of_getElem? (i := 30) rfl))) (notFace_of_selects (args := #[]) (mvT hZ (hw _ (List.mem_of_getElem? (i := 32) rfl)))) (mvT hZ (hw _ (List.mem_of_getElem? (i := 32) rfl))) (mvT hZ (hw _ (List.mem_of_getElem? (i := 31) rfl))) (by decide) (backOf (W := 0) (rm_5s l Z a0 hw [] b24 T33.heap n0 Z33 ) hZ (hw _ (List.mem_of_getElem? (i := 33) rfl)) (hw _ (List.mem_of_getElem? (i := 20) rfl)) (by decide) (by decide)) q43a q43c (g := (mkF m 245 #[.val (.int p0), .val (.long p1), .second, .val (.long p2), .second, .val (.int p3), .val (.long p4), .second, .val (.long p5), .second, .val (.long v10_9), .second, .val (.int ms0_23), .val (.int ms0_38), .val (.int ms0_53), .val (.int ms0_70), .val (.long ms0_83), .second, .val (.long ms0_105), .second, .val (.ref b20), .val (.ref b24), .val (.ref b28), .val (.ref b32), .val (.int v24_161), .val (.ref b24), .val (.int (1 : Int32))] [(.ref b24), (.ref b24)])) rfl (by rw [hml]; rfl) (Steps.refl _) (argsL := [(.ref b24)]) (rest := []) (lenOf pd_0 rfl) rfl (by show 2 * 0 + _ ≤ _; exact Nat.le_of_eq rfl) (hb hby at_245) (fun _ _ => ⟨rfl, rfl, (by decide : 4 + 0 ≤ _), (by decide : 8 + 0 ≤ _)⟩)
      dsimp only [Pt.U, Pt.locs, Pt.cells, Pt.slots] at X43 l43 y43 z43 st43 hQ43
      subst l43 y43 z43
      obtain ⟨rfl, N43q, e43⟩ := hQ43
      have N43 := Fr.app N33 N43q
      have pre45 : ∀ t, Steps p.tables e below (T43.setTop (mkF m 250 #[.val (.int p0), .val (.long p1), .second, .val (.long p2), .second, .val (.int p3), .val (.long p4), .second, .val (.long p5), .second, .val (.long v10_9), .second, .val (.int ms0_23), .val (.int ms0_38), .val (.int ms0_53), .val (.int ms0_70), .val (.long ms0_83), .second, .val (.long ms0_105), .second, .val (.ref b20), .val (.ref b24), .val (.ref b28), .val (.ref b32), .val (.int v24_161), .val (.ref b24), .val (.int (1 : Int32))] [(.int (1 : Int32)), (.int f_5s)])) t → Steps p.tables e below (s₁.setTop (entryFrame m #[(.int p0), (.long p1), (.long p2), (.int p3), (.long p4), (.long p5)] maxLocals)) t := by
        intro t k
        refine pre44 t ?_
        show Steps p.tables e below (T33.setTop (mkF m 245 #[.val (.int p0), .val (.long p1), .second, .val (.long p2), .second, .val (.int p3), .val (.long p4), .second, .val (.long p5), .second, .val (.long v10_9), .second, .val (.int ms0_23), .val (.int ms0_38), .val (.int ms0_53), .val (.int ms0_70), .val (.long ms0_83), .second, .val (.long ms0_105), .second, .val (.ref b20), .val (.ref b24), .val (.ref b28), .val (.ref b32), .val (.int v24_161), .val (.ref b24), .val (.int (1 : Int32))] [(.ref b24), (.ref b24)])) _
        refine st43.trans ?_
        show Steps p.tables e below (T43.setTop (mkF m 248 #[.val (.int p0), .val (.long p1), .second, .val (.long p2), .second, .val (.int p3), .val (.long p4), .second, .val (.long p5), .second, .val (.long v10_9), .second, .val (.int ms0_23), .val (.int ms0_38), .val (.int ms0_53), .val (.int ms0_70), .val (.long ms0_83), .second, .val (.long ms0_105), .second, .val (.ref b20), .val (.ref b24), .val (.ref b28), .val (.ref b32), .val (.int v24_161), .val (.ref b24), .val (.int (1 : Int32))] [(.int f_5s)])) _
        refine XS.iload X43.here hx rfl (hb hby at_248) rfl  ?_
        exact k
      obtain ⟨ms0_258, hms0_258⟩ : ∃ z : Int32, z = (if f_5s = (1 : Int32) then (1 : Int32) else (0 : Int32)) := ⟨_, rfl⟩
      have pre46 : ∀ t, Steps p.tables e below (T43.setTop (mkF m 258 #[.val (.int p0), .val (.long p1), .second, .val (.long p2), .second, .val (.int p3), .val (.long p4), .second, .val (.long p5), .second, .val (.long v10_9), .second, .val (.int ms0_23), .val (.int ms0_38), .val (.int ms0_53), .val (.int ms0_70), .val (.long ms0_83), .second, .val (.long ms0_105), .second, .val (.ref b20), .val (.ref b24), .val (.ref b28), .val (.ref b32), .val (.int v24_161), .val (.ref b24), .val (.int (1 : Int32))] [(.int ms0_258)])) t → Steps p.tables e below (s₁.setTop (entryFrame m #[(.int p0), (.long p1), (.long p2), (.int p3), (.long p4), (.long p5)] maxLocals)) t := by
        intro t k
        refine pre45 t ?_
        by_cases hc250 : f_5s = (1 : Int32)
        · show Steps p.tables e below (T43.setTop (mkF m 250 #[.val (.int p0), .val (.long p1), .second, .val (.long p2), .second, .val (.int p3), .val (.long p4), .second, .val (.long p5), .second, .val (.long v10_9), .second, .val (.int ms0_23), .val (.int ms0_38), .val (.int ms0_53), .val (.int ms0_70), .val (.long ms0_83), .second, .val (.long ms0_105), .second, .val (.ref b20), .val (.ref b24), .val (.ref b28), .val (.ref b32), .val (.int v24_161), .val (.ref b24), .val (.int (1 : Int32))] [(.int (1 : Int32)), (.int f_5s)])) _
          refine XS.icmpNo X43.here hx rfl (hb hby at_250) rfl (teq hc250).2 ?_
          show Steps p.tables e below (T43.setTop (mkF m 253 #[.val (.int p0), .val (.long p1), .second, .val (.long p2), .second, .val (.int p3), .val (.long p4), .second, .val (.long p5), .second, .val (.long v10_9), .second, .val (.int ms0_23), .val (.int ms0_38), .val (.int ms0_53), .val (.int ms0_70), .val (.long ms0_83), .second, .val (.long ms0_105), .second, .val (.ref b20), .val (.ref b24), .val (.ref b28), .val (.ref b32), .val (.int v24_161), .val (.ref b24), .val (.int (1 : Int32))] [])) _
          refine XS.iconst X43.here hx rfl (hb hby at_253) ?_
          show Steps p.tables e below (T43.setTop (mkF m 254 #[.val (.int p0), .val (.long p1), .second, .val (.long p2), .second, .val (.int p3), .val (.long p4), .second, .val (.long p5), .second, .val (.long v10_9), .second, .val (.int ms0_23), .val (.int ms0_38), .val (.int ms0_53), .val (.int ms0_70), .val (.long ms0_83), .second, .val (.long ms0_105), .second, .val (.ref b20), .val (.ref b24), .val (.ref b28), .val (.ref b32), .val (.int v24_161), .val (.ref b24), .val (.int (1 : Int32))] [(.int (1 : Int32))])) _
          refine XS.goto X43.here hx rfl (pc0 := 254) (pc' := 258) rfl (hb hby at_254) (by decide) (by decide) ?_
          have qms0_258 : ms0_258 = (1 : Int32) := by rw [hms0_258, if_pos hc250]
          rw [qms0_258] at k
          exact k
        · show Steps p.tables e below (T43.setTop (mkF m 250 #[.val (.int p0), .val (.long p1), .second, .val (.long p2), .second, .val (.int p3), .val (.long p4), .second, .val (.long p5), .second, .val (.long v10_9), .second, .val (.int ms0_23), .val (.int ms0_38), .val (.int ms0_53), .val (.int ms0_70), .val (.long ms0_83), .second, .val (.long ms0_105), .second, .val (.ref b20), .val (.ref b24), .val (.ref b28), .val (.ref b32), .val (.int v24_161), .val (.ref b24), .val (.int (1 : Int32))] [(.int (1 : Int32)), (.int f_5s)])) _
          refine XS.icmpYes X43.here hx rfl (pc0 := 250) (pc' := 257) rfl (hb hby at_250) rfl (feq hc250).2 (by decide) (by decide) ?_
          show Steps p.tables e below (T43.setTop (mkF m 257 #[.val (.int p0), .val (.long p1), .second, .val (.long p2), .second, .val (.int p3), .val (.long p4), .second, .val (.long p5), .second, .val (.long v10_9), .second, .val (.int ms0_23), .val (.int ms0_38), .val (.int ms0_53), .val (.int ms0_70), .val (.long ms0_83), .second, .val (.long ms0_105), .second, .val (.ref b20), .val (.ref b24), .val (.ref b28), .val (.ref b32), .val (.int v24_161), .val (.ref b24), .val (.int (1 : Int32))] [])) _
          refine XS.iconst X43.here hx rfl (hb hby at_257) ?_
          have qms0_258 : ms0_258 = (0 : Int32) := by rw [hms0_258, if_neg hc250]
          rw [qms0_258] at k
          exact k
      have hnar : nar .boolean ms0_258 = ms0_258 := by rw [hms0_258]; (repeat' split) <;> rfl
      obtain ⟨fs, hr, hrun, hended, hW, hsame⟩ := X43.leave (v := some (.int ms0_258)) (fun h => by rw [Bd.returns] at h; cases h)
      refine ⟨_, _, pre46 _ ?_, hrun, hended, _, _, rfl, ?_, ⟨_, rfl⟩, hW, hsame.mono (by decide) (by decide)⟩
      · show Steps p.tables e below (T43.setTop (mkF m 258 #[.val (.int p0), .val (.long p1), .second, .val (.long p2), .second, .val (.int p3), .val (.long p4), .second, .val (.long p5), .second, .val (.long v10_9), .second, .val (.int ms0_23), .val (.int ms0_38), .val (.int ms0_53), .val (.int ms0_70), .val (.long ms0_83), .second, .val (.long ms0_105), .second, .val (.ref b20), .val (.ref b24), .val (.ref b28), .val (.ref b32), .val (.int v24_161), .val (.ref b24), .val (.int (1 : Int32))] [(.int ms0_258)])) _
        exact retN X43 hx (t := .boolean) Bd.returns (by simp) (hb hby at_258) (by rw [hnar]; exact hr)
      · show Q_0 Z p0 p1 p2 p3 p4 p5 h0 n0 _ T43.heap _
        rw [e43]
        exact ⟨congrArg (fun z => some (Value.int z)) (by subst hv10_9 hms0_23 hms0_38 hms0_53 hms0_70 hms0_83 hms0_105 hv24_161 hms0_258; exact ((if_neg hc165).trans (if_pos hc206)).symm : ms0_258 = f_0 p0 p1 p2 p3 p4 p5), N43, trivial⟩
    · have pre47 : ∀ t, Steps p.tables e below (T33.setTop (mkF m 222 #[.val (.int p0), .val (.long p1), .second, .val (.long p2), .second, .val (.int p3), .val (.long p4), .second, .val (.long p5), .second, .val (.long v10_9), .second, .val (.int ms0_23), .val (.int ms0_38), .val (.int ms0_53), .val (.int ms0_70), .val (.long ms0_83), .second, .val (.long ms0_105), .second, .val (.ref b20), .val (.ref b24), .val (.ref b28), .val (.ref b32), .val (.int v24_161), .unset, .unset] [(.int (2 : Int32)), (.int v24_161)])) t → Steps p.tables e below (s₁.setTop (entryFrame m #[(.int p0), (.long p1), (.long p2), (.int p3), (.long p4), (.long p5)] maxLocals)) t := by
        intro t k
        refine pre42 t ?_
        show Steps p.tables e below (T33.setTop (mkF m 206 #[.val (.int p0), .val (.long p1), .second, .val (.long p2), .second, .val (.int p3), .val (.long p4), .second, .val (.long p5), .second, .val (.long v10_9), .second, .val (.int ms0_23), .val (.int ms0_38), .val (.int ms0_53), .val (.int ms0_70), .val (.long ms0_83), .second, .val (.long ms0_105), .second, .val (.ref b20), .val (.ref b24), .val (.ref b28), .val (.ref b32), .val (.int v24_161), .unset, .unset] [(.int (1 : Int32)), (.int v24_161)])) _
        refine XS.icmpYes X33.here hx rfl (pc0 := 206) (pc' := 219) rfl (hb hby at_206) rfl (feq hc206).2 (by decide) (by decide) ?_
        show Steps p.tables e below (T33.setTop (mkF m 219 #[.val (.int p0), .val (.long p1), .second, .val (.long p2), .second, .val (.int p3), .val (.long p4), .second, .val (.long p5), .second, .val (.long v10_9), .second, .val (.int ms0_23), .val (.int ms0_38), .val (.int ms0_53), .val (.int ms0_70), .val (.long ms0_83), .second, .val (.long ms0_105), .second, .val (.ref b20), .val (.ref b24), .val (.ref b28), .val (.ref b32), .val (.int v24_161), .unset, .unset] [])) _
        refine XS.iload X33.here hx rfl (hb hby at_219) rfl  ?_
        show Steps p.tables e below (T33.setTop (mkF m 221 #[.val (.int p0), .val (.long p1), .second, .val (.long p2), .second, .val (.int p3), .val (.long p4), .second, .val (.long p5), .second, .val (.long v10_9), .second, .val (.int ms0_23), .val (.int ms0_38), .val (.int ms0_53), .val (.int ms0_70), .val (.long ms0_83), .second, .val (.long ms0_105), .second, .val (.ref b20), .val (.ref b24), .val (.ref b28), .val (.ref b32), .val (.int v24_161), .unset, .unset] [(.int v24_161)])) _
        refine XS.iconst X33.here hx rfl (hb hby at_221) ?_
        exact k
      by_cases hc222 : v24_161 = (2 : Int32)
      · have pre49 : ∀ t, Steps p.tables e below (T33.setTop (mkF m 245 #[.val (.int p0), .val (.long p1), .second, .val (.long p2), .second, .val (.int p3), .val (.long p4), .second, .val (.long p5), .second, .val (.long v10_9), .second, .val (.int ms0_23), .val (.int ms0_38), .val (.int ms0_53), .val (.int ms0_70), .val (.long ms0_83), .second, .val (.long ms0_105), .second, .val (.ref b20), .val (.ref b24), .val (.ref b28), .val (.ref b32), .val (.int v24_161), .val .null, .val (.int (0 : Int32))] [.null, (.ref b24)])) t → Steps p.tables e below (s₁.setTop (entryFrame m #[(.int p0), (.long p1), (.long p2), (.int p3), (.long p4), (.long p5)] maxLocals)) t := by
          intro t k
          refine pre47 t ?_
          show Steps p.tables e below (T33.setTop (mkF m 222 #[.val (.int p0), .val (.long p1), .second, .val (.long p2), .second, .val (.int p3), .val (.long p4), .second, .val (.long p5), .second, .val (.long v10_9), .second, .val (.int ms0_23), .val (.int ms0_38), .val (.int ms0_53), .val (.int ms0_70), .val (.long ms0_83), .second, .val (.long ms0_105), .second, .val (.ref b20), .val (.ref b24), .val (.ref b28), .val (.ref b32), .val (.int v24_161), .unset, .unset] [(.int (2 : Int32)), (.int v24_161)])) _
          refine XS.icmpNo X33.here hx rfl (hb hby at_222) rfl (teq hc222).2 ?_
          show Steps p.tables e below (T33.setTop (mkF m 225 #[.val (.int p0), .val (.long p1), .second, .val (.long p2), .second, .val (.int p3), .val (.long p4), .second, .val (.long p5), .second, .val (.long v10_9), .second, .val (.int ms0_23), .val (.int ms0_38), .val (.int ms0_53), .val (.int ms0_70), .val (.long ms0_83), .second, .val (.long ms0_105), .second, .val (.ref b20), .val (.ref b24), .val (.ref b28), .val (.ref b32), .val (.int v24_161), .unset, .unset] [])) _
          refine XS.aconstNull X33.here hx rfl (hb hby at_225) ?_
          show Steps p.tables e below (T33.setTop (mkF m 226 #[.val (.int p0), .val (.long p1), .second, .val (.long p2), .second, .val (.int p3), .val (.long p4), .second, .val (.long p5), .second, .val (.long v10_9), .second, .val (.int ms0_23), .val (.int ms0_38), .val (.int ms0_53), .val (.int ms0_70), .val (.long ms0_83), .second, .val (.long ms0_105), .second, .val (.ref b20), .val (.ref b24), .val (.ref b28), .val (.ref b32), .val (.int v24_161), .unset, .unset] [.null])) _
          refine XS.astore X33.here hx rfl (hb hby at_226) rfl rfl (l' := #[.val (.int p0), .val (.long p1), .second, .val (.long p2), .second, .val (.int p3), .val (.long p4), .second, .val (.long p5), .second, .val (.long v10_9), .second, .val (.int ms0_23), .val (.int ms0_38), .val (.int ms0_53), .val (.int ms0_70), .val (.long ms0_83), .second, .val (.long ms0_105), .second, .val (.ref b20), .val (.ref b24), .val (.ref b28), .val (.ref b32), .val (.int v24_161), .val .null, .unset]) rfl ?_
          show Steps p.tables e below (T33.setTop (mkF m 228 #[.val (.int p0), .val (.long p1), .second, .val (.long p2), .second, .val (.int p3), .val (.long p4), .second, .val (.long p5), .second, .val (.long v10_9), .second, .val (.int ms0_23), .val (.int ms0_38), .val (.int ms0_53), .val (.int ms0_70), .val (.long ms0_83), .second, .val (.long ms0_105), .second, .val (.ref b20), .val (.ref b24), .val (.ref b28), .val (.ref b32), .val (.int v24_161), .val .null, .unset] [])) _
          refine XS.iconst X33.here hx rfl (hb hby at_228) ?_
          show Steps p.tables e below (T33.setTop (mkF m 229 #[.val (.int p0), .val (.long p1), .second, .val (.long p2), .second, .val (.int p3), .val (.long p4), .second, .val (.long p5), .second, .val (.long v10_9), .second, .val (.int ms0_23), .val (.int ms0_38), .val (.int ms0_53), .val (.int ms0_70), .val (.long ms0_83), .second, .val (.long ms0_105), .second, .val (.ref b20), .val (.ref b24), .val (.ref b28), .val (.ref b32), .val (.int v24_161), .val .null, .unset] [(.int (0 : Int32))])) _
          refine XS.istore X33.here hx rfl (hb hby at_229) rfl (l' := #[.val (.int p0), .val (.long p1), .second, .val (.long p2), .second, .val (.int p3), .val (.long p4), .second, .val (.long p5), .second, .val (.long v10_9), .second, .val (.int ms0_23), .val (.int ms0_38), .val (.int ms0_53), .val (.int ms0_70), .val (.long ms0_83), .second, .val (.long ms0_105), .second, .val (.ref b20), .val (.ref b24), .val (.ref b28), .val (.ref b32), .val (.int v24_161), .val .null, .val (.int (0 : Int32))]) rfl ?_
          show Steps p.tables e below (T33.setTop (mkF m 231 #[.val (.int p0), .val (.long p1), .second, .val (.long p2), .second, .val (.int p3), .val (.long p4), .second, .val (.long p5), .second, .val (.long v10_9), .second, .val (.int ms0_23), .val (.int ms0_38), .val (.int ms0_53), .val (.int ms0_70), .val (.long ms0_83), .second, .val (.long ms0_105), .second, .val (.ref b20), .val (.ref b24), .val (.ref b28), .val (.ref b32), .val (.int v24_161), .val .null, .val (.int (0 : Int32))] [])) _
          refine XS.goto X33.here hx rfl (pc0 := 231) (pc' := 241) rfl (hb hby at_231) (by decide) (by decide) ?_
          show Steps p.tables e below (T33.setTop (mkF m 241 #[.val (.int p0), .val (.long p1), .second, .val (.long p2), .second, .val (.int p3), .val (.long p4), .second, .val (.long p5), .second, .val (.long v10_9), .second, .val (.int ms0_23), .val (.int ms0_38), .val (.int ms0_53), .val (.int ms0_70), .val (.long ms0_83), .second, .val (.long ms0_105), .second, .val (.ref b20), .val (.ref b24), .val (.ref b28), .val (.ref b32), .val (.int v24_161), .val .null, .val (.int (0 : Int32))] [])) _
          refine XS.aload X33.here hx rfl (hb hby at_241) rfl rfl ?_
          show Steps p.tables e below (T33.setTop (mkF m 243 #[.val (.int p0), .val (.long p1), .second, .val (.long p2), .second, .val (.int p3), .val (.long p4), .second, .val (.long p5), .second, .val (.long v10_9), .second, .val (.int ms0_23), .val (.int ms0_38), .val (.int ms0_53), .val (.int ms0_70), .val (.long ms0_83), .second, .val (.long ms0_105), .second, .val (.ref b20), .val (.ref b24), .val (.ref b28), .val (.ref b32), .val (.int v24_161), .val .null, .val (.int (0 : Int32))] [(.ref b24)])) _
          refine XS.aload X33.here hx rfl (hb hby at_243) rfl rfl ?_
          exact k
        obtain ⟨cq48, kq48, q48a, q48b, q48c⟩ := isOf hZ rfl exa_b24_33
        obtain ⟨_, _, ⟨T48, L48, k48, n48⟩, -, X48, ⟨Lc48, hQ48, l48, y48, z48⟩, st48⟩ := X33.virtualBack hx (y := (⟨"com/example/sibyl/sibyl/kernel/ObjectId", "equals", "(Ljava/lang/Object;)Z"⟩ : MethodName)) (z := (⟨"com/example/sibyl/sibyl/kernel/ObjectId", "equals", "(Ljava/lang/Object;)Z"⟩ : MethodName)) hown (mvT hZ (hw _ (List.mem_of_getElem? (i := 29) rfl))) (mvT hZ (hw _ (List.mem_of_getElem? (i := 30) rfl))) (notFace_of_selects (args := #[]) (mvT hZ (hw _ (List.mem_of_getElem? (i := 32) rfl)))) (mvT hZ (hw _ (List.mem_of_getElem? (i := 32) rfl))) (mvT hZ (hw _ (List.mem_of_getElem? (i := 31) rfl))) (by decide) (backOf (W := 0) (rm_5n l Z a0 hw [] b24 T33.heap n0 Z33 ) hZ (hw _ (List.mem_of_getElem? (i := 33) rfl)) (hw _ (List.mem_of_getElem? (i := 20) rfl)) (by decide) (by decide)) q48a q48c (g := (mkF m 245 #[.val (.int p0), .val (.long p1), .second, .val (.long p2), .second, .val (.int p3), .val (.long p4), .second, .val (.long p5), .second, .val (.long v10_9), .second, .val (.int ms0_23), .val (.int ms0_38), .val (.int ms0_53), .val (.int ms0_70), .val (.long ms0_83), .second, .val (.long ms0_105), .second, .val (.ref b20), .val (.ref b24), .val (.ref b28), .val (.ref b32), .val (.int v24_161), .val .null, .val (.int (0 : Int32))] [.null, (.ref b24)])) rfl (by rw [hml]; rfl) (Steps.refl _) (argsL := [.null]) (rest := []) (lenOf pd_0 rfl) rfl (by show 2 * 0 + _ ≤ _; exact Nat.le_of_eq rfl) (hb hby at_245) (fun _ _ => ⟨rfl, rfl, (by decide : 4 + 0 ≤ _), (by decide : 8 + 0 ≤ _)⟩)
        dsimp only [Pt.U, Pt.locs, Pt.cells, Pt.slots] at X48 l48 y48 z48 st48 hQ48
        subst l48 y48 z48
        obtain ⟨rfl, N48q, e48⟩ := hQ48
        have N48 := Fr.app N33 N48q
        have pre50 : ∀ t, Steps p.tables e below (T48.setTop (mkF m 250 #[.val (.int p0), .val (.long p1), .second, .val (.long p2), .second, .val (.int p3), .val (.long p4), .second, .val (.long p5), .second, .val (.long v10_9), .second, .val (.int ms0_23), .val (.int ms0_38), .val (.int ms0_53), .val (.int ms0_70), .val (.long ms0_83), .second, .val (.long ms0_105), .second, .val (.ref b20), .val (.ref b24), .val (.ref b28), .val (.ref b32), .val (.int v24_161), .val .null, .val (.int (0 : Int32))] [(.int (0 : Int32)), (.int f_5n)])) t → Steps p.tables e below (s₁.setTop (entryFrame m #[(.int p0), (.long p1), (.long p2), (.int p3), (.long p4), (.long p5)] maxLocals)) t := by
          intro t k
          refine pre49 t ?_
          show Steps p.tables e below (T33.setTop (mkF m 245 #[.val (.int p0), .val (.long p1), .second, .val (.long p2), .second, .val (.int p3), .val (.long p4), .second, .val (.long p5), .second, .val (.long v10_9), .second, .val (.int ms0_23), .val (.int ms0_38), .val (.int ms0_53), .val (.int ms0_70), .val (.long ms0_83), .second, .val (.long ms0_105), .second, .val (.ref b20), .val (.ref b24), .val (.ref b28), .val (.ref b32), .val (.int v24_161), .val .null, .val (.int (0 : Int32))] [.null, (.ref b24)])) _
          refine st48.trans ?_
          show Steps p.tables e below (T48.setTop (mkF m 248 #[.val (.int p0), .val (.long p1), .second, .val (.long p2), .second, .val (.int p3), .val (.long p4), .second, .val (.long p5), .second, .val (.long v10_9), .second, .val (.int ms0_23), .val (.int ms0_38), .val (.int ms0_53), .val (.int ms0_70), .val (.long ms0_83), .second, .val (.long ms0_105), .second, .val (.ref b20), .val (.ref b24), .val (.ref b28), .val (.ref b32), .val (.int v24_161), .val .null, .val (.int (0 : Int32))] [(.int f_5n)])) _
          refine XS.iload X48.here hx rfl (hb hby at_248) rfl  ?_
          exact k
        obtain ⟨ms0_258, hms0_258⟩ : ∃ z : Int32, z = (if f_5n = (0 : Int32) then (1 : Int32) else (0 : Int32)) := ⟨_, rfl⟩
        have pre51 : ∀ t, Steps p.tables e below (T48.setTop (mkF m 258 #[.val (.int p0), .val (.long p1), .second, .val (.long p2), .second, .val (.int p3), .val (.long p4), .second, .val (.long p5), .second, .val (.long v10_9), .second, .val (.int ms0_23), .val (.int ms0_38), .val (.int ms0_53), .val (.int ms0_70), .val (.long ms0_83), .second, .val (.long ms0_105), .second, .val (.ref b20), .val (.ref b24), .val (.ref b28), .val (.ref b32), .val (.int v24_161), .val .null, .val (.int (0 : Int32))] [(.int ms0_258)])) t → Steps p.tables e below (s₁.setTop (entryFrame m #[(.int p0), (.long p1), (.long p2), (.int p3), (.long p4), (.long p5)] maxLocals)) t := by
          intro t k
          refine pre50 t ?_
          by_cases hc250 : f_5n = (0 : Int32)
          · show Steps p.tables e below (T48.setTop (mkF m 250 #[.val (.int p0), .val (.long p1), .second, .val (.long p2), .second, .val (.int p3), .val (.long p4), .second, .val (.long p5), .second, .val (.long v10_9), .second, .val (.int ms0_23), .val (.int ms0_38), .val (.int ms0_53), .val (.int ms0_70), .val (.long ms0_83), .second, .val (.long ms0_105), .second, .val (.ref b20), .val (.ref b24), .val (.ref b28), .val (.ref b32), .val (.int v24_161), .val .null, .val (.int (0 : Int32))] [(.int (0 : Int32)), (.int f_5n)])) _
            refine XS.icmpNo X48.here hx rfl (hb hby at_250) rfl (teq hc250).2 ?_
            show Steps p.tables e below (T48.setTop (mkF m 253 #[.val (.int p0), .val (.long p1), .second, .val (.long p2), .second, .val (.int p3), .val (.long p4), .second, .val (.long p5), .second, .val (.long v10_9), .second, .val (.int ms0_23), .val (.int ms0_38), .val (.int ms0_53), .val (.int ms0_70), .val (.long ms0_83), .second, .val (.long ms0_105), .second, .val (.ref b20), .val (.ref b24), .val (.ref b28), .val (.ref b32), .val (.int v24_161), .val .null, .val (.int (0 : Int32))] [])) _
            refine XS.iconst X48.here hx rfl (hb hby at_253) ?_
            show Steps p.tables e below (T48.setTop (mkF m 254 #[.val (.int p0), .val (.long p1), .second, .val (.long p2), .second, .val (.int p3), .val (.long p4), .second, .val (.long p5), .second, .val (.long v10_9), .second, .val (.int ms0_23), .val (.int ms0_38), .val (.int ms0_53), .val (.int ms0_70), .val (.long ms0_83), .second, .val (.long ms0_105), .second, .val (.ref b20), .val (.ref b24), .val (.ref b28), .val (.ref b32), .val (.int v24_161), .val .null, .val (.int (0 : Int32))] [(.int (1 : Int32))])) _
            refine XS.goto X48.here hx rfl (pc0 := 254) (pc' := 258) rfl (hb hby at_254) (by decide) (by decide) ?_
            have qms0_258 : ms0_258 = (1 : Int32) := by rw [hms0_258, if_pos hc250]
            rw [qms0_258] at k
            exact k
          · show Steps p.tables e below (T48.setTop (mkF m 250 #[.val (.int p0), .val (.long p1), .second, .val (.long p2), .second, .val (.int p3), .val (.long p4), .second, .val (.long p5), .second, .val (.long v10_9), .second, .val (.int ms0_23), .val (.int ms0_38), .val (.int ms0_53), .val (.int ms0_70), .val (.long ms0_83), .second, .val (.long ms0_105), .second, .val (.ref b20), .val (.ref b24), .val (.ref b28), .val (.ref b32), .val (.int v24_161), .val .null, .val (.int (0 : Int32))] [(.int (0 : Int32)), (.int f_5n)])) _
            refine XS.icmpYes X48.here hx rfl (pc0 := 250) (pc' := 257) rfl (hb hby at_250) rfl (feq hc250).2 (by decide) (by decide) ?_
            show Steps p.tables e below (T48.setTop (mkF m 257 #[.val (.int p0), .val (.long p1), .second, .val (.long p2), .second, .val (.int p3), .val (.long p4), .second, .val (.long p5), .second, .val (.long v10_9), .second, .val (.int ms0_23), .val (.int ms0_38), .val (.int ms0_53), .val (.int ms0_70), .val (.long ms0_83), .second, .val (.long ms0_105), .second, .val (.ref b20), .val (.ref b24), .val (.ref b28), .val (.ref b32), .val (.int v24_161), .val .null, .val (.int (0 : Int32))] [])) _
            refine XS.iconst X48.here hx rfl (hb hby at_257) ?_
            have qms0_258 : ms0_258 = (0 : Int32) := by rw [hms0_258, if_neg hc250]
            rw [qms0_258] at k
            exact k
        have hnar : nar .boolean ms0_258 = ms0_258 := by rw [hms0_258]; (repeat' split) <;> rfl
        obtain ⟨fs, hr, hrun, hended, hW, hsame⟩ := X48.leave (v := some (.int ms0_258)) (fun h => by rw [Bd.returns] at h; cases h)
        refine ⟨_, _, pre51 _ ?_, hrun, hended, _, _, rfl, ?_, ⟨_, rfl⟩, hW, hsame.mono (by decide) (by decide)⟩
        · show Steps p.tables e below (T48.setTop (mkF m 258 #[.val (.int p0), .val (.long p1), .second, .val (.long p2), .second, .val (.int p3), .val (.long p4), .second, .val (.long p5), .second, .val (.long v10_9), .second, .val (.int ms0_23), .val (.int ms0_38), .val (.int ms0_53), .val (.int ms0_70), .val (.long ms0_83), .second, .val (.long ms0_105), .second, .val (.ref b20), .val (.ref b24), .val (.ref b28), .val (.ref b32), .val (.int v24_161), .val .null, .val (.int (0 : Int32))] [(.int ms0_258)])) _
          exact retN X48 hx (t := .boolean) Bd.returns (by simp) (hb hby at_258) (by rw [hnar]; exact hr)
        · show Q_0 Z p0 p1 p2 p3 p4 p5 h0 n0 _ T48.heap _
          rw [e48]
          exact ⟨congrArg (fun z => some (Value.int z)) (by subst hv10_9 hms0_23 hms0_38 hms0_53 hms0_70 hms0_83 hms0_105 hv24_161 hms0_258; exact ((if_neg hc165).trans ((if_neg hc206).trans (if_pos hc222))).symm : ms0_258 = f_0 p0 p1 p2 p3 p4 p5), N48, trivial⟩
      · have pre53 : ∀ t, Steps p.tables e below (T33.setTop (mkF m 245 #[.val (.int p0), .val (.long p1), .second, .val (.long p2), .second, .val (.int p3), .val (.long p4), .second, .val (.long p5), .second, .val (.long v10_9), .second, .val (.int ms0_23), .val (.int ms0_38), .val (.int ms0_53), .val (.int ms0_70), .val (.long ms0_83), .second, .val (.long ms0_105), .second, .val (.ref b20), .val (.ref b24), .val (.ref b28), .val (.ref b32), .val (.int v24_161), .val (.ref b20), .val (.int (0 : Int32))] [(.ref b20), (.ref b24)])) t → Steps p.tables e below (s₁.setTop (entryFrame m #[(.int p0), (.long p1), (.long p2), (.int p3), (.long p4), (.long p5)] maxLocals)) t := by
          intro t k
          refine pre47 t ?_
          show Steps p.tables e below (T33.setTop (mkF m 222 #[.val (.int p0), .val (.long p1), .second, .val (.long p2), .second, .val (.int p3), .val (.long p4), .second, .val (.long p5), .second, .val (.long v10_9), .second, .val (.int ms0_23), .val (.int ms0_38), .val (.int ms0_53), .val (.int ms0_70), .val (.long ms0_83), .second, .val (.long ms0_105), .second, .val (.ref b20), .val (.ref b24), .val (.ref b28), .val (.ref b32), .val (.int v24_161), .unset, .unset] [(.int (2 : Int32)), (.int v24_161)])) _
          refine XS.icmpYes X33.here hx rfl (pc0 := 222) (pc' := 234) rfl (hb hby at_222) rfl (feq hc222).2 (by decide) (by decide) ?_
          show Steps p.tables e below (T33.setTop (mkF m 234 #[.val (.int p0), .val (.long p1), .second, .val (.long p2), .second, .val (.int p3), .val (.long p4), .second, .val (.long p5), .second, .val (.long v10_9), .second, .val (.int ms0_23), .val (.int ms0_38), .val (.int ms0_53), .val (.int ms0_70), .val (.long ms0_83), .second, .val (.long ms0_105), .second, .val (.ref b20), .val (.ref b24), .val (.ref b28), .val (.ref b32), .val (.int v24_161), .unset, .unset] [])) _
          refine XS.aload X33.here hx rfl (hb hby at_234) rfl rfl ?_
          show Steps p.tables e below (T33.setTop (mkF m 236 #[.val (.int p0), .val (.long p1), .second, .val (.long p2), .second, .val (.int p3), .val (.long p4), .second, .val (.long p5), .second, .val (.long v10_9), .second, .val (.int ms0_23), .val (.int ms0_38), .val (.int ms0_53), .val (.int ms0_70), .val (.long ms0_83), .second, .val (.long ms0_105), .second, .val (.ref b20), .val (.ref b24), .val (.ref b28), .val (.ref b32), .val (.int v24_161), .unset, .unset] [(.ref b20)])) _
          refine XS.astore X33.here hx rfl (hb hby at_236) rfl rfl (l' := #[.val (.int p0), .val (.long p1), .second, .val (.long p2), .second, .val (.int p3), .val (.long p4), .second, .val (.long p5), .second, .val (.long v10_9), .second, .val (.int ms0_23), .val (.int ms0_38), .val (.int ms0_53), .val (.int ms0_70), .val (.long ms0_83), .second, .val (.long ms0_105), .second, .val (.ref b20), .val (.ref b24), .val (.ref b28), .val (.ref b32), .val (.int v24_161), .val (.ref b20), .unset]) rfl ?_
          show Steps p.tables e below (T33.setTop (mkF m 238 #[.val (.int p0), .val (.long p1), .second, .val (.long p2), .second, .val (.int p3), .val (.long p4), .second, .val (.long p5), .second, .val (.long v10_9), .second, .val (.int ms0_23), .val (.int ms0_38), .val (.int ms0_53), .val (.int ms0_70), .val (.long ms0_83), .second, .val (.long ms0_105), .second, .val (.ref b20), .val (.ref b24), .val (.ref b28), .val (.ref b32), .val (.int v24_161), .val (.ref b20), .unset] [])) _
          refine XS.iconst X33.here hx rfl (hb hby at_238) ?_
          show Steps p.tables e below (T33.setTop (mkF m 239 #[.val (.int p0), .val (.long p1), .second, .val (.long p2), .second, .val (.int p3), .val (.long p4), .second, .val (.long p5), .second, .val (.long v10_9), .second, .val (.int ms0_23), .val (.int ms0_38), .val (.int ms0_53), .val (.int ms0_70), .val (.long ms0_83), .second, .val (.long ms0_105), .second, .val (.ref b20), .val (.ref b24), .val (.ref b28), .val (.ref b32), .val (.int v24_161), .val (.ref b20), .unset] [(.int (0 : Int32))])) _
          refine XS.istore X33.here hx rfl (hb hby at_239) rfl (l' := #[.val (.int p0), .val (.long p1), .second, .val (.long p2), .second, .val (.int p3), .val (.long p4), .second, .val (.long p5), .second, .val (.long v10_9), .second, .val (.int ms0_23), .val (.int ms0_38), .val (.int ms0_53), .val (.int ms0_70), .val (.long ms0_83), .second, .val (.long ms0_105), .second, .val (.ref b20), .val (.ref b24), .val (.ref b28), .val (.ref b32), .val (.int v24_161), .val (.ref b20), .val (.int (0 : Int32))]) rfl ?_
          show Steps p.tables e below (T33.setTop (mkF m 241 #[.val (.int p0), .val (.long p1), .second, .val (.long p2), .second, .val (.int p3), .val (.long p4), .second, .val (.long p5), .second, .val (.long v10_9), .second, .val (.int ms0_23), .val (.int ms0_38), .val (.int ms0_53), .val (.int ms0_70), .val (.long ms0_83), .second, .val (.long ms0_105), .second, .val (.ref b20), .val (.ref b24), .val (.ref b28), .val (.ref b32), .val (.int v24_161), .val (.ref b20), .val (.int (0 : Int32))] [])) _
          refine XS.aload X33.here hx rfl (hb hby at_241) rfl rfl ?_
          show Steps p.tables e below (T33.setTop (mkF m 243 #[.val (.int p0), .val (.long p1), .second, .val (.long p2), .second, .val (.int p3), .val (.long p4), .second, .val (.long p5), .second, .val (.long v10_9), .second, .val (.int ms0_23), .val (.int ms0_38), .val (.int ms0_53), .val (.int ms0_70), .val (.long ms0_83), .second, .val (.long ms0_105), .second, .val (.ref b20), .val (.ref b24), .val (.ref b28), .val (.ref b32), .val (.int v24_161), .val (.ref b20), .val (.int (0 : Int32))] [(.ref b24)])) _
          refine XS.aload X33.here hx rfl (hb hby at_243) rfl rfl ?_
          exact k
        obtain ⟨cq52, kq52, q52a, q52b, q52c⟩ := isOf hZ rfl exa_b24_33
        obtain ⟨_, _, ⟨T52, L52, k52, n52⟩, -, X52, ⟨Lc52, hQ52, l52, y52, z52⟩, st52⟩ := X33.virtualBack hx (y := (⟨"com/example/sibyl/sibyl/kernel/ObjectId", "equals", "(Ljava/lang/Object;)Z"⟩ : MethodName)) (z := (⟨"com/example/sibyl/sibyl/kernel/ObjectId", "equals", "(Ljava/lang/Object;)Z"⟩ : MethodName)) hown (mvT hZ (hw _ (List.mem_of_getElem? (i := 29) rfl))) (mvT hZ (hw _ (List.mem_of_getElem? (i := 30) rfl))) (notFace_of_selects (args := #[]) (mvT hZ (hw _ (List.mem_of_getElem? (i := 32) rfl)))) (mvT hZ (hw _ (List.mem_of_getElem? (i := 32) rfl))) (mvT hZ (hw _ (List.mem_of_getElem? (i := 31) rfl))) (by decide) (backOf (W := 0) (rm_5l l Z a0 hw [] b24 b20 T33.heap n0 Z33 ne_b20_b24.symm exa_b20_33) hZ (hw _ (List.mem_of_getElem? (i := 33) rfl)) (hw _ (List.mem_of_getElem? (i := 20) rfl)) (by decide) (by decide)) q52a q52c (g := (mkF m 245 #[.val (.int p0), .val (.long p1), .second, .val (.long p2), .second, .val (.int p3), .val (.long p4), .second, .val (.long p5), .second, .val (.long v10_9), .second, .val (.int ms0_23), .val (.int ms0_38), .val (.int ms0_53), .val (.int ms0_70), .val (.long ms0_83), .second, .val (.long ms0_105), .second, .val (.ref b20), .val (.ref b24), .val (.ref b28), .val (.ref b32), .val (.int v24_161), .val (.ref b20), .val (.int (0 : Int32))] [(.ref b20), (.ref b24)])) rfl (by rw [hml]; rfl) (Steps.refl _) (argsL := [(.ref b20)]) (rest := []) (lenOf pd_0 rfl) rfl (by show 2 * 0 + _ ≤ _; exact Nat.le_of_eq rfl) (hb hby at_245) (fun _ _ => ⟨rfl, rfl, (by decide : 4 + 0 ≤ _), (by decide : 8 + 0 ≤ _)⟩)
        dsimp only [Pt.U, Pt.locs, Pt.cells, Pt.slots] at X52 l52 y52 z52 st52 hQ52
        subst l52 y52 z52
        obtain ⟨rfl, N52q, e52⟩ := hQ52
        have N52 := Fr.app N33 N52q
        have pre54 : ∀ t, Steps p.tables e below (T52.setTop (mkF m 250 #[.val (.int p0), .val (.long p1), .second, .val (.long p2), .second, .val (.int p3), .val (.long p4), .second, .val (.long p5), .second, .val (.long v10_9), .second, .val (.int ms0_23), .val (.int ms0_38), .val (.int ms0_53), .val (.int ms0_70), .val (.long ms0_83), .second, .val (.long ms0_105), .second, .val (.ref b20), .val (.ref b24), .val (.ref b28), .val (.ref b32), .val (.int v24_161), .val (.ref b20), .val (.int (0 : Int32))] [(.int (0 : Int32)), (.int f_5l)])) t → Steps p.tables e below (s₁.setTop (entryFrame m #[(.int p0), (.long p1), (.long p2), (.int p3), (.long p4), (.long p5)] maxLocals)) t := by
          intro t k
          refine pre53 t ?_
          show Steps p.tables e below (T33.setTop (mkF m 245 #[.val (.int p0), .val (.long p1), .second, .val (.long p2), .second, .val (.int p3), .val (.long p4), .second, .val (.long p5), .second, .val (.long v10_9), .second, .val (.int ms0_23), .val (.int ms0_38), .val (.int ms0_53), .val (.int ms0_70), .val (.long ms0_83), .second, .val (.long ms0_105), .second, .val (.ref b20), .val (.ref b24), .val (.ref b28), .val (.ref b32), .val (.int v24_161), .val (.ref b20), .val (.int (0 : Int32))] [(.ref b20), (.ref b24)])) _
          refine st52.trans ?_
          show Steps p.tables e below (T52.setTop (mkF m 248 #[.val (.int p0), .val (.long p1), .second, .val (.long p2), .second, .val (.int p3), .val (.long p4), .second, .val (.long p5), .second, .val (.long v10_9), .second, .val (.int ms0_23), .val (.int ms0_38), .val (.int ms0_53), .val (.int ms0_70), .val (.long ms0_83), .second, .val (.long ms0_105), .second, .val (.ref b20), .val (.ref b24), .val (.ref b28), .val (.ref b32), .val (.int v24_161), .val (.ref b20), .val (.int (0 : Int32))] [(.int f_5l)])) _
          refine XS.iload X52.here hx rfl (hb hby at_248) rfl  ?_
          exact k
        obtain ⟨ms0_258, hms0_258⟩ : ∃ z : Int32, z = (if f_5l = (0 : Int32) then (1 : Int32) else (0 : Int32)) := ⟨_, rfl⟩
        have pre55 : ∀ t, Steps p.tables e below (T52.setTop (mkF m 258 #[.val (.int p0), .val (.long p1), .second, .val (.long p2), .second, .val (.int p3), .val (.long p4), .second, .val (.long p5), .second, .val (.long v10_9), .second, .val (.int ms0_23), .val (.int ms0_38), .val (.int ms0_53), .val (.int ms0_70), .val (.long ms0_83), .second, .val (.long ms0_105), .second, .val (.ref b20), .val (.ref b24), .val (.ref b28), .val (.ref b32), .val (.int v24_161), .val (.ref b20), .val (.int (0 : Int32))] [(.int ms0_258)])) t → Steps p.tables e below (s₁.setTop (entryFrame m #[(.int p0), (.long p1), (.long p2), (.int p3), (.long p4), (.long p5)] maxLocals)) t := by
          intro t k
          refine pre54 t ?_
          by_cases hc250 : f_5l = (0 : Int32)
          · show Steps p.tables e below (T52.setTop (mkF m 250 #[.val (.int p0), .val (.long p1), .second, .val (.long p2), .second, .val (.int p3), .val (.long p4), .second, .val (.long p5), .second, .val (.long v10_9), .second, .val (.int ms0_23), .val (.int ms0_38), .val (.int ms0_53), .val (.int ms0_70), .val (.long ms0_83), .second, .val (.long ms0_105), .second, .val (.ref b20), .val (.ref b24), .val (.ref b28), .val (.ref b32), .val (.int v24_161), .val (.ref b20), .val (.int (0 : Int32))] [(.int (0 : Int32)), (.int f_5l)])) _
            refine XS.icmpNo X52.here hx rfl (hb hby at_250) rfl (teq hc250).2 ?_
            show Steps p.tables e below (T52.setTop (mkF m 253 #[.val (.int p0), .val (.long p1), .second, .val (.long p2), .second, .val (.int p3), .val (.long p4), .second, .val (.long p5), .second, .val (.long v10_9), .second, .val (.int ms0_23), .val (.int ms0_38), .val (.int ms0_53), .val (.int ms0_70), .val (.long ms0_83), .second, .val (.long ms0_105), .second, .val (.ref b20), .val (.ref b24), .val (.ref b28), .val (.ref b32), .val (.int v24_161), .val (.ref b20), .val (.int (0 : Int32))] [])) _
            refine XS.iconst X52.here hx rfl (hb hby at_253) ?_
            show Steps p.tables e below (T52.setTop (mkF m 254 #[.val (.int p0), .val (.long p1), .second, .val (.long p2), .second, .val (.int p3), .val (.long p4), .second, .val (.long p5), .second, .val (.long v10_9), .second, .val (.int ms0_23), .val (.int ms0_38), .val (.int ms0_53), .val (.int ms0_70), .val (.long ms0_83), .second, .val (.long ms0_105), .second, .val (.ref b20), .val (.ref b24), .val (.ref b28), .val (.ref b32), .val (.int v24_161), .val (.ref b20), .val (.int (0 : Int32))] [(.int (1 : Int32))])) _
            refine XS.goto X52.here hx rfl (pc0 := 254) (pc' := 258) rfl (hb hby at_254) (by decide) (by decide) ?_
            have qms0_258 : ms0_258 = (1 : Int32) := by rw [hms0_258, if_pos hc250]
            rw [qms0_258] at k
            exact k
          · show Steps p.tables e below (T52.setTop (mkF m 250 #[.val (.int p0), .val (.long p1), .second, .val (.long p2), .second, .val (.int p3), .val (.long p4), .second, .val (.long p5), .second, .val (.long v10_9), .second, .val (.int ms0_23), .val (.int ms0_38), .val (.int ms0_53), .val (.int ms0_70), .val (.long ms0_83), .second, .val (.long ms0_105), .second, .val (.ref b20), .val (.ref b24), .val (.ref b28), .val (.ref b32), .val (.int v24_161), .val (.ref b20), .val (.int (0 : Int32))] [(.int (0 : Int32)), (.int f_5l)])) _
            refine XS.icmpYes X52.here hx rfl (pc0 := 250) (pc' := 257) rfl (hb hby at_250) rfl (feq hc250).2 (by decide) (by decide) ?_
            show Steps p.tables e below (T52.setTop (mkF m 257 #[.val (.int p0), .val (.long p1), .second, .val (.long p2), .second, .val (.int p3), .val (.long p4), .second, .val (.long p5), .second, .val (.long v10_9), .second, .val (.int ms0_23), .val (.int ms0_38), .val (.int ms0_53), .val (.int ms0_70), .val (.long ms0_83), .second, .val (.long ms0_105), .second, .val (.ref b20), .val (.ref b24), .val (.ref b28), .val (.ref b32), .val (.int v24_161), .val (.ref b20), .val (.int (0 : Int32))] [])) _
            refine XS.iconst X52.here hx rfl (hb hby at_257) ?_
            have qms0_258 : ms0_258 = (0 : Int32) := by rw [hms0_258, if_neg hc250]
            rw [qms0_258] at k
            exact k
        have hnar : nar .boolean ms0_258 = ms0_258 := by rw [hms0_258]; (repeat' split) <;> rfl
        obtain ⟨fs, hr, hrun, hended, hW, hsame⟩ := X52.leave (v := some (.int ms0_258)) (fun h => by rw [Bd.returns] at h; cases h)
        refine ⟨_, _, pre55 _ ?_, hrun, hended, _, _, rfl, ?_, ⟨_, rfl⟩, hW, hsame.mono (by decide) (by decide)⟩
        · show Steps p.tables e below (T52.setTop (mkF m 258 #[.val (.int p0), .val (.long p1), .second, .val (.long p2), .second, .val (.int p3), .val (.long p4), .second, .val (.long p5), .second, .val (.long v10_9), .second, .val (.int ms0_23), .val (.int ms0_38), .val (.int ms0_53), .val (.int ms0_70), .val (.long ms0_83), .second, .val (.long ms0_105), .second, .val (.ref b20), .val (.ref b24), .val (.ref b28), .val (.ref b32), .val (.int v24_161), .val (.ref b20), .val (.int (0 : Int32))] [(.int ms0_258)])) _
          exact retN X52 hx (t := .boolean) Bd.returns (by simp) (hb hby at_258) (by rw [hnar]; exact hr)
        · show Q_0 Z p0 p1 p2 p3 p4 p5 h0 n0 _ T52.heap _
          rw [e52]
          exact ⟨congrArg (fun z => some (Value.int z)) (by subst hv10_9 hms0_23 hms0_38 hms0_53 hms0_70 hms0_83 hms0_105 hv24_161 hms0_258; exact ((if_neg hc165).trans ((if_neg hc206).trans (if_neg hc222))).symm : ms0_258 = f_0 p0 p1 p2 p3 p4 p5), N52, trivial⟩
theorem own_o (n n2 : Int64) (l l2 : Int32) (c c2 : Int64) : (if (f_5o n n2 l c l2 c2) = (if l2 = l then (if c2 = c then (if n2 = n then (1 : Int32) else (0 : Int32)) else (0 : Int32)) else (0 : Int32)) then (1 : Int32) else (0 : Int32)) = 1 := by
  simp only [f_5o, f_6o, show (n = n2) = (n2 = n) from propext eq_comm, show (l = l2) = (l2 = l) from propext eq_comm, show (c = c2) = (c2 = c) from propext eq_comm]
  by_cases a : l2 = l <;> by_cases b : c2 = c <;> by_cases d : n2 = n <;> simp [a, b, d]
theorem own_law (p0 : Int32) (p1 p2 : Int64) (p3 : Int32) (p4 p5 : Int64) : f_0 p0 p1 p2 p3 p4 p5 = 1 := by
  simp only [f_0, f_5s, f_5n, f_5l, own_o, if_true]
  repeat' split
  all_goals rfl
set_option maxRecDepth 65536 in
set_option maxHeartbeats 40000000 in
theorem comes_1 {Post : Tables → Env → Array Value → State → Outcome → State → Prop} (hpost : ∀ tb e args s v u, (limb_1_1.after args s (.returned v) u = true ∧ limb_1_2.after args s (.returned v) u = true ∧ True) → FrameEnd s (.returned v) u (Jvm.fieldLocs frame_1_writes args s ++ Jvm.arrayLocs frame_1_arrays args s ++ Jvm.staticLocs frame_1_statics s) 16 128 → Post tb e args s (.returned v) u) :
    ArmFor flags0 classFile x code maxLocals ret World_1 tables_1 room_1 Calls_1 rest_1 Pre_1 Post := by
  intro l hfl _ _ p e ha hc hk s m args below hf hA hF happ hP
  obtain ⟨hcalls, hrest, hpre⟩ := hP
  obtain ⟨-, -, -, hnamed, -, -, -, hat⟩ := (Spec.applies_iff hf).mp happ
  obtain ⟨hg, hn⟩ := and_e (Cond.before_iff.mp (show (Jvm.Cond.and given_1 narrow_1).before args s = true from hpre))
  obtain ⟨g0, gt0⟩ := and_e hg
  obtain ⟨ga0, gt1⟩ := and_e gt0
  obtain ⟨ga1, gt2⟩ := and_e gt1
  obtain ⟨ga2, gt3⟩ := and_e gt2
  obtain ⟨ga3, gt4⟩ := and_e gt3
  obtain ⟨ga4, gt5⟩ := and_e gt4
  obtain ⟨w0, w1, w2, w3, w4, w5, rfl⟩ : ∃ w0 w1 w2 w3 w4 w5 : Value, args = #[w0, w1, w2, w3, w4, w5] := by
    have hs : args.size = 6 := by simpa [Cond.value, given_1] using g0
    obtain ⟨L⟩ := args
    match L, hs with
    | [w0, w1, w2, w3, w4, w5], _ => exact ⟨w0, w1, w2, w3, w4, w5, rfl⟩
  have hw := fun d (hd : d ∈ tables_1) => atoms_spec (ws := Jvm.Cond.code x code maxLocals ret :: tables_1) hat d (List.mem_cons_of_mem _ hd)
  have hfit : Fit s := fun {y c} hc i hi => by
    obtain ⟨ha, rfl⟩ := Array.getElem?_eq_some_iff.mp hc
    have q := List.all_eq_true.mp ((Array.all_eq_true_iff_forall_mem.mp hF) _ (Array.getElem_mem ha)) i (List.mem_range.mpr hi)
    simpa [Array.getElem?_eq_getElem hi] using q
  obtain ⟨i0, ei0⟩ := is_v ga0
  obtain rfl : w0 = (.int i0) := Option.some.inj ei0
  obtain ⟨i1, ei1⟩ := isL_v ga1
  obtain rfl : w1 = (.long i1) := Option.some.inj ei1
  obtain ⟨i2, ei2⟩ := isL_v ga2
  obtain rfl : w2 = (.long i2) := Option.some.inj ei2
  obtain ⟨i3, ei3⟩ := is_v ga3
  obtain rfl : w3 = (.int i3) := Option.some.inj ei3
  obtain ⟨i4, ei4⟩ := isL_v ga4
  obtain rfl : w4 = (.long i4) := Option.some.inj ei4
  obtain ⟨i5, ei5⟩ := isL_v gt5
  obtain rfl : w5 = (.long i5) := Option.some.inj ei5
  obtain ⟨n, o, h1, h2, h3, _, L, rfl, ⟨rfl, N⟩, hq⟩ := rm_0 l s _ hw tables_1 i0 i1 i2 i3 i4 i5  s.heap s.heap.size (Nat.le_refl _)  p e ha hc hk s m _ below hf ((Spec.applies_iff_loose hf).mp happ).1 ⟨rfl, State.Warmed39.refl s, rfl⟩ trivial
  refine ⟨n, _, h1, h2, h3, hpost _ _ _ _ _ _ ⟨Cond.after_iff.mpr rfl, Cond.after_iff.mpr (eq_i res_at (Term.int_eval (1)) (congrArg Value.int (own_law _ _ _ _ _ _))), trivial⟩ ⟨hq.1, hq.2.1, (hq.2.2.sift fun y hy => Or.inr (N.1 y hy)).mono (by decide) (by decide)⟩⟩
theorem main_1_1 : Claimed_1_1 := comes_1 fun _ _ _ _ _ _ h hF => ⟨h.1, hF⟩
theorem main_1_2 : Claimed_1_2 := comes_1 fun _ _ _ _ _ _ h hF => ⟨h.2.1, hF⟩
end Jvm.Pilot.@@N@@
namespace Jvm.Pilot.@@N@@
open Jvm Jvm.ClassFile Sem Op Lib Jvm.Free Jvm.Stand Jvm.Pilot.@@N@@.Jvm.D
/-! MADE BY PROGRAM (witnessworld.py) out of the Statement's table words and the real class files: 11 classes; the members and pool entries that the words name. The judged class is class 1, her method 1. -/
namespace start1
open Jvm.ClassFile
def u (s : String) : CpInfo := .utf8 (stringToUtf16 s)
/-- a pool by its gaps: so many unusable entries, then the entry; so many at the end -/
def gap : Nat → List CpInfo → List CpInfo
  | 0, r => r
  | n + 1, r => .unusable :: gap n r
def poolList (es : List (Nat × CpInfo)) (last : Nat) : List CpInfo := es.foldr (fun e r => gap e.1 (e.2 :: r)) (gap last [])
def pool (es : List (Nat × CpInfo)) (last : Nat) : Array CpInfo := ⟨poolList es last⟩
def fileOf (pool : Array CpInfo) (this : Nat) (attrs : Array Attribute := #[]) (ms : Array MethodInfo := #[]) (fl : Nat := 33) (sup : Nat := 0) (ifs : Array Nat := #[]) (fds : Array FieldInfo := #[]) : ClassFile where
  minorVersion := 0
  majorVersion := 65
  constantPool := pool
  accessFlags := fl
  thisClass := this
  superClass := sup
  interfaces := ifs
  fields := fds
  methods := ms
  attributes := attrs
def plain (name : String) (sup : Option ClassId) : Class where
  name := name
  kind := .ordinary
  loader := none
  accessFlags := 33
  super := sup
  interfaces := #[]
  cf := none
  fields := #[]
  methods := #[]
  instanceTypes := #[]
  staticTypes := #[]
  resolved := #[]
  callSites := []
  init := .initialized
  statics := none
  mirror := none

def pool0 : Array CpInfo := pool [(5, u "<init>"), (0, u "()V"), (1, .class_ 10), (1, u "java/lang/Object")] 113

def k0c0 : Code := { maxStack := 0, maxLocals := 1, code := object_method_1_code, exceptionTable := #[], attributes := #[] }
def k0m0 : Method := { name := "<init>", desc := "()V", sig := { parameters := [], returnType := none }, accessFlags := 1, code := some k0c0 }
/-- java/lang/Object -/
def k0 : Class := { plain "java/lang/Object" none with
  accessFlags := 33
  interfaces := #[]
  cf := some (fileOf pool0 8 #[] #[{ accessFlags := 1, nameIndex := 5, descriptorIndex := 6, attributes := #[] }] 33 0 #[] #[])
  fields := #[]
  methods := #[k0m0]
  instanceTypes := #[]
  staticTypes := #[]
  resolved := Array.replicate 124 none
  statics := none }

def pool1 : Array CpInfo := pool [(2, .class_ 4), (1, u "java/lang/Object"), (0, u "<init>"), (0, u "()V"), (2, .long 9223372036854775807), (1, .methodref 12 13), (0, .class_ 14), (0, .nameAndType 15 16), (0, u "java/lang/Math"), (0, u "max"), (0, u "(JJ)J"), (0, .class_ 18), (0, u "com/example/sibyl/sibyl/kernel/Label"), (0, .methodref 17 20), (0, .nameAndType 5 21), (0, u "(IJ)V"), (0, .class_ 23), (0, u "com/example/sibyl/sibyl/kernel/ObjectId"), (0, .methodref 22 25), (0, .nameAndType 5 26), (0, u "(Lcom/example/sibyl/sibyl/kernel/Label;J)V"), (0, .methodref 22 28), (0, .nameAndType 29 30), (0, u "equals"), (0, u "(Ljava/lang/Object;)Z"), (0, .class_ 32), (0, u "com/example/sibyl/sibyl/kernel/ObjectIdEqualsPinLaw"), (2, u "law"), (0, u "(IJJIJJ)Z")] 3

def k1m0 : Method := { name := "<init>", desc := "()V", sig := { parameters := [], returnType := none }, accessFlags := 1, code := none }
def k1c1 : Code := { maxStack := 6, maxLocals := 27, code := code, exceptionTable := #[], attributes := #[] }
def k1m1 : Method := { name := "law", desc := "(IJJIJJ)Z", sig := { parameters := [.int, .long, .long, .int, .long, .long], returnType := some .boolean }, accessFlags := 9, code := some k1c1 }
/-- com/example/sibyl/sibyl/kernel/ObjectIdEqualsPinLaw -/
def k1 : Class := { plain "com/example/sibyl/sibyl/kernel/ObjectIdEqualsPinLaw" (some 0) with
  accessFlags := 49
  interfaces := #[]
  cf := some (fileOf pool1 31 #[] #[{ accessFlags := 1, nameIndex := 5, descriptorIndex := 6, attributes := #[] }, { accessFlags := 9, nameIndex := 35, descriptorIndex := 36, attributes := #[] }] 49 2 #[] #[])
  fields := #[]
  methods := #[k1m0, k1m1]
  instanceTypes := #[]
  staticTypes := #[]
  resolved := Array.replicate 40 none
  statics := none }

def pool2 : Array CpInfo := pool [(1, .class_ 2), (0, u "java/lang/Math"), (1, .class_ 6), (1, u "java/lang/Object"), (0, u "<init>"), (0, u "()V"), (89, .class_ 100), (1, u "java/lang/Math$RandomNumberGeneratorHolder"), (20, u "(JJ)J"), (50, u "negativeZeroFloatBits"), (0, u "J"), (2, u "negativeZeroDoubleBits"), (21, u "max"), (46, u "$assertionsDisabled"), (0, u "Z"), (91, u "twoToTheDoubleScaleDown"), (0, u "D"), (4, u "twoToTheDoubleScaleUp"), (9, u "E"), (3, u "PI"), (2, u "TAU"), (2, u "DEGREES_TO_RADIANS"), (0, u "RADIANS_TO_DEGREES")] 94

def k2m0 : Method := { name := "<init>", desc := "()V", sig := { parameters := [], returnType := none }, accessFlags := 2, code := none }
def k2c1 : Code := { maxStack := 4, maxLocals := 4, code := jdk_29_method_66_code, exceptionTable := #[], attributes := #[] }
def k2m1 : Method := { name := "max", desc := "(JJ)J", sig := { parameters := [.long, .long], returnType := some .long }, accessFlags := 9, code := some k2c1 }
/-- java/lang/Math -/
def k2 : Class := { plain "java/lang/Math" (some 0) with
  accessFlags := 49
  interfaces := #[]
  cf := some (fileOf pool2 1 #[.nestMembers #[98]] #[{ accessFlags := 2, nameIndex := 7, descriptorIndex := 8, attributes := #[] }, { accessFlags := 9, nameIndex := 198, descriptorIndex := 121, attributes := #[] }] 49 4 #[] #[{ accessFlags := 25, nameIndex := 354, descriptorIndex := 339, attributes := #[] }, { accessFlags := 25, nameIndex := 358, descriptorIndex := 339, attributes := #[] }, { accessFlags := 25, nameIndex := 361, descriptorIndex := 339, attributes := #[] }, { accessFlags := 26, nameIndex := 364, descriptorIndex := 339, attributes := #[] }, { accessFlags := 26, nameIndex := 365, descriptorIndex := 339, attributes := #[] }, { accessFlags := 26, nameIndex := 172, descriptorIndex := 173, attributes := #[] }, { accessFlags := 26, nameIndex := 176, descriptorIndex := 173, attributes := #[] }, { accessFlags := 8, nameIndex := 344, descriptorIndex := 339, attributes := #[] }, { accessFlags := 8, nameIndex := 338, descriptorIndex := 339, attributes := #[] }, { accessFlags := 4120, nameIndex := 245, descriptorIndex := 246, attributes := #[] }])
  fields := #[{ name := "E", type := .double, accessFlags := 25, slot := 0, constantValue := 0 }, { name := "PI", type := .double, accessFlags := 25, slot := 1, constantValue := 0 }, { name := "TAU", type := .double, accessFlags := 25, slot := 2, constantValue := 0 }, { name := "DEGREES_TO_RADIANS", type := .double, accessFlags := 26, slot := 3, constantValue := 0 }, { name := "RADIANS_TO_DEGREES", type := .double, accessFlags := 26, slot := 4, constantValue := 0 }, { name := "negativeZeroFloatBits", type := .long, accessFlags := 26, slot := 5, constantValue := 0 }, { name := "negativeZeroDoubleBits", type := .long, accessFlags := 26, slot := 6, constantValue := 0 }, { name := "twoToTheDoubleScaleUp", type := .double, accessFlags := 8, slot := 7, constantValue := 0 }, { name := "twoToTheDoubleScaleDown", type := .double, accessFlags := 8, slot := 8, constantValue := 0 }, { name := "$assertionsDisabled", type := .boolean, accessFlags := 4120, slot := 9, constantValue := 0 }]
  methods := #[k2m0, k2m1]
  instanceTypes := #[]
  staticTypes := #[.double, .double, .double, .double, .double, .long, .long, .double, .double, .boolean]
  resolved := Array.replicate 460 none
  statics := none }

def pool3 : Array CpInfo := pool [(1, .methodref 2 3), (0, .class_ 4), (0, .nameAndType 5 6), (0, u "java/lang/Object"), (0, u "<init>"), (0, u "()V"), (0, .fieldref 8 9), (0, .class_ 10), (0, .nameAndType 11 12), (0, u "com/example/sibyl/sibyl/kernel/Label"), (0, u "level"), (0, u "I"), (0, .fieldref 8 14), (0, .nameAndType 15 16), (0, u "categories"), (0, u "J"), (14, u "(IJ)V"), (14, u "equals"), (0, u "(Ljava/lang/Object;)Z")] 2

def k3c0 : Code := { maxStack := 3, maxLocals := 4, code := prog_13_method_1_code, exceptionTable := #[], attributes := #[] }
def k3m0 : Method := { name := "<init>", desc := "(IJ)V", sig := { parameters := [.int, .long], returnType := none }, accessFlags := 0, code := some k3c0 }
def k3c1 : Code := { maxStack := 4, maxLocals := 3, code := prog_13_method_7_code, exceptionTable := #[], attributes := #[] }
def k3m1 : Method := { name := "equals", desc := "(Ljava/lang/Object;)Z", sig := { parameters := [(.object "java/lang/Object")], returnType := some .boolean }, accessFlags := 1, code := some k3c1 }
/-- com/example/sibyl/sibyl/kernel/Label -/
def k3 : Class := { plain "com/example/sibyl/sibyl/kernel/Label" (some 0) with
  accessFlags := 49
  interfaces := #[]
  cf := some (fileOf pool3 8 #[] #[{ accessFlags := 0, nameIndex := 5, descriptorIndex := 31, attributes := #[] }, { accessFlags := 1, nameIndex := 46, descriptorIndex := 47, attributes := #[] }] 49 2 #[] #[{ accessFlags := 18, nameIndex := 11, descriptorIndex := 12, attributes := #[] }, { accessFlags := 18, nameIndex := 15, descriptorIndex := 16, attributes := #[] }])
  fields := #[{ name := "level", type := .int, accessFlags := 18, slot := 0, constantValue := 0 }, { name := "categories", type := .long, accessFlags := 18, slot := 1, constantValue := 0 }]
  methods := #[k3m0, k3m1]
  instanceTypes := #[.int, .long]
  staticTypes := #[]
  resolved := Array.replicate 50 none
  statics := none }

def pool4 : Array CpInfo := pool [(1, .methodref 2 3), (0, .class_ 4), (0, .nameAndType 5 6), (0, u "java/lang/Object"), (0, u "<init>"), (0, u "()V"), (9, .fieldref 17 18), (0, .class_ 19), (0, .nameAndType 20 21), (0, u "com/example/sibyl/sibyl/kernel/ObjectId"), (0, u "creator"), (0, u "Lcom/example/sibyl/sibyl/kernel/Label;"), (0, .fieldref 17 23), (0, .nameAndType 24 25), (0, u "count"), (0, u "J"), (43, u "(Lcom/example/sibyl/sibyl/kernel/Label;J)V"), (9, .methodref 80 81), (0, .class_ 82), (0, .nameAndType 83 84), (0, u "com/example/sibyl/sibyl/kernel/Label"), (0, u "equals"), (0, u "(Ljava/lang/Object;)Z")] 37

def k4c0 : Code := { maxStack := 4, maxLocals := 4, code := prog_18_method_1_code, exceptionTable := #[], attributes := #[] }
def k4m0 : Method := { name := "<init>", desc := "(Lcom/example/sibyl/sibyl/kernel/Label;J)V", sig := { parameters := [(.object "com/example/sibyl/sibyl/kernel/Label"), .long], returnType := none }, accessFlags := 1, code := some k4c0 }
def k4c1 : Code := { maxStack := 4, maxLocals := 3, code := prog_18_method_6_code, exceptionTable := #[], attributes := #[] }
def k4m1 : Method := { name := "equals", desc := "(Ljava/lang/Object;)Z", sig := { parameters := [(.object "java/lang/Object")], returnType := some .boolean }, accessFlags := 1, code := some k4c1 }
/-- com/example/sibyl/sibyl/kernel/ObjectId -/
def k4 : Class := { plain "com/example/sibyl/sibyl/kernel/ObjectId" (some 0) with
  accessFlags := 49
  interfaces := #[]
  cf := some (fileOf pool4 17 #[] #[{ accessFlags := 1, nameIndex := 5, descriptorIndex := 69, attributes := #[] }, { accessFlags := 1, nameIndex := 83, descriptorIndex := 84, attributes := #[] }] 49 2 #[] #[{ accessFlags := 18, nameIndex := 20, descriptorIndex := 21, attributes := #[] }, { accessFlags := 18, nameIndex := 24, descriptorIndex := 25, attributes := #[] }])
  fields := #[{ name := "creator", type := (.object "com/example/sibyl/sibyl/kernel/Label"), accessFlags := 18, slot := 0, constantValue := 0 }, { name := "count", type := .long, accessFlags := 18, slot := 1, constantValue := 0 }]
  methods := #[k4m0, k4m1]
  instanceTypes := #[(.object "com/example/sibyl/sibyl/kernel/Label"), .long]
  staticTypes := #[]
  resolved := Array.replicate 122 none
  statics := none }

def pool5 : Array CpInfo := pool [(1, u "java/lang/Cloneable"), (0, .class_ 1), (0, u "java/lang/Object"), (0, .class_ 3)] 3

/-- java/lang/Cloneable -/
def k5 : Class := { plain "java/lang/Cloneable" (some 0) with
  accessFlags := 1537
  interfaces := #[]
  cf := some (fileOf pool5 2 #[] #[] 1537 4 #[] #[])
  fields := #[]
  methods := #[]
  instanceTypes := #[]
  staticTypes := #[]
  resolved := Array.replicate 8 none
  statics := none }

def pool6 : Array CpInfo := pool [(1, u "java/io/Serializable"), (0, .class_ 1), (0, u "java/lang/Object"), (0, .class_ 3)] 3

/-- java/io/Serializable -/
def k6 : Class := { plain "java/io/Serializable" (some 0) with
  accessFlags := 1537
  interfaces := #[]
  cf := some (fileOf pool6 2 #[] #[] 1537 4 #[] #[])
  fields := #[]
  methods := #[]
  instanceTypes := #[]
  staticTypes := #[]
  resolved := Array.replicate 8 none
  statics := none }

/-- the primitive byte -/
def k7 : Class := { plain "byte" none with kind := .primitive 'B', accessFlags := 0x411 }
/-- [B -/
def k8 : Class := { plain "[B" (some 0) with kind := .array 7 .byte, interfaces := #[5, 6], accessFlags := 1041 }

/-- the primitive int -/
def k9 : Class := { plain "int" none with kind := .primitive 'I', accessFlags := 0x411 }
/-- [I -/
def k10 : Class := { plain "[I" (some 0) with kind := .array 9 .int, interfaces := #[5, 6], accessFlags := 1041 }

def heap : Heap := #[]
def classes : Array Class := #[k0, k1, k2, k3, k4, k5, k6, k7, k8, k9, k10]
def interned : List (Array UInt16 × Addr) := []
def slotsUsed : Nat := 0
def theMethod : MethodId := ⟨1, 1⟩
def args0 : Array Value := #[.int 5, .long 7, .long 9, .int 3, .long 2, .long 4]
def aboutOver (below : List Frame) : State where
  vm := { classes := classes, interned := interned.toArray }
  heap := heap
  slotsUsed := slotsUsed
  threads := #[{ frames := .invoking theMethod args0 :: below }]
def below0 : List Frame := [.native { method := ⟨0, 0⟩, args := #[] }]
def about1 : State := aboutOver below0
def p0 : Program := .bare "" "" ""
def e0 : Env := launch0.env 0 0 0
theorem w_frames : about1.frames = Frame.invoking theMethod args0 :: below0 := rfl
set_option maxRecDepth 65536 in
theorem w_args : argsFit about1.vm theMethod args0 = true := by decide +kernel
set_option maxRecDepth 65536 in
theorem w_heap : heapFits about1 = true := by decide +kernel
set_option maxRecDepth 65536 in
theorem w_runnable : about1.curStatus? = some .runnable := by decide +kernel
set_option maxRecDepth 65536 in
theorem w_alone : about1.alone = true := by decide +kernel
set_option maxRecDepth 65536 in
theorem w_named : about1.methodNamed? x = some theMethod := by decide +kernel
set_option maxRecDepth 65536 in
theorem w_hears : about1.hears theMethod below0 = true := by decide +kernel
set_option maxRecDepth 65536 in
theorem w_ripe : about1.ripe theMethod args0 below0 = true := by decide +kernel
theorem w_running : about1.status = .running := rfl
set_option maxRecDepth 65536 in
theorem w_room : about1.hasRoom e0.platform room_1 = true :=
  launch0.hasRoom_least _ room_1 (by decide +kernel) (by decide +kernel) (by decide +kernel) (by decide +kernel) (by decide +kernel) (by decide +kernel)
theorem allAtoms_all (ts : List Jvm.Cond) (a : Array Jvm.Value) (st : Jvm.State) : (allAtoms ts).before a st = ts.all (fun c => c.before a st) := by
  induction ts with
  | nil => rfl
  | cons c t ih =>
    show (Jvm.Cond.and c (allAtoms t)).before a st = _
    rw [Jvm.Cond.before_and, ih, List.all_cons]
def words1 : List Jvm.Cond := Jvm.Cond.code x code maxLocals ret :: tables_1
/-- a 'code' word, met by the world's own term for the bytes: nothing is compared byte by byte -/
theorem code_word {y : MethodName} {bytes : ByteArray} {mx : Nat} {rt : Option FieldType} {a : Array Value} {s : State} {m : MethodId} {meth : Method} {c : Code} (h1 : s.methodNamed? y = some m) (h2 : s.vm.method? m = some meth) (h3 : meth.code = some c) (h4 : c.code = bytes)
    (h5 : (c.maxLocals == mx && c.exceptionTable.isEmpty && decide (c.maxStack ≤ mostOperands) && decide (meth.sig.returnType = rt) && !meth.locks && decide (parseMethodDescriptor y.desc = some meth.sig)) = true) : (Jvm.Cond.code y bytes mx rt).before a s = true := by
  simp only [Bool.and_eq_true, beq_iff_eq, Bool.not_eq_true', decide_eq_true_eq] at h5
  obtain ⟨⟨⟨⟨⟨g1, g2⟩, g3⟩, g4⟩, g5⟩, g6⟩ := h5
  simp [Cond.before, Cond.holds, Cond.value, h1, h2, h3, h4, g1, g2, g3, g4, g5, g6]
def isCode : Jvm.Cond → Bool
  | .code _ _ _ _ => true
  | _ => false
theorem all_split {L : List Jvm.Cond} {P : Jvm.Cond → Bool} (h1 : L.all (fun c => isCode c || P c) = true) (h2 : ∀ c ∈ L.filter isCode, P c = true) : L.all P = true := by
  refine List.all_eq_true.mpr fun c hc => ?_
  have h := List.all_eq_true.mp h1 c hc
  rcases Bool.eq_false_or_eq_true (isCode c) with hi | hi
  · exact h2 c (List.mem_filter.mpr ⟨hc, hi⟩)
  · simpa [hi] using h
set_option maxRecDepth 65536 in
theorem w_c0 : (Jvm.Cond.code x code maxLocals ret).before args0 about1 = true := code_word (m := ⟨1, 1⟩) (meth := k1m1) (c := k1c1) (by decide +kernel) rfl rfl rfl (by decide +kernel)
set_option maxRecDepth 65536 in
theorem w_c1 : (Jvm.Cond.code ({ cls := "java/lang/Math", name := "max", desc := "(JJ)J" } : Jvm.MethodName) jdk_29_method_66_code (4 : Nat) (Option.some Jvm.ClassFile.FieldType.long)).before args0 about1 = true := code_word (m := ⟨2, 1⟩) (meth := k2m1) (c := k2c1) (by decide +kernel) rfl rfl rfl (by decide +kernel)
set_option maxRecDepth 65536 in
theorem w_c2 : (Jvm.Cond.code ({ cls := "com/example/sibyl/sibyl/kernel/Label", name := "<init>", desc := "(IJ)V" } : Jvm.MethodName) prog_13_method_1_code (4 : Nat) (Option.none : Option Jvm.ClassFile.FieldType)).before args0 about1 = true := code_word (m := ⟨3, 0⟩) (meth := k3m0) (c := k3c0) (by decide +kernel) rfl rfl rfl (by decide +kernel)
set_option maxRecDepth 65536 in
theorem w_c3 : (Jvm.Cond.code ({ cls := "java/lang/Object", name := "<init>", desc := "()V" } : Jvm.MethodName) object_method_1_code (1 : Nat) (Option.none : Option Jvm.ClassFile.FieldType)).before args0 about1 = true := code_word (m := ⟨0, 0⟩) (meth := k0m0) (c := k0c0) (by decide +kernel) rfl rfl rfl (by decide +kernel)
set_option maxRecDepth 65536 in
theorem w_c4 : (Jvm.Cond.code ({ cls := "com/example/sibyl/sibyl/kernel/ObjectId", name := "<init>", desc := "(Lcom/example/sibyl/sibyl/kernel/Label;J)V" } : Jvm.MethodName) prog_18_method_1_code (4 : Nat) (Option.none : Option Jvm.ClassFile.FieldType)).before args0 about1 = true := code_word (m := ⟨4, 0⟩) (meth := k4m0) (c := k4c0) (by decide +kernel) rfl rfl rfl (by decide +kernel)
set_option maxRecDepth 65536 in
theorem w_c5 : (Jvm.Cond.code ({ cls := "com/example/sibyl/sibyl/kernel/ObjectId", name := "equals", desc := "(Ljava/lang/Object;)Z" } : Jvm.MethodName) prog_18_method_6_code (3 : Nat) (Option.some Jvm.ClassFile.FieldType.boolean)).before args0 about1 = true := code_word (m := ⟨4, 1⟩) (meth := k4m1) (c := k4c1) (by decide +kernel) rfl rfl rfl (by decide +kernel)
set_option maxRecDepth 65536 in
theorem w_c6 : (Jvm.Cond.code ({ cls := "com/example/sibyl/sibyl/kernel/Label", name := "equals", desc := "(Ljava/lang/Object;)Z" } : Jvm.MethodName) prog_13_method_7_code (3 : Nat) (Option.some Jvm.ClassFile.FieldType.boolean)).before args0 about1 = true := code_word (m := ⟨3, 1⟩) (meth := k3m1) (c := k3c1) (by decide +kernel) rfl rfl rfl (by decide +kernel)
def codes1 : List Jvm.Cond := [Jvm.Cond.code x code maxLocals ret, Jvm.Cond.code ({ cls := "java/lang/Math", name := "max", desc := "(JJ)J" } : Jvm.MethodName) jdk_29_method_66_code (4 : Nat) (Option.some Jvm.ClassFile.FieldType.long), Jvm.Cond.code ({ cls := "com/example/sibyl/sibyl/kernel/Label", name := "<init>", desc := "(IJ)V" } : Jvm.MethodName) prog_13_method_1_code (4 : Nat) (Option.none : Option Jvm.ClassFile.FieldType), Jvm.Cond.code ({ cls := "java/lang/Object", name := "<init>", desc := "()V" } : Jvm.MethodName) object_method_1_code (1 : Nat) (Option.none : Option Jvm.ClassFile.FieldType), Jvm.Cond.code ({ cls := "com/example/sibyl/sibyl/kernel/ObjectId", name := "<init>", desc := "(Lcom/example/sibyl/sibyl/kernel/Label;J)V" } : Jvm.MethodName) prog_18_method_1_code (4 : Nat) (Option.none : Option Jvm.ClassFile.FieldType), Jvm.Cond.code ({ cls := "com/example/sibyl/sibyl/kernel/ObjectId", name := "equals", desc := "(Ljava/lang/Object;)Z" } : Jvm.MethodName) prog_18_method_6_code (3 : Nat) (Option.some Jvm.ClassFile.FieldType.boolean), Jvm.Cond.code ({ cls := "com/example/sibyl/sibyl/kernel/Label", name := "equals", desc := "(Ljava/lang/Object;)Z" } : Jvm.MethodName) prog_13_method_7_code (3 : Nat) (Option.some Jvm.ClassFile.FieldType.boolean)]
set_option maxRecDepth 65536 in
theorem codes_eq : words1.filter isCode = codes1 := rfl
theorem w_codes : ∀ c ∈ words1.filter isCode, c.before args0 about1 = true := by
  rw [codes_eq]
  intro c hc
  simp only [codes1, List.mem_cons, List.not_mem_nil, or_false] at hc
  rcases hc with rfl | rfl | rfl | rfl | rfl | rfl | rfl
  · exact w_c0
  · exact w_c1
  · exact w_c2
  · exact w_c3
  · exact w_c4
  · exact w_c5
  · exact w_c6
set_option maxRecDepth 65536 in
theorem w_t1 : (words1.take 24).all (fun c => isCode c || c.before args0 about1) = true := by decide +kernel
set_option maxRecDepth 65536 in
theorem w_t2 : (words1.drop 24).all (fun c => isCode c || c.before args0 about1) = true := by decide +kernel
theorem w_tables : (allAtoms (Jvm.Cond.code x code maxLocals ret :: tables_1)).before args0 about1 = true := by
  rw [allAtoms_all]
  show words1.all (fun c => c.before args0 about1) = true
  refine all_split ?_ w_codes
  rw [← List.take_append_drop 24 words1, List.all_append, w_t1, w_t2]
  rfl
set_option maxRecDepth 65536 in
theorem w_case : (Jvm.Cond.and given_1 narrow_1).before args0 about1 = true := by decide +kernel
theorem w_applies : (headSpec (Jvm.Cond.code x code maxLocals ret :: tables_1) room_1).applies x e0.platform about1 = true :=
  (Spec.applies_iff w_frames).mpr ⟨w_running, w_runnable, w_alone, w_named, w_hears, w_ripe, w_room, w_tables⟩
theorem atStart : AtStart classFile x code maxLocals ret World_1 tables_1 room_1 Calls_1 rest_1 Pre_1 launch0 p0 e0 about1 theMethod args0 below0 :=
  ⟨lists_1, trivial, launch0.admits_env _ _ _, launch0.least_env, fairChoices_fair.cas, fairChoices_fair.clock, w_frames, w_args, w_heap, w_applies, trivial, trivial, w_case⟩
end start1
theorem witness_1 : WitnessClaimed_1 := ⟨start1.p0, start1.e0, start1.about1, start1.theMethod, start1.args0, start1.below0, start1.atStart⟩
end Jvm.Pilot.@@N@@
