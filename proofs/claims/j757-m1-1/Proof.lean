import JvmDerived
import JvmDerived.Pilot.@@N@@Statement
import JvmDerived.Pilot.@@N@@Code
set_option linter.unusedVariables false
set_option linter.unusedSimpArgs false
namespace Jvm.RoadKit
open Sem ClassFile Op Lib Jvm.Stand Jvm.Free Jvm.LawKit
section New
variable {p : Program} {l : Launch} {e : Env} {R : Room} {s : State} {m : MethodId} {args : Array Value} {below : List Frame} {meth : Method} {c : Code} {T : State} {locs : List Loc} {cells slots : Nat}
theorem retI (X : Stand p l e R s m args below meth c T locs cells slots) (hx : p.tables.exec = Jvm.exec) {pc : Nat} {Ls : Array Slot} {z : Int32} {rest : List Value} (hret : meth.sig.returnType = some .int) (hd : decode c.code pc = .ok (.ireturn, 1)) {fs : List Frame}
    (hl : ∀ (f : JFrame) (acts : List Action), f.method = m → f.locked = none → f.entered = [] → (doReturn e (T.setTop f) acts (some (.int z))).1 = T.setFrames fs) : Steps p.tables e below (T.setTop (mkF m pc Ls (.int z :: rest))) (T.setFrames fs) := by
  have hm' : T.vm.method? m = some meth := X.method'
  have hn : narrow .int (.int z) = .int z := rfl
  show Steps p.tables e below (T.setTop { method := m, pc := pc, locals := Ls, stack := _ :: rest, locked := none }) _
  jvm_step X.here [X.here.top, hx, hd, hm', hret, hn]
  first | (intro acts; rw [hl _ acts rfl rfl rfl]) | rw [hl _ _ rfl rfl rfl]
  exact Steps.refl _
theorem own_lremM {g : JFrame} {target : State} (X : Stand p l e R s m args below meth c T locs cells slots) (hx : p.tables.exec = Jvm.exec) (hg : g.method = m) {x y : Int64} {rest : List Value} (hd : decode c.code g.pc = .ok (.lrem, 1)) (hs : g.stack = .long y :: .long x :: rest) (hy : y ≠ 0)
    (hr : Steps p.tables e below (T.setTop { g with pc := g.pc + 1, stack := .long (x % y) :: rest }) target) : Steps p.tables e below (T.setTop g) target := by
  have q : x - x / y * y = x % y := lrem_mod x y
  exact XS.lrem X.here hx hg hd hs hy (by rw [q]; exact hr)
end New
end Jvm.RoadKit
namespace Jvm.RoadKit
open Sem ClassFile Op Lib Jvm.Stand Jvm.Free Jvm.LawKit
section OwnA
variable {p : Program} {l : Launch} {e : Env} {R : Room} {s : State} {m : MethodId} {args : Array Value} {below : List Frame} {meth : Method} {c : Code} {T : State} {locs : List Loc} {cells slots : Nat} {Z : State} {a0 : Array Value} {h h' : Heap} {a b : Addr} {ty : FieldType} {n : Nat} {G : Nat → Value}
def own_upd {α : Type} (g : Nat → α) (k : Nat) (x : α) (i : Nat) : α := if i = k then x else g i
def own_zI (_ : Nat) : Int32 := 0
def own_zJ (_ : Nat) : Int64 := 0
def own_A (Z : State) (h : Heap) (a : Addr) (ty : FieldType) (n : Nat) (G : Nat → Value) : Prop := ∃ c : Cell, Arr Z h a c ty ∧ c.slots.size = n ∧ ∀ i, i < n → c.slots[i]? = some (G i) ∧ fits ty (G i) = true
theorem own_A.lt (F : own_A Z h a ty n G) : a < h.size := by obtain ⟨c, A, -⟩ := F; exact A.lt
theorem own_A.ext (F : own_A Z h a ty n G) (E : Ext h h') : own_A Z h' a ty n G := by obtain ⟨c, A, r⟩ := F; exact ⟨c, A.ext E, r⟩
theorem own_A.other {sl : Nat} {v : Value} (F : own_A Z h b ty n G) (W : Wr h h' a sl v) (q : b ≠ a) : own_A Z h' b ty n G := by obtain ⟨c, A, r⟩ := F; exact ⟨c, A.other W q, r⟩
theorem own_A.keep {ws : List Addr} (F : own_A Z h a ty n G) (K : Keep h h' ws) (q : a ∉ ws) : own_A Z h' a ty n G := by obtain ⟨c, A, r⟩ := F; exact ⟨c, ⟨K.2.1 a c A.1 q, A.2⟩, r⟩
theorem own_A.new {k : ClassId} {z : Int32} (A : Arr Z h a (newA k ty z) ty) (q : z.toNatClampNeg = n) (hG : ∀ i, G i = defaultValue ty) : own_A Z h a ty n G :=
  ⟨_, A, by rw [sz_new, q], fun i hi => ⟨by rw [hG]; rw [← q] at hi; simp [newA, hi], by rw [hG]; cases ty <;> rfl⟩⟩
theorem own_A.set {k : Nat} {v : Value} (F : own_A Z h a ty n G) (W : Wr h h' a k v) (hk : k < n) (hf : fits ty v = true) : own_A Z h' a ty n (own_upd G k v) := by
  obtain ⟨c, A, q, r⟩ := F
  refine ⟨c.setSlot k v, A.same W, by rw [sz_set, q], fun i hi => ?_⟩
  by_cases e : i = k
  · subst e
    exact ⟨by simp [Cell.setSlot, own_upd, q, hk], by simpa [own_upd] using hf⟩
  · have r1 := r i hi
    have r2 : (c.setSlot k v).slots[i]? = c.slots[i]? := Array.getElem?_setIfInBounds_ne (Ne.symm e)
    have r3 : own_upd G k v i = G i := if_neg e
    rw [r2, r3]; exact r1
theorem own_upd_int (g : Nat → Int32) (k : Nat) (x : Int32) : own_upd (fun i => Value.int (g i)) k (.int x) = fun i => Value.int (own_upd g k x i) := by funext i; unfold own_upd; split <;> rfl
theorem own_upd_long (g : Nat → Int64) (k : Nat) (x : Int64) : own_upd (fun i => Value.long (g i)) k (.long x) = fun i => Value.long (own_upd g k x i) := by funext i; unfold own_upd; split <;> rfl
theorem own_inb {c : Cell} {j : Int32} {k : Nat} (q : c.slots.size = n) (hj0 : ¬ j < 0) (hk : j.toNatClampNeg = k) (hkn : k < n) : ¬ (j < 0 ∨ c.slots.size ≤ j.toNatClampNeg) := fun y => y.elim hj0 fun z => by rw [q, hk] at z; exact absurd hkn (Nat.not_lt.mpr z)
theorem own_stI {g0 : Nat → Int32} (X : Stand p l e R s m args below meth c T locs cells slots) (hx : p.tables.exec = Jvm.exec) (hZ : Z.Warmed39 s.vm) (eT : T.heap = h) (F : own_A Z h a .int n (fun i => .int (g0 i))) {j x : Int32} {k : Nat} (hj0 : ¬ j < 0) (hk : j.toNatClampNeg = k) (hkn : k < n) {g : JFrame} (hg : g.method = m) {rest : List Value} (hs : g.stack = .int x :: .int j :: .ref a :: rest) (hd : decode c.code g.pc = .ok (.iastore, 1)) :
    ∃ T' h', Stand p l e R s m args below meth c T' (locs ++ [⟨a, j.toNatClampNeg⟩]) cells slots ∧ T'.heap = h' ∧ Wr h h' a j.toNatClampNeg (.int x) ∧ own_A Z h' a .int n (fun i => .int (own_upd g0 k x i)) ∧ ∀ target, Steps p.tables e below (T'.setTop { g with pc := g.pc + 1, stack := rest }) target → Steps p.tables e below (T.setTop g) target := by
  obtain ⟨cl, A, q, r⟩ := id F
  obtain ⟨T', h', X', e', W, st⟩ := stI X hx hZ eT A (j := j) (x := x) (own_inb q hj0 hk hkn) hg hs hd
  exact ⟨T', h', X', e', W, own_upd_int g0 k x ▸ hk ▸ F.set W (by rw [hk]; exact hkn) rfl, st⟩
theorem own_stJ {g0 : Nat → Int64} (X : Stand p l e R s m args below meth c T locs cells slots) (hx : p.tables.exec = Jvm.exec) (hZ : Z.Warmed39 s.vm) (eT : T.heap = h) (F : own_A Z h a .long n (fun i => .long (g0 i))) {j : Int32} {x : Int64} {k : Nat} (hj0 : ¬ j < 0) (hk : j.toNatClampNeg = k) (hkn : k < n) {g : JFrame} (hg : g.method = m) {rest : List Value} (hs : g.stack = .long x :: .int j :: .ref a :: rest) (hd : decode c.code g.pc = .ok (.lastore, 1)) :
    ∃ T' h', Stand p l e R s m args below meth c T' (locs ++ [⟨a, j.toNatClampNeg⟩]) cells slots ∧ T'.heap = h' ∧ Wr h h' a j.toNatClampNeg (.long x) ∧ own_A Z h' a .long n (fun i => .long (own_upd g0 k x i)) ∧ ∀ target, Steps p.tables e below (T'.setTop { g with pc := g.pc + 1, stack := rest }) target → Steps p.tables e below (T.setTop g) target := by
  obtain ⟨cl, A, q, r⟩ := id F
  obtain ⟨T', h', X', e', W, st⟩ := stJ X hx hZ eT A (j := j) (x := x) (own_inb q hj0 hk hkn) hg hs hd
  exact ⟨T', h', X', e', W, own_upd_long g0 k x ▸ hk ▸ F.set W (by rw [hk]; exact hkn) rfl, st⟩
theorem own_stB {g0 : Nat → Int32} (X : Stand p l e R s m args below meth c T locs cells slots) (hx : p.tables.exec = Jvm.exec) (hZ : Z.Warmed39 s.vm) (eT : T.heap = h) (F : own_A Z h a .byte n (fun i => .int (g0 i))) {j x : Int32} {k : Nat} (hj0 : ¬ j < 0) (hk : j.toNatClampNeg = k) (hkn : k < n) {g : JFrame} (hg : g.method = m) {rest : List Value} (hs : g.stack = .int x :: .int j :: .ref a :: rest) (hd : decode c.code g.pc = .ok (.bastore, 1)) :
    ∃ T' h', Stand p l e R s m args below meth c T' (locs ++ [⟨a, j.toNatClampNeg⟩]) cells slots ∧ T'.heap = h' ∧ Wr h h' a j.toNatClampNeg (.int x.toInt8.toInt32) ∧ own_A Z h' a .byte n (fun i => .int (own_upd g0 k x.toInt8.toInt32 i)) ∧ ∀ target, Steps p.tables e below (T'.setTop { g with pc := g.pc + 1, stack := rest }) target → Steps p.tables e below (T.setTop g) target := by
  obtain ⟨cl, A, q, r⟩ := id F
  obtain ⟨T', h', X', e', W, st⟩ := stB X hx hZ eT A (j := j) (x := x) (own_inb q hj0 hk hkn) hg hs hd
  have hfb : fits .byte (.int (nar .byte x)) = true := fits_nar_byte x
  exact ⟨T', h', X', e', W, own_upd_int g0 k _ ▸ hk ▸ F.set W (by rw [hk]; exact hkn) hfb, st⟩
theorem own_ldI {g0 : Nat → Int32} (X : Stand p l e R s m args below meth c T locs cells slots) (hx : p.tables.exec = Jvm.exec) (hZ : Z.Warmed39 s.vm) (eT : T.heap = h) (F : own_A Z h a .int n (fun i => .int (g0 i))) {j : Int32} {k : Nat} (hj0 : ¬ j < 0) (hk : j.toNatClampNeg = k) (hkn : k < n) {g : JFrame} (hg : g.method = m) {rest : List Value} (hs : g.stack = .int j :: .ref a :: rest) (hd : decode c.code g.pc = .ok (.iaload, 1)) {target : State}
    (hr : Steps p.tables e below (T.setTop { g with pc := g.pc + 1, stack := .int (g0 k) :: rest }) target) : Steps p.tables e below (T.setTop g) target := by
  obtain ⟨cl, A, q, r⟩ := F
  exact X.iaload hx (j := j) (v := .int (g0 k)) (by rw [eT]; exact A.1) (State.isArrayOf_alike hZ.alike A.2.1) A.2.2 (own_inb q hj0 hk hkn) (by rw [hk]; exact (r k hkn).1) hg hs hd _ hr
theorem own_ldJ {g0 : Nat → Int64} (X : Stand p l e R s m args below meth c T locs cells slots) (hx : p.tables.exec = Jvm.exec) (hZ : Z.Warmed39 s.vm) (eT : T.heap = h) (F : own_A Z h a .long n (fun i => .long (g0 i))) {j : Int32} {k : Nat} (hj0 : ¬ j < 0) (hk : j.toNatClampNeg = k) (hkn : k < n) {g : JFrame} (hg : g.method = m) {rest : List Value} (hs : g.stack = .int j :: .ref a :: rest) (hd : decode c.code g.pc = .ok (.laload, 1)) {target : State}
    (hr : Steps p.tables e below (T.setTop { g with pc := g.pc + 1, stack := .long (g0 k) :: rest }) target) : Steps p.tables e below (T.setTop g) target := by
  obtain ⟨cl, A, q, r⟩ := F
  exact X.laload hx (j := j) (v := .long (g0 k)) (by rw [eT]; exact A.1) (State.isArrayOf_alike hZ.alike A.2.1) A.2.2 (own_inb q hj0 hk hkn) (by rw [hk]; exact (r k hkn).1) hg hs hd _ hr
theorem own_ldB {g0 : Nat → Int32} (X : Stand p l e R s m args below meth c T locs cells slots) (hx : p.tables.exec = Jvm.exec) (hZ : Z.Warmed39 s.vm) (eT : T.heap = h) (F : own_A Z h a .byte n (fun i => .int (g0 i))) {j : Int32} {k : Nat} (hj0 : ¬ j < 0) (hk : j.toNatClampNeg = k) (hkn : k < n) {g : JFrame} (hg : g.method = m) {rest : List Value} (hs : g.stack = .int j :: .ref a :: rest) (hd : decode c.code g.pc = .ok (.baload, 1)) {target : State}
    (hr : Steps p.tables e below (T.setTop { g with pc := g.pc + 1, stack := .int (g0 k) :: rest }) target) : Steps p.tables e below (T.setTop g) target := by
  obtain ⟨cl, A, q, r⟩ := F
  exact X.baloadBytes hx (j := j) (v := .int (g0 k)) (by rw [eT]; exact A.1) (State.isArrayOf_alike hZ.alike A.2.1) A.2.2 (own_inb q hj0 hk hkn) (by rw [hk]; exact (r k hkn).1) hg hs hd _ hr
theorem own_ldR {G : Nat → Value} (X : Stand p l e R s m args below meth c T locs cells slots) (hx : p.tables.exec = Jvm.exec) (hZ : Z.Warmed39 s.vm) (eT : T.heap = h) (F : own_A Z h a ty n G) (hty : ty.isReference = true) {j : Int32} {k : Nat} {v : Value} (hv : G k = v) (hj0 : ¬ j < 0) (hk : j.toNatClampNeg = k) (hkn : k < n) {g : JFrame} (hg : g.method = m) {rest : List Value} (hs : g.stack = .int j :: .ref a :: rest) (hd : decode c.code g.pc = .ok (.aaload, 1)) {target : State}
    (hr : Steps p.tables e below (T.setTop { g with pc := g.pc + 1, stack := v :: rest }) target) : Steps p.tables e below (T.setTop g) target := by
  obtain ⟨cl, A, q, r⟩ := F
  exact X.aaload hx (j := j) (v := v) (by rw [eT]; exact A.1) (State.isArrayOf_alike hZ.alike A.2.1) hty A.2.2 (own_inb q hj0 hk hkn) (by rw [hk, ← hv]; exact (r k hkn).1) hg hs hd _ hr
theorem own_len (X : Stand p l e R s m args below meth c T locs cells slots) (hx : p.tables.exec = Jvm.exec) (hZ : Z.Warmed39 s.vm) (eT : T.heap = h) (F : own_A Z h a ty n G) {z : Int32} (hz : n.toInt32 = z) {g : JFrame} (hg : g.method = m) {rest : List Value} (hs : g.stack = .ref a :: rest) (hd : decode c.code g.pc = .ok (.arraylength, 1)) {target : State}
    (hr : Steps p.tables e below (T.setTop { g with pc := g.pc + 1, stack := .int z :: rest }) target) : Steps p.tables e below (T.setTop g) target := by
  obtain ⟨cl, A, q, r⟩ := F
  exact X.arraylength hx (by rw [eT]; exact A.1) (State.isArrayOf_alike hZ.alike A.2.1) hg hs hd _ (by rw [q, hz]; exact hr)
theorem own_newP {aty : ArrayType} (X : Stand p l e R s m args below meth c T locs cells slots) (hx : p.tables.exec = Jvm.exec) (hZ : Z.Warmed39 s.vm) (w : (Cond.arrayClass (newarray.typeOf aty)).before a0 Z = true) (eT : T.heap = h) {g : JFrame} (hg : g.method = m) (hd : decode c.code g.pc = .ok (.newarray aty, 2)) {z : Int32} {rest : List Value} (hs : g.stack = .int z :: rest)
    (hn : ¬ z < 0) (hzn : z.toNatClampNeg = n) {G : Nat → Value} (hG : ∀ i, G i = defaultValue (newarray.typeOf aty)) {cap : Nat} (hcap : n ≤ cap) (hb : cap * 8 ≤ 536870912) (hc : cells + 1 ≤ R.cells) (hl : slots + cap ≤ R.slots) :
    ∃ (T' : State) (h' : Heap) (b : Addr), b = h.size ∧ Stand p l e R s m args below meth c T' locs (cells + 1) (slots + cap) ∧ T'.heap = h' ∧ Ext h h' ∧ own_A Z h' b (newarray.typeOf aty) n G ∧
      ∀ target, Steps p.tables e below (T'.setTop { g with pc := g.pc + 2, stack := .ref b :: rest }) target → Steps p.tables e below (T.setTop g) target := by
  obtain ⟨T', h', cA, X', e', E', A', st⟩ := newP X hx hZ w eT hg hd hs hn (cap := cap) (by rw [hzn]; exact hcap) hb hc hl
  exact ⟨T', h', _, rfl, X', e', E', own_A.new A' hzn hG, st⟩
theorem own_newPE {aty : ArrayType} (X : Stand p l e R s m args below meth c T locs cells slots) (hx : p.tables.exec = Jvm.exec) (hZ : Z.Warmed39 s.vm) (w : (Cond.arrayClass (newarray.typeOf aty)).before a0 Z = true) (eT : T.heap = h) {g : JFrame} (hg : g.method = m) (hd : decode c.code g.pc = .ok (.newarray aty, 2)) {z : Int32} {rest : List Value} (hs : g.stack = .int z :: rest)
    (hn : ¬ z < 0) (hzn : z.toNatClampNeg = n) {G : Nat → Value} (hG : ∀ i, G i = defaultValue (newarray.typeOf aty)) {cap : Nat} (hcap : n ≤ cap) (hb : cap * 8 ≤ 536870912) (hc : cells + 1 ≤ R.cells) (hl : slots + cap ≤ R.slots) {ad : String} (had : "[" ++ (newarray.typeOf aty).toString = ad) :
    ∃ (T' : State) (h' : Heap) (b : Addr), b = h.size ∧ Stand p l e R s m args below meth c T' locs (cells + 1) (slots + cap) ∧ T'.heap = h' ∧ Ext h h' ∧ own_A Z h' b (newarray.typeOf aty) n G ∧ Exa Z h' b ad ∧
      ∀ target, Steps p.tables e below (T'.setTop { g with pc := g.pc + 2, stack := .ref b :: rest }) target → Steps p.tables e below (T.setTop g) target := by
  obtain ⟨T', h', cA, X', e', E', A', B', st⟩ := newPE X hx hZ w eT hg hd hs hn (cap := cap) (by rw [hzn]; exact hcap) hb hc hl had
  exact ⟨T', h', _, rfl, X', e', E', own_A.new A' hzn hG, B', st⟩
theorem own_clone (X : Stand p l e R s m args below meth c T locs cells slots) (hx : p.tables.exec = Jvm.exec) (hZ : Z.Warmed39 s.vm) {own ad : String} {index : Nat} (hown : s.vm.findClass own = some m.cls)
    (w1 : (Cond.methodLink own index ⟨ad, "clone", "()Ljava/lang/Object;"⟩).before a0 Z = true) (w2 : (Cond.sameMethod ad "java/lang/Object" "clone" "()Ljava/lang/Object;").before a0 Z = true) (w3 : (Cond.native ⟨"java/lang/Object", "clone", "()Ljava/lang/Object;"⟩).before a0 Z = true)
    (w4 : (Cond.instanceMethod ⟨"java/lang/Object", "clone", "()Ljava/lang/Object;"⟩).before a0 Z = true) (w5 : (Cond.selects ad ⟨ad, "clone", "()Ljava/lang/Object;"⟩ ⟨"java/lang/Object", "clone", "()Ljava/lang/Object;"⟩).before a0 Z = true) (w6 : (Cond.castable ad "java/lang/Cloneable").before a0 Z = true)
    (eT : T.heap = h) (F : own_A Z h a ty n G) (E : Exa Z h a ad) {g : JFrame} (hg : g.method = m) (hsize : g.locals.size = c.maxLocals) {rest : List Value} (hs : g.stack = .ref a :: rest) (hd : decode c.code g.pc = .ok (.invokevirtual index, 3))
    (hf : 1 ≤ R.frames) {W cap : Nat} (hW : 2 * g.monitorRoom + (rest.map fun v => v.category).sum ≤ W) (hl : W + 14 ≤ R.locals) (hcap : n ≤ cap) (hc : cells + 1 ≤ R.cells) (hsl : slots + cap ≤ R.slots) :
    ∃ (T' : State) (h' : Heap) (b : Addr), b = h.size ∧ Stand p l e R s m args below meth c T' locs (cells + 1) (slots + cap) ∧ T'.heap = h' ∧ Ext h h' ∧ own_A Z h' b ty n G ∧ Exa Z h' b ad ∧
      ∀ target, Steps p.tables e below (T'.setTop { g with pc := g.pc + 3, stack := .ref b :: rest }) target → Steps p.tables e below (T.setTop g) target := by
  obtain ⟨cl, A, q, r⟩ := F
  have FC : FitC Z cl := fitC_of A fun i hi v hv => by
    have r1 := r i (by rw [← q]; exact hi)
    rw [r1.1] at hv; cases hv; exact r1.2
  obtain ⟨T', h', X', e', ex, A', E', st⟩ := cloneA X hx hZ hown w1 w2 w3 w4 w5 w6 eT A E FC hg hsize hs hd hf hW hl (by rw [q]; exact hcap) hc hsl
  exact ⟨T', h', _, rfl, X', e', ex, ⟨cloneOf cl, A', q, r⟩, E', st⟩
theorem own_A.congr {G' : Nat → Value} (F : own_A Z h a ty n G) (q : ∀ i, i < n → G i = G' i) : own_A Z h a ty n G' := by
  obtain ⟨c, A, s, r⟩ := F
  exact ⟨c, A, s, fun i hi => by rw [← q i hi]; exact r i hi⟩
theorem own_A_plain (F : own_A Z h a ty n G) : ∀ c : Cell, h[a]? = some c → c.vm.isStatics = false := fun c hc => by
  obtain ⟨cl, A, -⟩ := F
  cases hc.symm.trans A.1
  exact A.plain
theorem own_E_plain {C : String} (F : Exa Z h a C) : ∀ c : Cell, h[a]? = some c → c.vm.isStatics = false := fun c hc => by
  obtain ⟨cl, k, h1, -, -, h4, -⟩ := F
  cases hc.symm.trans h1
  exact h4
theorem own_sta_keep {C f d : String} {v : Value} {ws : List Addr} (F : Sta Z h C f d v) (K : Keep h h' ws) (q : ∀ x ∈ ws, ∀ c : Cell, h[x]? = some c → c.vm.isStatics = false) : Sta Z h' C f d v := by
  obtain ⟨cf, i, k, f, st, cell, h1, h2, h3, h4, h5, h6, h7⟩ := F
  exact ⟨cf, i, k, f, st, cell, h1, h2, h3, h4, K.2.1 st cell h5 (fun z => by rw [q st z cell h5] at h6; cases h6), h6, h7⟩
end OwnA
end Jvm.RoadKit
namespace Jvm.RoadKit
open Sem ClassFile Op Lib Jvm.Stand Jvm.Free Jvm.LawKit
section OwnStart
variable {Z s : State} {args : Array Value} {t : Term} {a : Addr}
theorem own_eqi {t : Term} {n : Int32} {args : Array Value} {s : State} (h : (Cond.eq t (.int n)).value args s none s [] = some true) : t.eval args s none [] s = some (.int n) := Jvm.Free.NT.SwA.eq_int (Cond.before_iff.mpr h)
theorem own_eqr {t u : Term} {x : Addr} {args : Array Value} {s : State} (hu : u.eval args s none [] s = some (.ref x)) (h : (Cond.eq t u).value args s none s [] = some true) : t.eval args s none [] s = some (.ref x) := by
  simp only [Cond.value, hu] at h
  cases ht : t.eval args s none [] s with
  | none => simp [ht] at h
  | some v => cases v <;> simp_all
def own_HL (args : Array Value) (s : State) (t : Term) : Nat → List Int32 → Prop
  | _, [] => True
  | k, v :: vs => (Term.elem t (.int (Int32.ofNat k))).eval args s none [] s = some (.int v) ∧ own_HL args s t (k + 1) vs
theorem own_HL_at : ∀ (vs : List Int32) (k : Nat), own_HL args s t k vs → ∀ i, i < vs.length → (Term.elem t (.int (Int32.ofNat (k + i)))).eval args s none [] s = some (.int (vs.getD i 0))
  | [], _, _, i, hi => absurd hi (Nat.not_lt_zero i)
  | v :: vs, k, h, i, hi => by
    cases i with
    | zero => exact h.1
    | succ i =>
      have q := own_HL_at vs (k + 1) h.2 i (by simpa using hi)
      rw [show k + (i + 1) = k + 1 + i by omega]
      simpa using q
def own_HV (args : Array Value) (s : State) (t : Term) : Nat → List Value → Prop
  | _, [] => True
  | k, v :: vs => (Term.elem t (.int (Int32.ofNat k))).eval args s none [] s = some v ∧ own_HV args s t (k + 1) vs
theorem own_HV_at : ∀ (vs : List Value) (k : Nat), own_HV args s t k vs → ∀ i, i < vs.length → (Term.elem t (.int (Int32.ofNat (k + i)))).eval args s none [] s = some (vs.getD i .null)
  | [], _, _, i, hi => absurd hi (Nat.not_lt_zero i)
  | v :: vs, k, h, i, hi => by
    cases i with
    | zero => exact h.1
    | succ i =>
      have q := own_HV_at vs (k + 1) h.2 i (by simpa using hi)
      rw [show k + (i + 1) = k + 1 + i by omega]
      simpa using q
theorem own_arr {ty : FieldType} {n : Nat} {z : Int32} (ev : t.eval args s none [] s = some (.ref a)) (hx : (Cond.arrayOf t ty).value args s none s [] = some true) (hl : (Term.length t).eval args s none [] s = some (.int z)) (hz : z.toNatClampNeg = n ∧ ¬ z < 0) : ∃ cl, Arr s s.heap a cl ty ∧ s.arrayAt? a = some cl ∧ cl.slots.size = n ∧ cl.slots.size < 2 ^ 31 := by
  obtain ⟨cl, A⟩ := Arr.start ev hx
  have ha : s.arrayAt? a = some cl := A.fin (Vm.Alike.refl _)
  have hb : cl.slots.size < 2 ^ 31 := by
    by_cases hb : cl.slots.size < 2 ^ 31
    · exact hb
    · have hb' : ¬ cl.slots.size < 2147483648 := hb
      simp [Term.eval, ev, ha, hb'] at hl
  refine ⟨cl, A, ha, ?_, hb⟩
  rw [len_f ev ha hb] at hl
  have e : cl.slots.size.toInt32 = z := by simpa using hl
  have l := len_toInt hb
  rw [e] at l
  have n1 := nat_of hz.2
  omega
theorem own_AG_start {ty : FieldType} {n : Nat} {z : Int32} {G : Nat → Value} (hf : Fit s) (ev : t.eval args s none [] s = some (.ref a)) (hx : (Cond.arrayOf t ty).value args s none s [] = some true) (hl : (Term.length t).eval args s none [] s = some (.int z)) (hz : z.toNatClampNeg = n ∧ ¬ z < 0) (he : ∀ i, i < n → (Term.elem t (.int (Int32.ofNat i))).eval args s none [] s = some (G i)) : own_A s s.heap a ty n G := by
  obtain ⟨cl, A, ha, sz, hb⟩ := own_arr ev hx hl hz
  refine ⟨cl, A, sz, fun i hi => ?_⟩
  have q := elem_in (he i hi) ev rfl A.1
  have hi2 : i < 2 ^ 31 := by omega
  have ej : (Int32.ofNat i).toNatClampNeg = i := by
    have l := len_toInt hi2
    have n0 : ¬ (Int32.ofNat i) < 0 := fun w => q.1 (Or.inl w)
    have n1 := nat_of n0
    have l' : (Int32.ofNat i).toInt = (i : Int) := l
    omega
  obtain ⟨w, w1, w2⟩ := elem_fit hf A q.1
  rw [ej] at q w1
  refine ⟨q.2, ?_⟩
  cases w1.symm.trans q.2
  exact w2
theorem own_A_start {n : Nat} {z : Int32} {vs : List Int32} (hf : Fit s) (ev : t.eval args s none [] s = some (.ref a)) (hx : (Cond.arrayOf t .int).value args s none s [] = some true) (hl : (Term.length t).eval args s none [] s = some (.int z)) (hz : z.toNatClampNeg = n ∧ ¬ z < 0 ∧ vs.length = n) (he : own_HL args s t 0 vs) : own_A s s.heap a .int n (fun i => .int (vs.getD i 0)) :=
  own_AG_start hf ev hx hl ⟨hz.1, hz.2.1⟩ fun i hi => by
    have q := own_HL_at vs 0 he i (by rw [hz.2.2]; exact hi)
    rw [Nat.zero_add] at q
    exact q
theorem own_AR_start {ty : FieldType} {n : Nat} {z : Int32} {vs : List Value} (hf : Fit s) (ev : t.eval args s none [] s = some (.ref a)) (hx : (Cond.arrayOf t ty).value args s none s [] = some true) (hl : (Term.length t).eval args s none [] s = some (.int z)) (hz : z.toNatClampNeg = n ∧ ¬ z < 0 ∧ vs.length = n) (he : own_HV args s t 0 vs) : own_A s s.heap a ty n (fun i => vs.getD i .null) :=
  own_AG_start hf ev hx hl ⟨hz.1, hz.2.1⟩ fun i hi => by
    have q := own_HV_at vs 0 he i (by rw [hz.2.2]; exact hi)
    rw [Nat.zero_add] at q
    exact q
end OwnStart
end Jvm.RoadKit
namespace Jvm.Pilot.@@N@@
open Jvm Jvm.ClassFile Sem Op Lib Jvm.Free Jvm.Stand Jvm.LawKit Jvm.RoadKit Bundle Jvm.Pilot.@@N@@.Jvm.D
def own_X (i : Nat) : Int32 := ([-1, 0, 1, -1, 1, -1, 0, 1, -1, 0, 1, -1, 0, 1, -1, 0, 1, -1, 0, 1, -1, 0, 1, -1, 0, 1] : List Int32).getD i 0
def own_Y (i : Nat) : Int32 := ([-1, -1, -1, 0, 0, 1, 1, 1, -1, -1, -1, 0, 0, 0, 1, 1, 1, -1, -1, -1, 0, 0, 0, 1, 1, 1] : List Int32).getD i 0
def own_Z (i : Nat) : Int32 := ([0, 0, 0, 0, 0, 0, 0, 0, -1, -1, -1, -1, -1, -1, -1, -1, -1, 1, 1, 1, 1, 1, 1, 1, 1, 1] : List Int32).getD i 0
theorem d1_0 : decode prog_9_method_4_code 0 = .ok (.iload_n 0, 1) := by decide +kernel
theorem d1_1 : decode prog_9_method_4_code 1 = .ok (.getstatic 7, 3) := by decide +kernel
theorem d1_4 : decode prog_9_method_4_code 4 = .ok (.iload_n 3, 1) := by decide +kernel
theorem d1_5 : decode prog_9_method_4_code 5 = .ok (.iaload, 1) := by decide +kernel
theorem d1_6 : decode prog_9_method_4_code 6 = .ok (.iadd, 1) := by decide +kernel
theorem d1_7 : decode prog_9_method_4_code 7 = .ok (.istore 7, 2) := by decide +kernel
theorem d1_9 : decode prog_9_method_4_code 9 = .ok (.iload_n 1, 1) := by decide +kernel
theorem d1_10 : decode prog_9_method_4_code 10 = .ok (.getstatic 17, 3) := by decide +kernel
theorem d1_13 : decode prog_9_method_4_code 13 = .ok (.iload_n 3, 1) := by decide +kernel
theorem d1_14 : decode prog_9_method_4_code 14 = .ok (.iaload, 1) := by decide +kernel
theorem d1_15 : decode prog_9_method_4_code 15 = .ok (.iadd, 1) := by decide +kernel
theorem d1_16 : decode prog_9_method_4_code 16 = .ok (.istore 8, 2) := by decide +kernel
theorem d1_18 : decode prog_9_method_4_code 18 = .ok (.iload_n 2, 1) := by decide +kernel
theorem d1_19 : decode prog_9_method_4_code 19 = .ok (.getstatic 20, 3) := by decide +kernel
theorem d1_22 : decode prog_9_method_4_code 22 = .ok (.iload_n 3, 1) := by decide +kernel
theorem d1_23 : decode prog_9_method_4_code 23 = .ok (.iaload, 1) := by decide +kernel
theorem d1_24 : decode prog_9_method_4_code 24 = .ok (.iadd, 1) := by decide +kernel
theorem d1_25 : decode prog_9_method_4_code 25 = .ok (.istore 9, 2) := by decide +kernel
theorem d1_27 : decode prog_9_method_4_code 27 = .ok (.iconst (-1), 1) := by decide +kernel
theorem d1_28 : decode prog_9_method_4_code 28 = .ok (.istore 10, 2) := by decide +kernel
theorem d1_30 : decode prog_9_method_4_code 30 = .ok (.iload 7, 2) := by decide +kernel
theorem d1_32 : decode prog_9_method_4_code 32 = .ok (.ifCond .lt 50, 3) := by decide +kernel
theorem d1_35 : decode prog_9_method_4_code 35 = .ok (.iload 7, 2) := by decide +kernel
theorem d1_37 : decode prog_9_method_4_code 37 = .ok (.iload 4, 2) := by decide +kernel
theorem d1_39 : decode prog_9_method_4_code 39 = .ok (.if_icmp .ge 43, 3) := by decide +kernel
theorem d1_42 : decode prog_9_method_4_code 42 = .ok (.iload 8, 2) := by decide +kernel
theorem d1_44 : decode prog_9_method_4_code 44 = .ok (.ifCond .lt 38, 3) := by decide +kernel
theorem d1_47 : decode prog_9_method_4_code 47 = .ok (.iload 8, 2) := by decide +kernel
theorem d1_49 : decode prog_9_method_4_code 49 = .ok (.iload 5, 2) := by decide +kernel
theorem d1_51 : decode prog_9_method_4_code 51 = .ok (.if_icmp .ge 31, 3) := by decide +kernel
theorem d1_54 : decode prog_9_method_4_code 54 = .ok (.iload 9, 2) := by decide +kernel
theorem d1_56 : decode prog_9_method_4_code 56 = .ok (.ifCond .lt 26, 3) := by decide +kernel
theorem d1_59 : decode prog_9_method_4_code 59 = .ok (.iload 9, 2) := by decide +kernel
theorem d1_61 : decode prog_9_method_4_code 61 = .ok (.iload 6, 2) := by decide +kernel
theorem d1_63 : decode prog_9_method_4_code 63 = .ok (.if_icmp .ge 19, 3) := by decide +kernel
theorem d1_66 : decode prog_9_method_4_code 66 = .ok (.iload 9, 2) := by decide +kernel
theorem d1_68 : decode prog_9_method_4_code 68 = .ok (.iload 5, 2) := by decide +kernel
theorem d1_70 : decode prog_9_method_4_code 70 = .ok (.imul, 1) := by decide +kernel
theorem d1_71 : decode prog_9_method_4_code 71 = .ok (.iload 8, 2) := by decide +kernel
theorem d1_73 : decode prog_9_method_4_code 73 = .ok (.iadd, 1) := by decide +kernel
theorem d1_74 : decode prog_9_method_4_code 74 = .ok (.iload 4, 2) := by decide +kernel
theorem d1_76 : decode prog_9_method_4_code 76 = .ok (.imul, 1) := by decide +kernel
theorem d1_77 : decode prog_9_method_4_code 77 = .ok (.iload 7, 2) := by decide +kernel
theorem d1_79 : decode prog_9_method_4_code 79 = .ok (.iadd, 1) := by decide +kernel
theorem d1_80 : decode prog_9_method_4_code 80 = .ok (.istore 10, 2) := by decide +kernel
theorem d1_82 : decode prog_9_method_4_code 82 = .ok (.iload 10, 2) := by decide +kernel
theorem d1_84 : decode prog_9_method_4_code 84 = .ok (.ireturn, 1) := by decide +kernel
theorem pn_1 : plainName "com/example/punctilio/punctilio/engine/Neighbours" = true := by first | (simp [plainName, overriddenIn]; done) | decide +kernel
theorem ef_1 (m : MethodId) (p0 : Int32) (p1 : Int32) (p2 : Int32) (p3 : Int32) (p4 : Int32) (p5 : Int32) (p6 : Int32) : entryFrame m #[(.int p0), (.int p1), (.int p2), (.int p3), (.int p4), (.int p5), (.int p6)] 11 = mkF m 0 #[.val (.int p0), .val (.int p1), .val (.int p2), .val (.int p3), .val (.int p4), .val (.int p5), .val (.int p6), .unset, .unset, .unset, .unset] [] := by first | (simp [entryFrame, mkF, argsToLocals, Value.category]; done) | rfl
def f_1 (p0 : Int32) (p1 : Int32) (p2 : Int32) (p3 : Int32) (p4 : Int32) (p5 : Int32) (p6 : Int32) (gx : Nat → Int32) (gy : Nat → Int32) (gz : Nat → Int32) : Int32 := let v7_7 : Int32 := (p0 + (gx p3.toNatClampNeg)); let v8_16 : Int32 := (p1 + (gy p3.toNatClampNeg)); let v9_25 : Int32 := (p2 + (gz p3.toNatClampNeg)); let m10_82 : Int32 := (if v7_7 < (0 : Int32) then (-1 : Int32) else (if v7_7 < p4 then (if v8_16 < (0 : Int32) then (-1 : Int32) else (if v8_16 < p5 then (if v9_25 < (0 : Int32) then (-1 : Int32) else (if v9_25 < p6 then ((((v9_25 * p5) + v8_16) * p4) + v7_7) else (-1 : Int32))) else (-1 : Int32))) else (-1 : Int32))); m10_82
def Q_1 (Z : State) (p0 : Int32) (p1 : Int32) (p2 : Int32) (p3 : Int32) (p4 : Int32) (p5 : Int32) (p6 : Int32) (ax : Addr) (gx : Nat → Int32) (ay : Addr) (gy : Nat → Int32) (az : Addr) (gz : Nat → Int32) (h0 : Heap) (n0 : Nat) (v : Option Value) (h : Heap) (L : List Loc) : Prop := v = some (.int (f_1 p0 p1 p2 p3 p4 p5 p6 gx gy gz)) ∧ Fr n0 L ∧ h = h0
set_option maxRecDepth 65536 in
set_option maxHeartbeats 40000000 in
theorem rm_1 (l : Launch) (Z : State) (a0 : Array Value) (hw : ∀ d ∈ tables_1, d.before a0 Z = true) (ws : List Jvm.Cond) (p0 : Int32) (p1 : Int32) (p2 : Int32) (p3 : Int32) (p4 : Int32) (p5 : Int32) (p6 : Int32) (ax : Addr) (gx : Nat → Int32) (ay : Addr) (gy : Nat → Int32) (az : Addr) (gz : Nat → Int32) (h0 : Heap) (n0 : Nat) (Z0 : n0 ≤ h0.size) (S_X : Sta Z h0 "com/example/punctilio/punctilio/engine/Neighbours" "X" "[I" (.ref ax)) (A_ax : own_A Z h0 ax .int 26 (fun i => .int (gx i))) (S_Y : Sta Z h0 "com/example/punctilio/punctilio/engine/Neighbours" "Y" "[I" (.ref ay)) (A_ay : own_A Z h0 ay .int 26 (fun i => .int (gy i))) (S_Z : Sta Z h0 "com/example/punctilio/punctilio/engine/Neighbours" "Z" "[I" (.ref az)) (A_az : own_A Z h0 az .int 26 (fun i => .int (gz i))) (hd : ¬ p3 < 0 ∧ p3.toNatClampNeg < 26) :
    MetFree l (⟨"com/example/punctilio/punctilio/engine/Neighbours", "of", "(IIIIIII)I"⟩ : MethodName) (head1 (Jvm.Cond.code (⟨"com/example/punctilio/punctilio/engine/Neighbours", "of", "(IIIIIII)I"⟩ : MethodName) prog_9_method_4_code 11 (some .int) :: ws) ({ frames := 0, cells := 0, slots := 0, locals := 0 } : Room)) (fun a U => a = #[(.int p0), (.int p1), (.int p2), (.int p3), (.int p4), (.int p5), (.int p6)] ∧ Z.Warmed39 U.vm ∧ U.heap = h0) (fun _ _ _ _ _ => True) (fun _ U o U' => ∃ v L, o = .returned v ∧ Q_1 Z p0 p1 p2 p3 p4 p5 p6 ax gx ay gy az gz h0 n0 v U'.heap L ∧ FrameEnd U o U' L ({ frames := 0, cells := 0, slots := 0, locals := 0 } : Room).cells ({ frames := 0, cells := 0, slots := 0, locals := 0 } : Room).slots) := by
  refine MetFree.of_bodySF (plainFor_of_name pn_1) hisR ?_
  intro p e s m args below meth c s₁ Bd hml0 hP hK
  obtain ⟨rfl, hZ, hh⟩ := hP
  have hx := Bd.exec
  have hby := Bd.bytes
  have hml : c.maxLocals = 11 := hml0
  have hown : s.vm.findClass "com/example/punctilio/punctilio/engine/Neighbours" = some m.cls := findClass_of_methodNamed Bd.named
  have hnm := (name_of_methodNamed Bd.named Bd.method).1
  have X0 : Stand p l e ({ frames := 0, cells := 0, slots := 0, locals := 0 } : Room) s m #[(.int p0), (.int p1), (.int p2), (.int p3), (.int p4), (.int p5), (.int p6)] below meth c s₁ [] 0 0 := Stand.of_body Bd
  have e0 : s₁.heap = h0 := by rw [← hh, Bd.state]; rfl
  have N0 := Fr.nil n0
  have K0 : Keep h0 h0 [] := Keep.refl h0 _
  have pre0 : ∀ t, Steps p.tables e below (s₁.setTop (mkF m 0 #[.val (.int p0), .val (.int p1), .val (.int p2), .val (.int p3), .val (.int p4), .val (.int p5), .val (.int p6), .unset, .unset, .unset, .unset] [])) t → Steps p.tables e below (s₁.setTop (entryFrame m #[(.int p0), (.int p1), (.int p2), (.int p3), (.int p4), (.int p5), (.int p6)] 11)) t := fun t k => castTop (ef_1 m p0 p1 p2 p3 p4 p5 p6) k
  have pre1 : ∀ t, Steps p.tables e below (s₁.setTop (mkF m 1 #[.val (.int p0), .val (.int p1), .val (.int p2), .val (.int p3), .val (.int p4), .val (.int p5), .val (.int p6), .unset, .unset, .unset, .unset] [(.int p0)])) t → Steps p.tables e below (s₁.setTop (entryFrame m #[(.int p0), (.int p1), (.int p2), (.int p3), (.int p4), (.int p5), (.int p6)] 11)) t := by
    intro t k
    refine pre0 t ?_
    show Steps p.tables e below (s₁.setTop (mkF m 0 #[.val (.int p0), .val (.int p1), .val (.int p2), .val (.int p3), .val (.int p4), .val (.int p5), .val (.int p6), .unset, .unset, .unset, .unset] [])) _
    refine XS.iloadN X0.here hx rfl (hb hby d1_0) rfl  ?_
    exact k
  obtain ⟨T2, X2, e2, st2⟩ := getS2 X0 hx hZ hown (host := "") (Or.inl (hw _ (List.mem_of_getElem? (i := 6) rfl))) Via.refl e0 S_X (g := (mkF m 1 #[.val (.int p0), .val (.int p1), .val (.int p2), .val (.int p3), .val (.int p4), .val (.int p5), .val (.int p6), .unset, .unset, .unset, .unset] [(.int p0)])) rfl (hb hby d1_1)
  obtain ⟨v7_7, hv7_7⟩ : ∃ z : Int32, z = (p0 + (gx p3.toNatClampNeg)) := ⟨_, rfl⟩
  have pre3 : ∀ t, Steps p.tables e below (T2.setTop (mkF m 10 #[.val (.int p0), .val (.int p1), .val (.int p2), .val (.int p3), .val (.int p4), .val (.int p5), .val (.int p6), .val (.int v7_7), .unset, .unset, .unset] [(.int p1)])) t → Steps p.tables e below (s₁.setTop (entryFrame m #[(.int p0), (.int p1), (.int p2), (.int p3), (.int p4), (.int p5), (.int p6)] 11)) t := by
    intro t k
    refine pre1 t ?_
    show Steps p.tables e below (s₁.setTop (mkF m 1 #[.val (.int p0), .val (.int p1), .val (.int p2), .val (.int p3), .val (.int p4), .val (.int p5), .val (.int p6), .unset, .unset, .unset, .unset] [(.int p0)])) _
    refine st2 _ ?_
    show Steps p.tables e below (T2.setTop (mkF m 4 #[.val (.int p0), .val (.int p1), .val (.int p2), .val (.int p3), .val (.int p4), .val (.int p5), .val (.int p6), .unset, .unset, .unset, .unset] [(.ref ax), (.int p0)])) _
    refine XS.iloadN X2.here hx rfl (hb hby d1_4) rfl  ?_
    show Steps p.tables e below (T2.setTop (mkF m 5 #[.val (.int p0), .val (.int p1), .val (.int p2), .val (.int p3), .val (.int p4), .val (.int p5), .val (.int p6), .unset, .unset, .unset, .unset] [(.int p3), (.ref ax), (.int p0)])) _
    refine own_ldI X2 hx hZ e2 A_ax (j := p3) (k := p3.toNatClampNeg) hd.1 rfl hd.2 (g := (mkF m 5 #[.val (.int p0), .val (.int p1), .val (.int p2), .val (.int p3), .val (.int p4), .val (.int p5), .val (.int p6), .unset, .unset, .unset, .unset] [(.int p3), (.ref ax), (.int p0)])) rfl rfl (hb hby d1_5) ?_
    show Steps p.tables e below (T2.setTop (mkF m 6 #[.val (.int p0), .val (.int p1), .val (.int p2), .val (.int p3), .val (.int p4), .val (.int p5), .val (.int p6), .unset, .unset, .unset, .unset] [(.int (gx p3.toNatClampNeg)), (.int p0)])) _
    refine XS.iadd X2.here hx rfl (hb hby d1_6) rfl ?_
    show Steps p.tables e below (T2.setTop (mkF m 7 #[.val (.int p0), .val (.int p1), .val (.int p2), .val (.int p3), .val (.int p4), .val (.int p5), .val (.int p6), .unset, .unset, .unset, .unset] [(.int (p0 + (gx p3.toNatClampNeg)))])) _
    refine XS.istore X2.here hx rfl (hb hby d1_7) rfl (l' := #[.val (.int p0), .val (.int p1), .val (.int p2), .val (.int p3), .val (.int p4), .val (.int p5), .val (.int p6), .val (.int v7_7), .unset, .unset, .unset]) (by rw [hv7_7]; rfl) ?_
    show Steps p.tables e below (T2.setTop (mkF m 9 #[.val (.int p0), .val (.int p1), .val (.int p2), .val (.int p3), .val (.int p4), .val (.int p5), .val (.int p6), .val (.int v7_7), .unset, .unset, .unset] [])) _
    refine XS.iloadN X2.here hx rfl (hb hby d1_9) rfl  ?_
    exact k
  obtain ⟨T4, X4, e4, st4⟩ := getS2 X2 hx hZ hown (host := "") (Or.inl (hw _ (List.mem_of_getElem? (i := 8) rfl))) Via.refl e2 S_Y (g := (mkF m 10 #[.val (.int p0), .val (.int p1), .val (.int p2), .val (.int p3), .val (.int p4), .val (.int p5), .val (.int p6), .val (.int v7_7), .unset, .unset, .unset] [(.int p1)])) rfl (hb hby d1_10)
  obtain ⟨v8_16, hv8_16⟩ : ∃ z : Int32, z = (p1 + (gy p3.toNatClampNeg)) := ⟨_, rfl⟩
  have pre5 : ∀ t, Steps p.tables e below (T4.setTop (mkF m 19 #[.val (.int p0), .val (.int p1), .val (.int p2), .val (.int p3), .val (.int p4), .val (.int p5), .val (.int p6), .val (.int v7_7), .val (.int v8_16), .unset, .unset] [(.int p2)])) t → Steps p.tables e below (s₁.setTop (entryFrame m #[(.int p0), (.int p1), (.int p2), (.int p3), (.int p4), (.int p5), (.int p6)] 11)) t := by
    intro t k
    refine pre3 t ?_
    show Steps p.tables e below (T2.setTop (mkF m 10 #[.val (.int p0), .val (.int p1), .val (.int p2), .val (.int p3), .val (.int p4), .val (.int p5), .val (.int p6), .val (.int v7_7), .unset, .unset, .unset] [(.int p1)])) _
    refine st4 _ ?_
    show Steps p.tables e below (T4.setTop (mkF m 13 #[.val (.int p0), .val (.int p1), .val (.int p2), .val (.int p3), .val (.int p4), .val (.int p5), .val (.int p6), .val (.int v7_7), .unset, .unset, .unset] [(.ref ay), (.int p1)])) _
    refine XS.iloadN X4.here hx rfl (hb hby d1_13) rfl  ?_
    show Steps p.tables e below (T4.setTop (mkF m 14 #[.val (.int p0), .val (.int p1), .val (.int p2), .val (.int p3), .val (.int p4), .val (.int p5), .val (.int p6), .val (.int v7_7), .unset, .unset, .unset] [(.int p3), (.ref ay), (.int p1)])) _
    refine own_ldI X4 hx hZ e4 A_ay (j := p3) (k := p3.toNatClampNeg) hd.1 rfl hd.2 (g := (mkF m 14 #[.val (.int p0), .val (.int p1), .val (.int p2), .val (.int p3), .val (.int p4), .val (.int p5), .val (.int p6), .val (.int v7_7), .unset, .unset, .unset] [(.int p3), (.ref ay), (.int p1)])) rfl rfl (hb hby d1_14) ?_
    show Steps p.tables e below (T4.setTop (mkF m 15 #[.val (.int p0), .val (.int p1), .val (.int p2), .val (.int p3), .val (.int p4), .val (.int p5), .val (.int p6), .val (.int v7_7), .unset, .unset, .unset] [(.int (gy p3.toNatClampNeg)), (.int p1)])) _
    refine XS.iadd X4.here hx rfl (hb hby d1_15) rfl ?_
    show Steps p.tables e below (T4.setTop (mkF m 16 #[.val (.int p0), .val (.int p1), .val (.int p2), .val (.int p3), .val (.int p4), .val (.int p5), .val (.int p6), .val (.int v7_7), .unset, .unset, .unset] [(.int (p1 + (gy p3.toNatClampNeg)))])) _
    refine XS.istore X4.here hx rfl (hb hby d1_16) rfl (l' := #[.val (.int p0), .val (.int p1), .val (.int p2), .val (.int p3), .val (.int p4), .val (.int p5), .val (.int p6), .val (.int v7_7), .val (.int v8_16), .unset, .unset]) (by rw [hv8_16]; rfl) ?_
    show Steps p.tables e below (T4.setTop (mkF m 18 #[.val (.int p0), .val (.int p1), .val (.int p2), .val (.int p3), .val (.int p4), .val (.int p5), .val (.int p6), .val (.int v7_7), .val (.int v8_16), .unset, .unset] [])) _
    refine XS.iloadN X4.here hx rfl (hb hby d1_18) rfl  ?_
    exact k
  obtain ⟨T6, X6, e6, st6⟩ := getS2 X4 hx hZ hown (host := "") (Or.inl (hw _ (List.mem_of_getElem? (i := 10) rfl))) Via.refl e4 S_Z (g := (mkF m 19 #[.val (.int p0), .val (.int p1), .val (.int p2), .val (.int p3), .val (.int p4), .val (.int p5), .val (.int p6), .val (.int v7_7), .val (.int v8_16), .unset, .unset] [(.int p2)])) rfl (hb hby d1_19)
  obtain ⟨v9_25, hv9_25⟩ : ∃ z : Int32, z = (p2 + (gz p3.toNatClampNeg)) := ⟨_, rfl⟩
  have pre7 : ∀ t, Steps p.tables e below (T6.setTop (mkF m 32 #[.val (.int p0), .val (.int p1), .val (.int p2), .val (.int p3), .val (.int p4), .val (.int p5), .val (.int p6), .val (.int v7_7), .val (.int v8_16), .val (.int v9_25), .val (.int (-1 : Int32))] [(.int v7_7)])) t → Steps p.tables e below (s₁.setTop (entryFrame m #[(.int p0), (.int p1), (.int p2), (.int p3), (.int p4), (.int p5), (.int p6)] 11)) t := by
    intro t k
    refine pre5 t ?_
    show Steps p.tables e below (T4.setTop (mkF m 19 #[.val (.int p0), .val (.int p1), .val (.int p2), .val (.int p3), .val (.int p4), .val (.int p5), .val (.int p6), .val (.int v7_7), .val (.int v8_16), .unset, .unset] [(.int p2)])) _
    refine st6 _ ?_
    show Steps p.tables e below (T6.setTop (mkF m 22 #[.val (.int p0), .val (.int p1), .val (.int p2), .val (.int p3), .val (.int p4), .val (.int p5), .val (.int p6), .val (.int v7_7), .val (.int v8_16), .unset, .unset] [(.ref az), (.int p2)])) _
    refine XS.iloadN X6.here hx rfl (hb hby d1_22) rfl  ?_
    show Steps p.tables e below (T6.setTop (mkF m 23 #[.val (.int p0), .val (.int p1), .val (.int p2), .val (.int p3), .val (.int p4), .val (.int p5), .val (.int p6), .val (.int v7_7), .val (.int v8_16), .unset, .unset] [(.int p3), (.ref az), (.int p2)])) _
    refine own_ldI X6 hx hZ e6 A_az (j := p3) (k := p3.toNatClampNeg) hd.1 rfl hd.2 (g := (mkF m 23 #[.val (.int p0), .val (.int p1), .val (.int p2), .val (.int p3), .val (.int p4), .val (.int p5), .val (.int p6), .val (.int v7_7), .val (.int v8_16), .unset, .unset] [(.int p3), (.ref az), (.int p2)])) rfl rfl (hb hby d1_23) ?_
    show Steps p.tables e below (T6.setTop (mkF m 24 #[.val (.int p0), .val (.int p1), .val (.int p2), .val (.int p3), .val (.int p4), .val (.int p5), .val (.int p6), .val (.int v7_7), .val (.int v8_16), .unset, .unset] [(.int (gz p3.toNatClampNeg)), (.int p2)])) _
    refine XS.iadd X6.here hx rfl (hb hby d1_24) rfl ?_
    show Steps p.tables e below (T6.setTop (mkF m 25 #[.val (.int p0), .val (.int p1), .val (.int p2), .val (.int p3), .val (.int p4), .val (.int p5), .val (.int p6), .val (.int v7_7), .val (.int v8_16), .unset, .unset] [(.int (p2 + (gz p3.toNatClampNeg)))])) _
    refine XS.istore X6.here hx rfl (hb hby d1_25) rfl (l' := #[.val (.int p0), .val (.int p1), .val (.int p2), .val (.int p3), .val (.int p4), .val (.int p5), .val (.int p6), .val (.int v7_7), .val (.int v8_16), .val (.int v9_25), .unset]) (by rw [hv9_25]; rfl) ?_
    show Steps p.tables e below (T6.setTop (mkF m 27 #[.val (.int p0), .val (.int p1), .val (.int p2), .val (.int p3), .val (.int p4), .val (.int p5), .val (.int p6), .val (.int v7_7), .val (.int v8_16), .val (.int v9_25), .unset] [])) _
    refine XS.iconst X6.here hx rfl (hb hby d1_27) ?_
    show Steps p.tables e below (T6.setTop (mkF m 28 #[.val (.int p0), .val (.int p1), .val (.int p2), .val (.int p3), .val (.int p4), .val (.int p5), .val (.int p6), .val (.int v7_7), .val (.int v8_16), .val (.int v9_25), .unset] [(.int (-1 : Int32))])) _
    refine XS.istore X6.here hx rfl (hb hby d1_28) rfl (l' := #[.val (.int p0), .val (.int p1), .val (.int p2), .val (.int p3), .val (.int p4), .val (.int p5), .val (.int p6), .val (.int v7_7), .val (.int v8_16), .val (.int v9_25), .val (.int (-1 : Int32))]) rfl ?_
    show Steps p.tables e below (T6.setTop (mkF m 30 #[.val (.int p0), .val (.int p1), .val (.int p2), .val (.int p3), .val (.int p4), .val (.int p5), .val (.int p6), .val (.int v7_7), .val (.int v8_16), .val (.int v9_25), .val (.int (-1 : Int32))] [])) _
    refine XS.iload X6.here hx rfl (hb hby d1_30) rfl  ?_
    exact k
  obtain ⟨m10_82, hm10_82⟩ : ∃ z : Int32, z = (if v7_7 < (0 : Int32) then (-1 : Int32) else (if v7_7 < p4 then (if v8_16 < (0 : Int32) then (-1 : Int32) else (if v8_16 < p5 then (if v9_25 < (0 : Int32) then (-1 : Int32) else (if v9_25 < p6 then ((((v9_25 * p5) + v8_16) * p4) + v7_7) else (-1 : Int32))) else (-1 : Int32))) else (-1 : Int32))) := ⟨_, rfl⟩
  have pre8 : ∀ t, Steps p.tables e below (T6.setTop (mkF m 82 #[.val (.int p0), .val (.int p1), .val (.int p2), .val (.int p3), .val (.int p4), .val (.int p5), .val (.int p6), .val (.int v7_7), .val (.int v8_16), .val (.int v9_25), .val (.int m10_82)] [])) t → Steps p.tables e below (s₁.setTop (entryFrame m #[(.int p0), (.int p1), (.int p2), (.int p3), (.int p4), (.int p5), (.int p6)] 11)) t := by
    intro t k
    refine pre7 t ?_
    by_cases hc32 : v7_7 < (0 : Int32)
    · show Steps p.tables e below (T6.setTop (mkF m 32 #[.val (.int p0), .val (.int p1), .val (.int p2), .val (.int p3), .val (.int p4), .val (.int p5), .val (.int p6), .val (.int v7_7), .val (.int v8_16), .val (.int v9_25), .val (.int (-1 : Int32))] [(.int v7_7)])) _
      refine XS.ifYes X6.here hx rfl (pc0 := 32) (pc' := 82) rfl (hb hby d1_32) rfl ((if0 _ _).trans (tlt hc32).1) (by decide) (by decide) ?_
      have qm10_82 : m10_82 = (-1 : Int32) := by rw [hm10_82, if_pos hc32]
      rw [qm10_82] at k
      exact k
    · show Steps p.tables e below (T6.setTop (mkF m 32 #[.val (.int p0), .val (.int p1), .val (.int p2), .val (.int p3), .val (.int p4), .val (.int p5), .val (.int p6), .val (.int v7_7), .val (.int v8_16), .val (.int v9_25), .val (.int (-1 : Int32))] [(.int v7_7)])) _
      refine XS.ifNo X6.here hx rfl (hb hby d1_32) rfl ((if0 _ _).trans (flt hc32).1) ?_
      show Steps p.tables e below (T6.setTop (mkF m 35 #[.val (.int p0), .val (.int p1), .val (.int p2), .val (.int p3), .val (.int p4), .val (.int p5), .val (.int p6), .val (.int v7_7), .val (.int v8_16), .val (.int v9_25), .val (.int (-1 : Int32))] [])) _
      refine XS.iload X6.here hx rfl (hb hby d1_35) rfl  ?_
      show Steps p.tables e below (T6.setTop (mkF m 37 #[.val (.int p0), .val (.int p1), .val (.int p2), .val (.int p3), .val (.int p4), .val (.int p5), .val (.int p6), .val (.int v7_7), .val (.int v8_16), .val (.int v9_25), .val (.int (-1 : Int32))] [(.int v7_7)])) _
      refine XS.iload X6.here hx rfl (hb hby d1_37) rfl  ?_
      by_cases hc39 : v7_7 < p4
      · show Steps p.tables e below (T6.setTop (mkF m 39 #[.val (.int p0), .val (.int p1), .val (.int p2), .val (.int p3), .val (.int p4), .val (.int p5), .val (.int p6), .val (.int v7_7), .val (.int v8_16), .val (.int v9_25), .val (.int (-1 : Int32))] [(.int p4), (.int v7_7)])) _
        refine XS.icmpNo X6.here hx rfl (hb hby d1_39) rfl (tlt hc39).2.1 ?_
        show Steps p.tables e below (T6.setTop (mkF m 42 #[.val (.int p0), .val (.int p1), .val (.int p2), .val (.int p3), .val (.int p4), .val (.int p5), .val (.int p6), .val (.int v7_7), .val (.int v8_16), .val (.int v9_25), .val (.int (-1 : Int32))] [])) _
        refine XS.iload X6.here hx rfl (hb hby d1_42) rfl  ?_
        by_cases hc44 : v8_16 < (0 : Int32)
        · show Steps p.tables e below (T6.setTop (mkF m 44 #[.val (.int p0), .val (.int p1), .val (.int p2), .val (.int p3), .val (.int p4), .val (.int p5), .val (.int p6), .val (.int v7_7), .val (.int v8_16), .val (.int v9_25), .val (.int (-1 : Int32))] [(.int v8_16)])) _
          refine XS.ifYes X6.here hx rfl (pc0 := 44) (pc' := 82) rfl (hb hby d1_44) rfl ((if0 _ _).trans (tlt hc44).1) (by decide) (by decide) ?_
          have qm10_82 : m10_82 = (-1 : Int32) := by rw [hm10_82, if_neg hc32, if_pos hc39, if_pos hc44]
          rw [qm10_82] at k
          exact k
        · show Steps p.tables e below (T6.setTop (mkF m 44 #[.val (.int p0), .val (.int p1), .val (.int p2), .val (.int p3), .val (.int p4), .val (.int p5), .val (.int p6), .val (.int v7_7), .val (.int v8_16), .val (.int v9_25), .val (.int (-1 : Int32))] [(.int v8_16)])) _
          refine XS.ifNo X6.here hx rfl (hb hby d1_44) rfl ((if0 _ _).trans (flt hc44).1) ?_
          show Steps p.tables e below (T6.setTop (mkF m 47 #[.val (.int p0), .val (.int p1), .val (.int p2), .val (.int p3), .val (.int p4), .val (.int p5), .val (.int p6), .val (.int v7_7), .val (.int v8_16), .val (.int v9_25), .val (.int (-1 : Int32))] [])) _
          refine XS.iload X6.here hx rfl (hb hby d1_47) rfl  ?_
          show Steps p.tables e below (T6.setTop (mkF m 49 #[.val (.int p0), .val (.int p1), .val (.int p2), .val (.int p3), .val (.int p4), .val (.int p5), .val (.int p6), .val (.int v7_7), .val (.int v8_16), .val (.int v9_25), .val (.int (-1 : Int32))] [(.int v8_16)])) _
          refine XS.iload X6.here hx rfl (hb hby d1_49) rfl  ?_
          by_cases hc51 : v8_16 < p5
          · show Steps p.tables e below (T6.setTop (mkF m 51 #[.val (.int p0), .val (.int p1), .val (.int p2), .val (.int p3), .val (.int p4), .val (.int p5), .val (.int p6), .val (.int v7_7), .val (.int v8_16), .val (.int v9_25), .val (.int (-1 : Int32))] [(.int p5), (.int v8_16)])) _
            refine XS.icmpNo X6.here hx rfl (hb hby d1_51) rfl (tlt hc51).2.1 ?_
            show Steps p.tables e below (T6.setTop (mkF m 54 #[.val (.int p0), .val (.int p1), .val (.int p2), .val (.int p3), .val (.int p4), .val (.int p5), .val (.int p6), .val (.int v7_7), .val (.int v8_16), .val (.int v9_25), .val (.int (-1 : Int32))] [])) _
            refine XS.iload X6.here hx rfl (hb hby d1_54) rfl  ?_
            by_cases hc56 : v9_25 < (0 : Int32)
            · show Steps p.tables e below (T6.setTop (mkF m 56 #[.val (.int p0), .val (.int p1), .val (.int p2), .val (.int p3), .val (.int p4), .val (.int p5), .val (.int p6), .val (.int v7_7), .val (.int v8_16), .val (.int v9_25), .val (.int (-1 : Int32))] [(.int v9_25)])) _
              refine XS.ifYes X6.here hx rfl (pc0 := 56) (pc' := 82) rfl (hb hby d1_56) rfl ((if0 _ _).trans (tlt hc56).1) (by decide) (by decide) ?_
              have qm10_82 : m10_82 = (-1 : Int32) := by rw [hm10_82, if_neg hc32, if_pos hc39, if_neg hc44, if_pos hc51, if_pos hc56]
              rw [qm10_82] at k
              exact k
            · show Steps p.tables e below (T6.setTop (mkF m 56 #[.val (.int p0), .val (.int p1), .val (.int p2), .val (.int p3), .val (.int p4), .val (.int p5), .val (.int p6), .val (.int v7_7), .val (.int v8_16), .val (.int v9_25), .val (.int (-1 : Int32))] [(.int v9_25)])) _
              refine XS.ifNo X6.here hx rfl (hb hby d1_56) rfl ((if0 _ _).trans (flt hc56).1) ?_
              show Steps p.tables e below (T6.setTop (mkF m 59 #[.val (.int p0), .val (.int p1), .val (.int p2), .val (.int p3), .val (.int p4), .val (.int p5), .val (.int p6), .val (.int v7_7), .val (.int v8_16), .val (.int v9_25), .val (.int (-1 : Int32))] [])) _
              refine XS.iload X6.here hx rfl (hb hby d1_59) rfl  ?_
              show Steps p.tables e below (T6.setTop (mkF m 61 #[.val (.int p0), .val (.int p1), .val (.int p2), .val (.int p3), .val (.int p4), .val (.int p5), .val (.int p6), .val (.int v7_7), .val (.int v8_16), .val (.int v9_25), .val (.int (-1 : Int32))] [(.int v9_25)])) _
              refine XS.iload X6.here hx rfl (hb hby d1_61) rfl  ?_
              by_cases hc63 : v9_25 < p6
              · show Steps p.tables e below (T6.setTop (mkF m 63 #[.val (.int p0), .val (.int p1), .val (.int p2), .val (.int p3), .val (.int p4), .val (.int p5), .val (.int p6), .val (.int v7_7), .val (.int v8_16), .val (.int v9_25), .val (.int (-1 : Int32))] [(.int p6), (.int v9_25)])) _
                refine XS.icmpNo X6.here hx rfl (hb hby d1_63) rfl (tlt hc63).2.1 ?_
                show Steps p.tables e below (T6.setTop (mkF m 66 #[.val (.int p0), .val (.int p1), .val (.int p2), .val (.int p3), .val (.int p4), .val (.int p5), .val (.int p6), .val (.int v7_7), .val (.int v8_16), .val (.int v9_25), .val (.int (-1 : Int32))] [])) _
                refine XS.iload X6.here hx rfl (hb hby d1_66) rfl  ?_
                show Steps p.tables e below (T6.setTop (mkF m 68 #[.val (.int p0), .val (.int p1), .val (.int p2), .val (.int p3), .val (.int p4), .val (.int p5), .val (.int p6), .val (.int v7_7), .val (.int v8_16), .val (.int v9_25), .val (.int (-1 : Int32))] [(.int v9_25)])) _
                refine XS.iload X6.here hx rfl (hb hby d1_68) rfl  ?_
                show Steps p.tables e below (T6.setTop (mkF m 70 #[.val (.int p0), .val (.int p1), .val (.int p2), .val (.int p3), .val (.int p4), .val (.int p5), .val (.int p6), .val (.int v7_7), .val (.int v8_16), .val (.int v9_25), .val (.int (-1 : Int32))] [(.int p5), (.int v9_25)])) _
                refine XS.imul X6.here hx rfl (hb hby d1_70) rfl ?_
                show Steps p.tables e below (T6.setTop (mkF m 71 #[.val (.int p0), .val (.int p1), .val (.int p2), .val (.int p3), .val (.int p4), .val (.int p5), .val (.int p6), .val (.int v7_7), .val (.int v8_16), .val (.int v9_25), .val (.int (-1 : Int32))] [(.int (v9_25 * p5))])) _
                refine XS.iload X6.here hx rfl (hb hby d1_71) rfl  ?_
                show Steps p.tables e below (T6.setTop (mkF m 73 #[.val (.int p0), .val (.int p1), .val (.int p2), .val (.int p3), .val (.int p4), .val (.int p5), .val (.int p6), .val (.int v7_7), .val (.int v8_16), .val (.int v9_25), .val (.int (-1 : Int32))] [(.int v8_16), (.int (v9_25 * p5))])) _
                refine XS.iadd X6.here hx rfl (hb hby d1_73) rfl ?_
                show Steps p.tables e below (T6.setTop (mkF m 74 #[.val (.int p0), .val (.int p1), .val (.int p2), .val (.int p3), .val (.int p4), .val (.int p5), .val (.int p6), .val (.int v7_7), .val (.int v8_16), .val (.int v9_25), .val (.int (-1 : Int32))] [(.int ((v9_25 * p5) + v8_16))])) _
                refine XS.iload X6.here hx rfl (hb hby d1_74) rfl  ?_
                show Steps p.tables e below (T6.setTop (mkF m 76 #[.val (.int p0), .val (.int p1), .val (.int p2), .val (.int p3), .val (.int p4), .val (.int p5), .val (.int p6), .val (.int v7_7), .val (.int v8_16), .val (.int v9_25), .val (.int (-1 : Int32))] [(.int p4), (.int ((v9_25 * p5) + v8_16))])) _
                refine XS.imul X6.here hx rfl (hb hby d1_76) rfl ?_
                show Steps p.tables e below (T6.setTop (mkF m 77 #[.val (.int p0), .val (.int p1), .val (.int p2), .val (.int p3), .val (.int p4), .val (.int p5), .val (.int p6), .val (.int v7_7), .val (.int v8_16), .val (.int v9_25), .val (.int (-1 : Int32))] [(.int (((v9_25 * p5) + v8_16) * p4))])) _
                refine XS.iload X6.here hx rfl (hb hby d1_77) rfl  ?_
                show Steps p.tables e below (T6.setTop (mkF m 79 #[.val (.int p0), .val (.int p1), .val (.int p2), .val (.int p3), .val (.int p4), .val (.int p5), .val (.int p6), .val (.int v7_7), .val (.int v8_16), .val (.int v9_25), .val (.int (-1 : Int32))] [(.int v7_7), (.int (((v9_25 * p5) + v8_16) * p4))])) _
                refine XS.iadd X6.here hx rfl (hb hby d1_79) rfl ?_
                show Steps p.tables e below (T6.setTop (mkF m 80 #[.val (.int p0), .val (.int p1), .val (.int p2), .val (.int p3), .val (.int p4), .val (.int p5), .val (.int p6), .val (.int v7_7), .val (.int v8_16), .val (.int v9_25), .val (.int (-1 : Int32))] [(.int ((((v9_25 * p5) + v8_16) * p4) + v7_7))])) _
                refine XS.istore X6.here hx rfl (hb hby d1_80) rfl (l' := #[.val (.int p0), .val (.int p1), .val (.int p2), .val (.int p3), .val (.int p4), .val (.int p5), .val (.int p6), .val (.int v7_7), .val (.int v8_16), .val (.int v9_25), .val (.int ((((v9_25 * p5) + v8_16) * p4) + v7_7))]) rfl ?_
                have qm10_82 : m10_82 = ((((v9_25 * p5) + v8_16) * p4) + v7_7) := by rw [hm10_82, if_neg hc32, if_pos hc39, if_neg hc44, if_pos hc51, if_neg hc56, if_pos hc63]
                rw [qm10_82] at k
                exact k
              · show Steps p.tables e below (T6.setTop (mkF m 63 #[.val (.int p0), .val (.int p1), .val (.int p2), .val (.int p3), .val (.int p4), .val (.int p5), .val (.int p6), .val (.int v7_7), .val (.int v8_16), .val (.int v9_25), .val (.int (-1 : Int32))] [(.int p6), (.int v9_25)])) _
                refine XS.icmpYes X6.here hx rfl (pc0 := 63) (pc' := 82) rfl (hb hby d1_63) rfl (flt hc63).2.1 (by decide) (by decide) ?_
                have qm10_82 : m10_82 = (-1 : Int32) := by rw [hm10_82, if_neg hc32, if_pos hc39, if_neg hc44, if_pos hc51, if_neg hc56, if_neg hc63]
                rw [qm10_82] at k
                exact k
          · show Steps p.tables e below (T6.setTop (mkF m 51 #[.val (.int p0), .val (.int p1), .val (.int p2), .val (.int p3), .val (.int p4), .val (.int p5), .val (.int p6), .val (.int v7_7), .val (.int v8_16), .val (.int v9_25), .val (.int (-1 : Int32))] [(.int p5), (.int v8_16)])) _
            refine XS.icmpYes X6.here hx rfl (pc0 := 51) (pc' := 82) rfl (hb hby d1_51) rfl (flt hc51).2.1 (by decide) (by decide) ?_
            have qm10_82 : m10_82 = (-1 : Int32) := by rw [hm10_82, if_neg hc32, if_pos hc39, if_neg hc44, if_neg hc51]
            rw [qm10_82] at k
            exact k
      · show Steps p.tables e below (T6.setTop (mkF m 39 #[.val (.int p0), .val (.int p1), .val (.int p2), .val (.int p3), .val (.int p4), .val (.int p5), .val (.int p6), .val (.int v7_7), .val (.int v8_16), .val (.int v9_25), .val (.int (-1 : Int32))] [(.int p4), (.int v7_7)])) _
        refine XS.icmpYes X6.here hx rfl (pc0 := 39) (pc' := 82) rfl (hb hby d1_39) rfl (flt hc39).2.1 (by decide) (by decide) ?_
        have qm10_82 : m10_82 = (-1 : Int32) := by rw [hm10_82, if_neg hc32, if_neg hc39]
        rw [qm10_82] at k
        exact k
  obtain ⟨fs, hr, hrun, hended, hW, hsame⟩ := X6.leave (v := some (.int m10_82)) (fun h => by rw [Bd.returns] at h; cases h)
  refine ⟨_, _, pre8 _ ?_, hrun, hended, _, _, rfl, ?_, ⟨_, rfl⟩, hW, hsame.mono (by decide) (by decide)⟩
  · show Steps p.tables e below (T6.setTop (mkF m 82 #[.val (.int p0), .val (.int p1), .val (.int p2), .val (.int p3), .val (.int p4), .val (.int p5), .val (.int p6), .val (.int v7_7), .val (.int v8_16), .val (.int v9_25), .val (.int m10_82)] [])) _
    refine XS.iload X6.here hx rfl (hb hby d1_82) rfl  ?_
    show Steps p.tables e below (T6.setTop (mkF m 84 #[.val (.int p0), .val (.int p1), .val (.int p2), .val (.int p3), .val (.int p4), .val (.int p5), .val (.int p6), .val (.int v7_7), .val (.int v8_16), .val (.int v9_25), .val (.int m10_82)] [(.int m10_82)])) _
    exact retI X6 hx Bd.returns (hb hby d1_84) hr
  · show Q_1 Z p0 p1 p2 p3 p4 p5 p6 ax gx ay gy az gz h0 n0 _ T6.heap _
    rw [e6]
    exact ⟨congrArg (fun z => some (Value.int z)) (by subst hv7_7 hv8_16 hv9_25 hm10_82; rfl : m10_82 = f_1 p0 p1 p2 p3 p4 p5 p6 gx gy gz), N0, rfl⟩
theorem own_Zv (i : Nat) : i < 26 → own_Z i = if i < 8 then 0 else if i < 17 then -1 else 1 := by
  revert i
  decide +kernel
theorem own_Zat {s : State} {args : Array Value} {C f d : String} {a : Addr} (hf : Fit s) (ev : (Term.static C f d).eval args s none [] s = some (.ref a)) (hx : (Cond.arrayOf (.static C f d) .int).value args s none s [] = some true) (hl : (Term.length (.static C f d)).eval args s none [] s = some (.int (26 : Int32)))
    (c1 : (Jvm.Cond.all (.static C f d) (.or (.le (.int (8 : Int32)) (.index 0)) (.eq (.elem (.static C f d) (.index 0)) (.int (0 : Int32))))).value args s none s [] = some true)
    (c2 : (Jvm.Cond.all (.static C f d) (.or (.lt (.index 0) (.int (8 : Int32))) (.or (.le (.int (17 : Int32)) (.index 0)) (.eq (.elem (.static C f d) (.index 0)) (.int (-1 : Int32)))))).value args s none s [] = some true)
    (c3 : (Jvm.Cond.all (.static C f d) (.or (.lt (.index 0) (.int (17 : Int32))) (.eq (.elem (.static C f d) (.index 0)) (.int (1 : Int32))))).value args s none s [] = some true) :
    ∀ i, i < 26 → (Term.elem (.static C f d) (.int (Int32.ofNat i))).eval args s none [] s = some (.int (own_Z i)) := by
  obtain ⟨cl, A, ha, sz, hb⟩ := own_arr (n := 26) ev hx hl (by decide)
  intro i hi
  have j0 : ¬ (i.toInt32 < 0 ∨ cl.slots.size ≤ i.toInt32.toNatClampNeg) := idx_in (by rw [sz]; exact hi) (by rw [sz]; decide)
  have hn : ¬ i.toInt32 < 0 := fun w => j0 (Or.inl w)
  obtain ⟨v, w1, w2⟩ := elem_fit hf A j0
  obtain ⟨x, rfl⟩ := fit_I w2 (Or.inl rfl)
  have e0 : (Term.elem (.static C f d) (.int (Int32.ofNat i))).eval args s none [] s = some (.int x) := (elem_f (j := i.toInt32) ev rfl ha hn).trans w1
  have ev' : (Term.static C f d).eval args s none [i] s = some (.ref a) := ev
  have ei : (Term.index 0).eval args s none [i] s = some (.int i.toInt32) := rfl
  have e1 : (Term.elem (.static C f d) (.index 0)).eval args s none [i] s = some (.int x) := (elem_f (j := i.toInt32) ev' ei ha hn).trans w1
  have q1 := or_e2 (Cond.le_ints (Term.int_eval 8) ei) (Cond.eq_ints e1 (Term.int_eval 0)) (Cond.all_elim ev ha c1 i (by rw [sz]; exact hi))
  have q2 := or3 (Cond.all_elim ev ha c2 i (by rw [sz]; exact hi)) (Cond.lt_ints ei (Term.int_eval 8)) (Cond.le_ints (Term.int_eval 17) ei) (Cond.eq_ints e1 (Term.int_eval (-1)))
  have q3 := or_e2 (Cond.lt_ints ei (Term.int_eval 17)) (Cond.eq_ints e1 (Term.int_eval 1)) (Cond.all_elim ev ha c3 i (by rw [sz]; exact hi))
  rw [e0, own_Zv i hi]
  have l := len_toInt (show i < 2 ^ 31 by omega)
  rw [Int32.le_iff_toInt_le, l, show (8 : Int32).toInt = 8 by decide] at q1
  rw [Int32.lt_iff_toInt_lt, Int32.lt_iff_toInt_lt, l, show (8 : Int32).toInt = 8 by decide, show (17 : Int32).toInt = 17 by decide] at q2
  rw [Int32.lt_iff_toInt_lt, l, show (17 : Int32).toInt = 17 by decide] at q3
  by_cases h1 : i < 8
  · rcases q1 with q | q
    · omega
    · rw [if_pos h1, q]
  · by_cases h2 : i < 17
    · rcases q2 with q | q | q
      · omega
      · omega
      · rw [if_neg h1, if_pos h2, q]
    · rcases q3 with q | q
      · omega
      · rw [if_neg h1, if_neg h2, q]
theorem own_n (x : Int64) : 0 < (((x &&& (1023 : Int64)).toInt32) + (1 : Int32)).toInt ∧ (((x &&& (1023 : Int64)).toInt32) + (1 : Int32)).toInt ≤ 1024 := by
  have a1 := c_maskL x 1023 10 (by decide) (by decide)
  have a2 := c_l2i (x &&& 1023)
  have r2 := rng32 (x &&& 1023).toInt32
  have a3 := c_iadd (x &&& 1023).toInt32 1
  have r3 := rng32 ((x &&& 1023).toInt32 + 1)
  have l1 : (1 : Int32).toInt = 1 := by decide
  omega
theorem own_n1 (x : Int64) : (((x &&& (1023 : Int64)).toInt32) + (1 : Int32)) ≠ 0 := by
  intro h
  have q := (own_n x).1
  rw [h] at q
  exact absurd q (by decide)
theorem own_d (a : Int32) : ¬ ((a &&& (2147483647 : Int32)) % (26 : Int32)) < 0 ∧ ((a &&& (2147483647 : Int32)) % (26 : Int32)).toNatClampNeg < 26 := by
  have a1 := c_mask a 2147483647 31 (by decide) (by decide)
  have a2 := (c_irem (a &&& 2147483647) 26 26 (by decide)).1 (by omega)
  have l0 : (0 : Int32).toInt = 0 := by decide
  have n1 : ¬ ((a &&& (2147483647 : Int32)) % (26 : Int32)) < 0 := by rw [Int32.lt_iff_toInt_lt]; omega
  have n2 := nat_of n1
  exact ⟨n1, by omega⟩
theorem pd_0 : parseMethodDescriptor "(IIIIIII)I" = some ⟨[.int, .int, .int, .int, .int, .int, .int], some .int⟩ := by decide +kernel
theorem pn_0 : plainName "com/example/punctilio/punctilio/engine/NeighboursOfPinLaw" = true := by first | (simp [plainName, overriddenIn]; done) | decide +kernel
theorem ef_0 (m : MethodId) (p0 : Int32) (p1 : Int32) (p2 : Int32) (p3 : Int32) (p4 : Int64) : entryFrame m #[(.int p0), (.int p1), (.int p2), (.int p3), (.long p4)] maxLocals = mkF m 0 #[.val (.int p0), .val (.int p1), .val (.int p2), .val (.int p3), .val (.long p4), .second, .unset, .unset, .unset, .unset, .unset, .unset, .unset, .unset, .unset, .unset, .unset, .unset, .unset, .unset] [] := by first | (simp [entryFrame, mkF, argsToLocals, Value.category, maxLocals]; done) | rfl
def f_0 (p0 : Int32) (p1 : Int32) (p2 : Int32) (p3 : Int32) (p4 : Int64) (gx : Nat → Int32) (gy : Nat → Int32) (gz : Nat → Int32) : Int32 := let v6_9 : Int32 := (((p4 &&& (1023 : Int64)).toInt32) + (1 : Int32)); let v7_23 : Int32 := (((((p4.toUInt64 >>> ((10 : Int32) &&& 0x3f).toInt64.toUInt64).toInt64) &&& (1023 : Int64)).toInt32) + (1 : Int32)); let v8_37 : Int32 := (((((p4.toUInt64 >>> ((20 : Int32) &&& 0x3f).toInt64.toUInt64).toInt64) &&& (1023 : Int64)).toInt32) + (1 : Int32)); let v9_46 : Int32 := ((p0 &&& (2147483647 : Int32)) % v6_9); let v10_55 : Int32 := ((p1 &&& (2147483647 : Int32)) % v7_23); let v11_64 : Int32 := ((p2 &&& (2147483647 : Int32)) % v8_37); let v12_73 : Int32 := ((p3 &&& (2147483647 : Int32)) % (26 : Int32)); let ms0_98 : Int32 := (if v12_73 < (8 : Int32) then (0 : Int32) else (if v12_73 < (17 : Int32) then (-1 : Int32) else (1 : Int32))); let ms0_145 : Int32 := (if v12_73 < (8 : Int32) then (if v12_73 < (4 : Int32) then v12_73 else (v12_73 + (1 : Int32))) else (if v12_73 < (17 : Int32) then (v12_73 - (8 : Int32)) else (v12_73 - (17 : Int32)))); let v15_153 : Int32 := ((ms0_145 % (3 : Int32)) - (1 : Int32)); let v16_161 : Int32 := ((ms0_145 / (3 : Int32)) - (1 : Int32)); let ms0_222 : Int32 := (if (v9_46 + v15_153) < (0 : Int32) then (0 : Int32) else (if (v9_46 + v15_153) < v6_9 then (if (v10_55 + v16_161) < (0 : Int32) then (0 : Int32) else (if (v10_55 + v16_161) < v7_23 then (if (v11_64 + ms0_98) < (0 : Int32) then (0 : Int32) else (if (v11_64 + ms0_98) < v8_37 then (1 : Int32) else (0 : Int32))) else (0 : Int32))) else (0 : Int32))); let m18_270 : Int32 := (if ms0_222 = (0 : Int32) then (-1 : Int32) else ((((((v11_64 * (v6_9 * v7_23)) + (v10_55 * v6_9)) + v9_46) + (ms0_98 * (v6_9 * v7_23))) + (v16_161 * v6_9)) + v15_153)); let ms0_297 : Int32 := (if (f_1 v9_46 v10_55 v11_64 v12_73 v6_9 v7_23 v8_37 gx gy gz) = m18_270 then (1 : Int32) else (0 : Int32)); ms0_297
def Q_0 (Z : State) (p0 : Int32) (p1 : Int32) (p2 : Int32) (p3 : Int32) (p4 : Int64) (ax : Addr) (gx : Nat → Int32) (ay : Addr) (gy : Nat → Int32) (az : Addr) (gz : Nat → Int32) (h0 : Heap) (n0 : Nat) (v : Option Value) (h : Heap) (L : List Loc) : Prop := v = some (.int (f_0 p0 p1 p2 p3 p4 gx gy gz)) ∧ Fr n0 L ∧ True
set_option maxRecDepth 65536 in
set_option maxHeartbeats 40000000 in
theorem rm_0 (l : Launch) (Z : State) (a0 : Array Value) (hw : ∀ d ∈ tables_1, d.before a0 Z = true) (ws : List Jvm.Cond) (p0 : Int32) (p1 : Int32) (p2 : Int32) (p3 : Int32) (p4 : Int64) (ax : Addr) (gx : Nat → Int32) (ay : Addr) (gy : Nat → Int32) (az : Addr) (gz : Nat → Int32) (h0 : Heap) (n0 : Nat) (Z0 : n0 ≤ h0.size) (S_X : Sta Z h0 "com/example/punctilio/punctilio/engine/Neighbours" "X" "[I" (.ref ax)) (A_ax : own_A Z h0 ax .int 26 (fun i => .int (gx i))) (S_Y : Sta Z h0 "com/example/punctilio/punctilio/engine/Neighbours" "Y" "[I" (.ref ay)) (A_ay : own_A Z h0 ay .int 26 (fun i => .int (gy i))) (S_Z : Sta Z h0 "com/example/punctilio/punctilio/engine/Neighbours" "Z" "[I" (.ref az)) (A_az : own_A Z h0 az .int 26 (fun i => .int (gz i))) :
    MetFree l x (head1 (Jvm.Cond.code x code maxLocals ret :: ws) room_1) (fun a U => a = #[(.int p0), (.int p1), (.int p2), (.int p3), (.long p4)] ∧ Z.Warmed39 U.vm ∧ U.heap = h0) (fun _ _ _ _ _ => True) (fun _ U o U' => ∃ v L, o = .returned v ∧ Q_0 Z p0 p1 p2 p3 p4 ax gx ay gy az gz h0 n0 v U'.heap L ∧ FrameEnd U o U' L 0 0) := by
  refine MetFree.of_bodySF (plainFor_of_name pn_0) hisR ?_
  intro p e s m args below meth c s₁ Bd hml0 hP hK
  obtain ⟨rfl, hZ, hh⟩ := hP
  have hx := Bd.exec
  have hby := Bd.bytes
  have hml : c.maxLocals = 20 := hml0
  have hown : s.vm.findClass "com/example/punctilio/punctilio/engine/NeighboursOfPinLaw" = some m.cls := findClass_of_methodNamed Bd.named
  have hnm := (name_of_methodNamed Bd.named Bd.method).1
  have X0 : Stand p l e room_1 s m #[(.int p0), (.int p1), (.int p2), (.int p3), (.long p4)] below meth c s₁ [] 0 0 := Stand.of_body Bd
  have e0 : s₁.heap = h0 := by rw [← hh, Bd.state]; rfl
  have N0 := Fr.nil n0
  have K0 : Keep h0 h0 [] := Keep.refl h0 _
  have pre0 : ∀ t, Steps p.tables e below (s₁.setTop (mkF m 0 #[.val (.int p0), .val (.int p1), .val (.int p2), .val (.int p3), .val (.long p4), .second, .unset, .unset, .unset, .unset, .unset, .unset, .unset, .unset, .unset, .unset, .unset, .unset, .unset, .unset] [])) t → Steps p.tables e below (s₁.setTop (entryFrame m #[(.int p0), (.int p1), (.int p2), (.int p3), (.long p4)] maxLocals)) t := fun t k => castTop (ef_0 m p0 p1 p2 p3 p4) k
  obtain ⟨v6_9, hv6_9⟩ : ∃ z : Int32, z = (((p4 &&& (1023 : Int64)).toInt32) + (1 : Int32)) := ⟨_, rfl⟩
  obtain ⟨v7_23, hv7_23⟩ : ∃ z : Int32, z = (((((p4.toUInt64 >>> ((10 : Int32) &&& 0x3f).toInt64.toUInt64).toInt64) &&& (1023 : Int64)).toInt32) + (1 : Int32)) := ⟨_, rfl⟩
  obtain ⟨v8_37, hv8_37⟩ : ∃ z : Int32, z = (((((p4.toUInt64 >>> ((20 : Int32) &&& 0x3f).toInt64.toUInt64).toInt64) &&& (1023 : Int64)).toInt32) + (1 : Int32)) := ⟨_, rfl⟩
  obtain ⟨v9_46, hv9_46⟩ : ∃ z : Int32, z = ((p0 &&& (2147483647 : Int32)) % v6_9) := ⟨_, rfl⟩
  obtain ⟨v10_55, hv10_55⟩ : ∃ z : Int32, z = ((p1 &&& (2147483647 : Int32)) % v7_23) := ⟨_, rfl⟩
  obtain ⟨v11_64, hv11_64⟩ : ∃ z : Int32, z = ((p2 &&& (2147483647 : Int32)) % v8_37) := ⟨_, rfl⟩
  obtain ⟨v12_73, hv12_73⟩ : ∃ z : Int32, z = ((p3 &&& (2147483647 : Int32)) % (26 : Int32)) := ⟨_, rfl⟩
  have pre1 : ∀ t, Steps p.tables e below (s₁.setTop (mkF m 79 #[.val (.int p0), .val (.int p1), .val (.int p2), .val (.int p3), .val (.long p4), .second, .val (.int v6_9), .val (.int v7_23), .val (.int v8_37), .val (.int v9_46), .val (.int v10_55), .val (.int v11_64), .val (.int v12_73), .unset, .unset, .unset, .unset, .unset, .unset, .unset] [(.int (8 : Int32)), (.int v12_73)])) t → Steps p.tables e below (s₁.setTop (entryFrame m #[(.int p0), (.int p1), (.int p2), (.int p3), (.long p4)] maxLocals)) t := by
    intro t k
    refine pre0 t ?_
    show Steps p.tables e below (s₁.setTop (mkF m 0 #[.val (.int p0), .val (.int p1), .val (.int p2), .val (.int p3), .val (.long p4), .second, .unset, .unset, .unset, .unset, .unset, .unset, .unset, .unset, .unset, .unset, .unset, .unset, .unset, .unset] [])) _
    refine XS.lload X0.here hx rfl (hb hby at_0) rfl  ?_
    show Steps p.tables e below (s₁.setTop (mkF m 2 #[.val (.int p0), .val (.int p1), .val (.int p2), .val (.int p3), .val (.long p4), .second, .unset, .unset, .unset, .unset, .unset, .unset, .unset, .unset, .unset, .unset, .unset, .unset, .unset, .unset] [(.long p4)])) _
    refine X0.ldc2Long hx hown (mvT hZ (hw _ (List.mem_of_getElem? (i := 0) rfl))) (g := (mkF m 2 #[.val (.int p0), .val (.int p1), .val (.int p2), .val (.int p3), .val (.long p4), .second, .unset, .unset, .unset, .unset, .unset, .unset, .unset, .unset, .unset, .unset, .unset, .unset, .unset, .unset] [(.long p4)])) rfl (hb hby at_2) _ ?_
    show Steps p.tables e below (s₁.setTop (mkF m 5 #[.val (.int p0), .val (.int p1), .val (.int p2), .val (.int p3), .val (.long p4), .second, .unset, .unset, .unset, .unset, .unset, .unset, .unset, .unset, .unset, .unset, .unset, .unset, .unset, .unset] [(.long (1023 : Int64)), (.long p4)])) _
    refine XS.land X0.here hx rfl (hb hby at_5) rfl ?_
    show Steps p.tables e below (s₁.setTop (mkF m 6 #[.val (.int p0), .val (.int p1), .val (.int p2), .val (.int p3), .val (.long p4), .second, .unset, .unset, .unset, .unset, .unset, .unset, .unset, .unset, .unset, .unset, .unset, .unset, .unset, .unset] [(.long (p4 &&& (1023 : Int64)))])) _
    refine XS.l2i X0.here hx rfl (hb hby at_6) rfl ?_
    show Steps p.tables e below (s₁.setTop (mkF m 7 #[.val (.int p0), .val (.int p1), .val (.int p2), .val (.int p3), .val (.long p4), .second, .unset, .unset, .unset, .unset, .unset, .unset, .unset, .unset, .unset, .unset, .unset, .unset, .unset, .unset] [(.int ((p4 &&& (1023 : Int64)).toInt32))])) _
    refine XS.iconst X0.here hx rfl (hb hby at_7) ?_
    show Steps p.tables e below (s₁.setTop (mkF m 8 #[.val (.int p0), .val (.int p1), .val (.int p2), .val (.int p3), .val (.long p4), .second, .unset, .unset, .unset, .unset, .unset, .unset, .unset, .unset, .unset, .unset, .unset, .unset, .unset, .unset] [(.int (1 : Int32)), (.int ((p4 &&& (1023 : Int64)).toInt32))])) _
    refine XS.iadd X0.here hx rfl (hb hby at_8) rfl ?_
    show Steps p.tables e below (s₁.setTop (mkF m 9 #[.val (.int p0), .val (.int p1), .val (.int p2), .val (.int p3), .val (.long p4), .second, .unset, .unset, .unset, .unset, .unset, .unset, .unset, .unset, .unset, .unset, .unset, .unset, .unset, .unset] [(.int (((p4 &&& (1023 : Int64)).toInt32) + (1 : Int32)))])) _
    refine XS.istore X0.here hx rfl (hb hby at_9) rfl (l' := #[.val (.int p0), .val (.int p1), .val (.int p2), .val (.int p3), .val (.long p4), .second, .val (.int v6_9), .unset, .unset, .unset, .unset, .unset, .unset, .unset, .unset, .unset, .unset, .unset, .unset, .unset]) (by rw [hv6_9]; rfl) ?_
    show Steps p.tables e below (s₁.setTop (mkF m 11 #[.val (.int p0), .val (.int p1), .val (.int p2), .val (.int p3), .val (.long p4), .second, .val (.int v6_9), .unset, .unset, .unset, .unset, .unset, .unset, .unset, .unset, .unset, .unset, .unset, .unset, .unset] [])) _
    refine XS.lload X0.here hx rfl (hb hby at_11) rfl  ?_
    show Steps p.tables e below (s₁.setTop (mkF m 13 #[.val (.int p0), .val (.int p1), .val (.int p2), .val (.int p3), .val (.long p4), .second, .val (.int v6_9), .unset, .unset, .unset, .unset, .unset, .unset, .unset, .unset, .unset, .unset, .unset, .unset, .unset] [(.long p4)])) _
    refine XS.bipush X0.here hx rfl (hb hby at_13) ?_
    show Steps p.tables e below (s₁.setTop (mkF m 15 #[.val (.int p0), .val (.int p1), .val (.int p2), .val (.int p3), .val (.long p4), .second, .val (.int v6_9), .unset, .unset, .unset, .unset, .unset, .unset, .unset, .unset, .unset, .unset, .unset, .unset, .unset] [(.int (10 : Int32)), (.long p4)])) _
    refine XS.lushr X0.here hx rfl (hb hby at_15) rfl ?_
    show Steps p.tables e below (s₁.setTop (mkF m 16 #[.val (.int p0), .val (.int p1), .val (.int p2), .val (.int p3), .val (.long p4), .second, .val (.int v6_9), .unset, .unset, .unset, .unset, .unset, .unset, .unset, .unset, .unset, .unset, .unset, .unset, .unset] [(.long ((p4.toUInt64 >>> ((10 : Int32) &&& 0x3f).toInt64.toUInt64).toInt64))])) _
    refine X0.ldc2Long hx hown (mvT hZ (hw _ (List.mem_of_getElem? (i := 0) rfl))) (g := (mkF m 16 #[.val (.int p0), .val (.int p1), .val (.int p2), .val (.int p3), .val (.long p4), .second, .val (.int v6_9), .unset, .unset, .unset, .unset, .unset, .unset, .unset, .unset, .unset, .unset, .unset, .unset, .unset] [(.long ((p4.toUInt64 >>> ((10 : Int32) &&& 0x3f).toInt64.toUInt64).toInt64))])) rfl (hb hby at_16) _ ?_
    show Steps p.tables e below (s₁.setTop (mkF m 19 #[.val (.int p0), .val (.int p1), .val (.int p2), .val (.int p3), .val (.long p4), .second, .val (.int v6_9), .unset, .unset, .unset, .unset, .unset, .unset, .unset, .unset, .unset, .unset, .unset, .unset, .unset] [(.long (1023 : Int64)), (.long ((p4.toUInt64 >>> ((10 : Int32) &&& 0x3f).toInt64.toUInt64).toInt64))])) _
    refine XS.land X0.here hx rfl (hb hby at_19) rfl ?_
    show Steps p.tables e below (s₁.setTop (mkF m 20 #[.val (.int p0), .val (.int p1), .val (.int p2), .val (.int p3), .val (.long p4), .second, .val (.int v6_9), .unset, .unset, .unset, .unset, .unset, .unset, .unset, .unset, .unset, .unset, .unset, .unset, .unset] [(.long (((p4.toUInt64 >>> ((10 : Int32) &&& 0x3f).toInt64.toUInt64).toInt64) &&& (1023 : Int64)))])) _
    refine XS.l2i X0.here hx rfl (hb hby at_20) rfl ?_
    show Steps p.tables e below (s₁.setTop (mkF m 21 #[.val (.int p0), .val (.int p1), .val (.int p2), .val (.int p3), .val (.long p4), .second, .val (.int v6_9), .unset, .unset, .unset, .unset, .unset, .unset, .unset, .unset, .unset, .unset, .unset, .unset, .unset] [(.int ((((p4.toUInt64 >>> ((10 : Int32) &&& 0x3f).toInt64.toUInt64).toInt64) &&& (1023 : Int64)).toInt32))])) _
    refine XS.iconst X0.here hx rfl (hb hby at_21) ?_
    show Steps p.tables e below (s₁.setTop (mkF m 22 #[.val (.int p0), .val (.int p1), .val (.int p2), .val (.int p3), .val (.long p4), .second, .val (.int v6_9), .unset, .unset, .unset, .unset, .unset, .unset, .unset, .unset, .unset, .unset, .unset, .unset, .unset] [(.int (1 : Int32)), (.int ((((p4.toUInt64 >>> ((10 : Int32) &&& 0x3f).toInt64.toUInt64).toInt64) &&& (1023 : Int64)).toInt32))])) _
    refine XS.iadd X0.here hx rfl (hb hby at_22) rfl ?_
    show Steps p.tables e below (s₁.setTop (mkF m 23 #[.val (.int p0), .val (.int p1), .val (.int p2), .val (.int p3), .val (.long p4), .second, .val (.int v6_9), .unset, .unset, .unset, .unset, .unset, .unset, .unset, .unset, .unset, .unset, .unset, .unset, .unset] [(.int (((((p4.toUInt64 >>> ((10 : Int32) &&& 0x3f).toInt64.toUInt64).toInt64) &&& (1023 : Int64)).toInt32) + (1 : Int32)))])) _
    refine XS.istore X0.here hx rfl (hb hby at_23) rfl (l' := #[.val (.int p0), .val (.int p1), .val (.int p2), .val (.int p3), .val (.long p4), .second, .val (.int v6_9), .val (.int v7_23), .unset, .unset, .unset, .unset, .unset, .unset, .unset, .unset, .unset, .unset, .unset, .unset]) (by rw [hv7_23]; rfl) ?_
    show Steps p.tables e below (s₁.setTop (mkF m 25 #[.val (.int p0), .val (.int p1), .val (.int p2), .val (.int p3), .val (.long p4), .second, .val (.int v6_9), .val (.int v7_23), .unset, .unset, .unset, .unset, .unset, .unset, .unset, .unset, .unset, .unset, .unset, .unset] [])) _
    refine XS.lload X0.here hx rfl (hb hby at_25) rfl  ?_
    show Steps p.tables e below (s₁.setTop (mkF m 27 #[.val (.int p0), .val (.int p1), .val (.int p2), .val (.int p3), .val (.long p4), .second, .val (.int v6_9), .val (.int v7_23), .unset, .unset, .unset, .unset, .unset, .unset, .unset, .unset, .unset, .unset, .unset, .unset] [(.long p4)])) _
    refine XS.bipush X0.here hx rfl (hb hby at_27) ?_
    show Steps p.tables e below (s₁.setTop (mkF m 29 #[.val (.int p0), .val (.int p1), .val (.int p2), .val (.int p3), .val (.long p4), .second, .val (.int v6_9), .val (.int v7_23), .unset, .unset, .unset, .unset, .unset, .unset, .unset, .unset, .unset, .unset, .unset, .unset] [(.int (20 : Int32)), (.long p4)])) _
    refine XS.lushr X0.here hx rfl (hb hby at_29) rfl ?_
    show Steps p.tables e below (s₁.setTop (mkF m 30 #[.val (.int p0), .val (.int p1), .val (.int p2), .val (.int p3), .val (.long p4), .second, .val (.int v6_9), .val (.int v7_23), .unset, .unset, .unset, .unset, .unset, .unset, .unset, .unset, .unset, .unset, .unset, .unset] [(.long ((p4.toUInt64 >>> ((20 : Int32) &&& 0x3f).toInt64.toUInt64).toInt64))])) _
    refine X0.ldc2Long hx hown (mvT hZ (hw _ (List.mem_of_getElem? (i := 0) rfl))) (g := (mkF m 30 #[.val (.int p0), .val (.int p1), .val (.int p2), .val (.int p3), .val (.long p4), .second, .val (.int v6_9), .val (.int v7_23), .unset, .unset, .unset, .unset, .unset, .unset, .unset, .unset, .unset, .unset, .unset, .unset] [(.long ((p4.toUInt64 >>> ((20 : Int32) &&& 0x3f).toInt64.toUInt64).toInt64))])) rfl (hb hby at_30) _ ?_
    show Steps p.tables e below (s₁.setTop (mkF m 33 #[.val (.int p0), .val (.int p1), .val (.int p2), .val (.int p3), .val (.long p4), .second, .val (.int v6_9), .val (.int v7_23), .unset, .unset, .unset, .unset, .unset, .unset, .unset, .unset, .unset, .unset, .unset, .unset] [(.long (1023 : Int64)), (.long ((p4.toUInt64 >>> ((20 : Int32) &&& 0x3f).toInt64.toUInt64).toInt64))])) _
    refine XS.land X0.here hx rfl (hb hby at_33) rfl ?_
    show Steps p.tables e below (s₁.setTop (mkF m 34 #[.val (.int p0), .val (.int p1), .val (.int p2), .val (.int p3), .val (.long p4), .second, .val (.int v6_9), .val (.int v7_23), .unset, .unset, .unset, .unset, .unset, .unset, .unset, .unset, .unset, .unset, .unset, .unset] [(.long (((p4.toUInt64 >>> ((20 : Int32) &&& 0x3f).toInt64.toUInt64).toInt64) &&& (1023 : Int64)))])) _
    refine XS.l2i X0.here hx rfl (hb hby at_34) rfl ?_
    show Steps p.tables e below (s₁.setTop (mkF m 35 #[.val (.int p0), .val (.int p1), .val (.int p2), .val (.int p3), .val (.long p4), .second, .val (.int v6_9), .val (.int v7_23), .unset, .unset, .unset, .unset, .unset, .unset, .unset, .unset, .unset, .unset, .unset, .unset] [(.int ((((p4.toUInt64 >>> ((20 : Int32) &&& 0x3f).toInt64.toUInt64).toInt64) &&& (1023 : Int64)).toInt32))])) _
    refine XS.iconst X0.here hx rfl (hb hby at_35) ?_
    show Steps p.tables e below (s₁.setTop (mkF m 36 #[.val (.int p0), .val (.int p1), .val (.int p2), .val (.int p3), .val (.long p4), .second, .val (.int v6_9), .val (.int v7_23), .unset, .unset, .unset, .unset, .unset, .unset, .unset, .unset, .unset, .unset, .unset, .unset] [(.int (1 : Int32)), (.int ((((p4.toUInt64 >>> ((20 : Int32) &&& 0x3f).toInt64.toUInt64).toInt64) &&& (1023 : Int64)).toInt32))])) _
    refine XS.iadd X0.here hx rfl (hb hby at_36) rfl ?_
    show Steps p.tables e below (s₁.setTop (mkF m 37 #[.val (.int p0), .val (.int p1), .val (.int p2), .val (.int p3), .val (.long p4), .second, .val (.int v6_9), .val (.int v7_23), .unset, .unset, .unset, .unset, .unset, .unset, .unset, .unset, .unset, .unset, .unset, .unset] [(.int (((((p4.toUInt64 >>> ((20 : Int32) &&& 0x3f).toInt64.toUInt64).toInt64) &&& (1023 : Int64)).toInt32) + (1 : Int32)))])) _
    refine XS.istore X0.here hx rfl (hb hby at_37) rfl (l' := #[.val (.int p0), .val (.int p1), .val (.int p2), .val (.int p3), .val (.long p4), .second, .val (.int v6_9), .val (.int v7_23), .val (.int v8_37), .unset, .unset, .unset, .unset, .unset, .unset, .unset, .unset, .unset, .unset, .unset]) (by rw [hv8_37]; rfl) ?_
    show Steps p.tables e below (s₁.setTop (mkF m 39 #[.val (.int p0), .val (.int p1), .val (.int p2), .val (.int p3), .val (.long p4), .second, .val (.int v6_9), .val (.int v7_23), .val (.int v8_37), .unset, .unset, .unset, .unset, .unset, .unset, .unset, .unset, .unset, .unset, .unset] [])) _
    refine XS.iloadN X0.here hx rfl (hb hby at_39) rfl  ?_
    show Steps p.tables e below (s₁.setTop (mkF m 40 #[.val (.int p0), .val (.int p1), .val (.int p2), .val (.int p3), .val (.long p4), .second, .val (.int v6_9), .val (.int v7_23), .val (.int v8_37), .unset, .unset, .unset, .unset, .unset, .unset, .unset, .unset, .unset, .unset, .unset] [(.int p0)])) _
    refine X0.ldcInt hx hown (mvT hZ (hw _ (List.mem_of_getElem? (i := 1) rfl))) (g := (mkF m 40 #[.val (.int p0), .val (.int p1), .val (.int p2), .val (.int p3), .val (.long p4), .second, .val (.int v6_9), .val (.int v7_23), .val (.int v8_37), .unset, .unset, .unset, .unset, .unset, .unset, .unset, .unset, .unset, .unset, .unset] [(.int p0)])) rfl (hb hby at_40) _ ?_
    show Steps p.tables e below (s₁.setTop (mkF m 42 #[.val (.int p0), .val (.int p1), .val (.int p2), .val (.int p3), .val (.long p4), .second, .val (.int v6_9), .val (.int v7_23), .val (.int v8_37), .unset, .unset, .unset, .unset, .unset, .unset, .unset, .unset, .unset, .unset, .unset] [(.int (2147483647 : Int32)), (.int p0)])) _
    refine XS.iand X0.here hx rfl (hb hby at_42) rfl ?_
    show Steps p.tables e below (s₁.setTop (mkF m 43 #[.val (.int p0), .val (.int p1), .val (.int p2), .val (.int p3), .val (.long p4), .second, .val (.int v6_9), .val (.int v7_23), .val (.int v8_37), .unset, .unset, .unset, .unset, .unset, .unset, .unset, .unset, .unset, .unset, .unset] [(.int (p0 &&& (2147483647 : Int32)))])) _
    refine XS.iload X0.here hx rfl (hb hby at_43) rfl  ?_
    show Steps p.tables e below (s₁.setTop (mkF m 45 #[.val (.int p0), .val (.int p1), .val (.int p2), .val (.int p3), .val (.long p4), .second, .val (.int v6_9), .val (.int v7_23), .val (.int v8_37), .unset, .unset, .unset, .unset, .unset, .unset, .unset, .unset, .unset, .unset, .unset] [(.int v6_9), (.int (p0 &&& (2147483647 : Int32)))])) _
    refine iremM X0 hx rfl (hb hby at_45) rfl (by rw [hv6_9]; exact own_n1 _) ?_
    show Steps p.tables e below (s₁.setTop (mkF m 46 #[.val (.int p0), .val (.int p1), .val (.int p2), .val (.int p3), .val (.long p4), .second, .val (.int v6_9), .val (.int v7_23), .val (.int v8_37), .unset, .unset, .unset, .unset, .unset, .unset, .unset, .unset, .unset, .unset, .unset] [(.int ((p0 &&& (2147483647 : Int32)) % v6_9))])) _
    refine XS.istore X0.here hx rfl (hb hby at_46) rfl (l' := #[.val (.int p0), .val (.int p1), .val (.int p2), .val (.int p3), .val (.long p4), .second, .val (.int v6_9), .val (.int v7_23), .val (.int v8_37), .val (.int v9_46), .unset, .unset, .unset, .unset, .unset, .unset, .unset, .unset, .unset, .unset]) (by rw [hv9_46]; rfl) ?_
    show Steps p.tables e below (s₁.setTop (mkF m 48 #[.val (.int p0), .val (.int p1), .val (.int p2), .val (.int p3), .val (.long p4), .second, .val (.int v6_9), .val (.int v7_23), .val (.int v8_37), .val (.int v9_46), .unset, .unset, .unset, .unset, .unset, .unset, .unset, .unset, .unset, .unset] [])) _
    refine XS.iloadN X0.here hx rfl (hb hby at_48) rfl  ?_
    show Steps p.tables e below (s₁.setTop (mkF m 49 #[.val (.int p0), .val (.int p1), .val (.int p2), .val (.int p3), .val (.long p4), .second, .val (.int v6_9), .val (.int v7_23), .val (.int v8_37), .val (.int v9_46), .unset, .unset, .unset, .unset, .unset, .unset, .unset, .unset, .unset, .unset] [(.int p1)])) _
    refine X0.ldcInt hx hown (mvT hZ (hw _ (List.mem_of_getElem? (i := 1) rfl))) (g := (mkF m 49 #[.val (.int p0), .val (.int p1), .val (.int p2), .val (.int p3), .val (.long p4), .second, .val (.int v6_9), .val (.int v7_23), .val (.int v8_37), .val (.int v9_46), .unset, .unset, .unset, .unset, .unset, .unset, .unset, .unset, .unset, .unset] [(.int p1)])) rfl (hb hby at_49) _ ?_
    show Steps p.tables e below (s₁.setTop (mkF m 51 #[.val (.int p0), .val (.int p1), .val (.int p2), .val (.int p3), .val (.long p4), .second, .val (.int v6_9), .val (.int v7_23), .val (.int v8_37), .val (.int v9_46), .unset, .unset, .unset, .unset, .unset, .unset, .unset, .unset, .unset, .unset] [(.int (2147483647 : Int32)), (.int p1)])) _
    refine XS.iand X0.here hx rfl (hb hby at_51) rfl ?_
    show Steps p.tables e below (s₁.setTop (mkF m 52 #[.val (.int p0), .val (.int p1), .val (.int p2), .val (.int p3), .val (.long p4), .second, .val (.int v6_9), .val (.int v7_23), .val (.int v8_37), .val (.int v9_46), .unset, .unset, .unset, .unset, .unset, .unset, .unset, .unset, .unset, .unset] [(.int (p1 &&& (2147483647 : Int32)))])) _
    refine XS.iload X0.here hx rfl (hb hby at_52) rfl  ?_
    show Steps p.tables e below (s₁.setTop (mkF m 54 #[.val (.int p0), .val (.int p1), .val (.int p2), .val (.int p3), .val (.long p4), .second, .val (.int v6_9), .val (.int v7_23), .val (.int v8_37), .val (.int v9_46), .unset, .unset, .unset, .unset, .unset, .unset, .unset, .unset, .unset, .unset] [(.int v7_23), (.int (p1 &&& (2147483647 : Int32)))])) _
    refine iremM X0 hx rfl (hb hby at_54) rfl (by rw [hv7_23]; exact own_n1 _) ?_
    show Steps p.tables e below (s₁.setTop (mkF m 55 #[.val (.int p0), .val (.int p1), .val (.int p2), .val (.int p3), .val (.long p4), .second, .val (.int v6_9), .val (.int v7_23), .val (.int v8_37), .val (.int v9_46), .unset, .unset, .unset, .unset, .unset, .unset, .unset, .unset, .unset, .unset] [(.int ((p1 &&& (2147483647 : Int32)) % v7_23))])) _
    refine XS.istore X0.here hx rfl (hb hby at_55) rfl (l' := #[.val (.int p0), .val (.int p1), .val (.int p2), .val (.int p3), .val (.long p4), .second, .val (.int v6_9), .val (.int v7_23), .val (.int v8_37), .val (.int v9_46), .val (.int v10_55), .unset, .unset, .unset, .unset, .unset, .unset, .unset, .unset, .unset]) (by rw [hv10_55]; rfl) ?_
    show Steps p.tables e below (s₁.setTop (mkF m 57 #[.val (.int p0), .val (.int p1), .val (.int p2), .val (.int p3), .val (.long p4), .second, .val (.int v6_9), .val (.int v7_23), .val (.int v8_37), .val (.int v9_46), .val (.int v10_55), .unset, .unset, .unset, .unset, .unset, .unset, .unset, .unset, .unset] [])) _
    refine XS.iloadN X0.here hx rfl (hb hby at_57) rfl  ?_
    show Steps p.tables e below (s₁.setTop (mkF m 58 #[.val (.int p0), .val (.int p1), .val (.int p2), .val (.int p3), .val (.long p4), .second, .val (.int v6_9), .val (.int v7_23), .val (.int v8_37), .val (.int v9_46), .val (.int v10_55), .unset, .unset, .unset, .unset, .unset, .unset, .unset, .unset, .unset] [(.int p2)])) _
    refine X0.ldcInt hx hown (mvT hZ (hw _ (List.mem_of_getElem? (i := 1) rfl))) (g := (mkF m 58 #[.val (.int p0), .val (.int p1), .val (.int p2), .val (.int p3), .val (.long p4), .second, .val (.int v6_9), .val (.int v7_23), .val (.int v8_37), .val (.int v9_46), .val (.int v10_55), .unset, .unset, .unset, .unset, .unset, .unset, .unset, .unset, .unset] [(.int p2)])) rfl (hb hby at_58) _ ?_
    show Steps p.tables e below (s₁.setTop (mkF m 60 #[.val (.int p0), .val (.int p1), .val (.int p2), .val (.int p3), .val (.long p4), .second, .val (.int v6_9), .val (.int v7_23), .val (.int v8_37), .val (.int v9_46), .val (.int v10_55), .unset, .unset, .unset, .unset, .unset, .unset, .unset, .unset, .unset] [(.int (2147483647 : Int32)), (.int p2)])) _
    refine XS.iand X0.here hx rfl (hb hby at_60) rfl ?_
    show Steps p.tables e below (s₁.setTop (mkF m 61 #[.val (.int p0), .val (.int p1), .val (.int p2), .val (.int p3), .val (.long p4), .second, .val (.int v6_9), .val (.int v7_23), .val (.int v8_37), .val (.int v9_46), .val (.int v10_55), .unset, .unset, .unset, .unset, .unset, .unset, .unset, .unset, .unset] [(.int (p2 &&& (2147483647 : Int32)))])) _
    refine XS.iload X0.here hx rfl (hb hby at_61) rfl  ?_
    show Steps p.tables e below (s₁.setTop (mkF m 63 #[.val (.int p0), .val (.int p1), .val (.int p2), .val (.int p3), .val (.long p4), .second, .val (.int v6_9), .val (.int v7_23), .val (.int v8_37), .val (.int v9_46), .val (.int v10_55), .unset, .unset, .unset, .unset, .unset, .unset, .unset, .unset, .unset] [(.int v8_37), (.int (p2 &&& (2147483647 : Int32)))])) _
    refine iremM X0 hx rfl (hb hby at_63) rfl (by rw [hv8_37]; exact own_n1 _) ?_
    show Steps p.tables e below (s₁.setTop (mkF m 64 #[.val (.int p0), .val (.int p1), .val (.int p2), .val (.int p3), .val (.long p4), .second, .val (.int v6_9), .val (.int v7_23), .val (.int v8_37), .val (.int v9_46), .val (.int v10_55), .unset, .unset, .unset, .unset, .unset, .unset, .unset, .unset, .unset] [(.int ((p2 &&& (2147483647 : Int32)) % v8_37))])) _
    refine XS.istore X0.here hx rfl (hb hby at_64) rfl (l' := #[.val (.int p0), .val (.int p1), .val (.int p2), .val (.int p3), .val (.long p4), .second, .val (.int v6_9), .val (.int v7_23), .val (.int v8_37), .val (.int v9_46), .val (.int v10_55), .val (.int v11_64), .unset, .unset, .unset, .unset, .unset, .unset, .unset, .unset]) (by rw [hv11_64]; rfl) ?_
    show Steps p.tables e below (s₁.setTop (mkF m 66 #[.val (.int p0), .val (.int p1), .val (.int p2), .val (.int p3), .val (.long p4), .second, .val (.int v6_9), .val (.int v7_23), .val (.int v8_37), .val (.int v9_46), .val (.int v10_55), .val (.int v11_64), .unset, .unset, .unset, .unset, .unset, .unset, .unset, .unset] [])) _
    refine XS.iloadN X0.here hx rfl (hb hby at_66) rfl  ?_
    show Steps p.tables e below (s₁.setTop (mkF m 67 #[.val (.int p0), .val (.int p1), .val (.int p2), .val (.int p3), .val (.long p4), .second, .val (.int v6_9), .val (.int v7_23), .val (.int v8_37), .val (.int v9_46), .val (.int v10_55), .val (.int v11_64), .unset, .unset, .unset, .unset, .unset, .unset, .unset, .unset] [(.int p3)])) _
    refine X0.ldcInt hx hown (mvT hZ (hw _ (List.mem_of_getElem? (i := 1) rfl))) (g := (mkF m 67 #[.val (.int p0), .val (.int p1), .val (.int p2), .val (.int p3), .val (.long p4), .second, .val (.int v6_9), .val (.int v7_23), .val (.int v8_37), .val (.int v9_46), .val (.int v10_55), .val (.int v11_64), .unset, .unset, .unset, .unset, .unset, .unset, .unset, .unset] [(.int p3)])) rfl (hb hby at_67) _ ?_
    show Steps p.tables e below (s₁.setTop (mkF m 69 #[.val (.int p0), .val (.int p1), .val (.int p2), .val (.int p3), .val (.long p4), .second, .val (.int v6_9), .val (.int v7_23), .val (.int v8_37), .val (.int v9_46), .val (.int v10_55), .val (.int v11_64), .unset, .unset, .unset, .unset, .unset, .unset, .unset, .unset] [(.int (2147483647 : Int32)), (.int p3)])) _
    refine XS.iand X0.here hx rfl (hb hby at_69) rfl ?_
    show Steps p.tables e below (s₁.setTop (mkF m 70 #[.val (.int p0), .val (.int p1), .val (.int p2), .val (.int p3), .val (.long p4), .second, .val (.int v6_9), .val (.int v7_23), .val (.int v8_37), .val (.int v9_46), .val (.int v10_55), .val (.int v11_64), .unset, .unset, .unset, .unset, .unset, .unset, .unset, .unset] [(.int (p3 &&& (2147483647 : Int32)))])) _
    refine XS.bipush X0.here hx rfl (hb hby at_70) ?_
    show Steps p.tables e below (s₁.setTop (mkF m 72 #[.val (.int p0), .val (.int p1), .val (.int p2), .val (.int p3), .val (.long p4), .second, .val (.int v6_9), .val (.int v7_23), .val (.int v8_37), .val (.int v9_46), .val (.int v10_55), .val (.int v11_64), .unset, .unset, .unset, .unset, .unset, .unset, .unset, .unset] [(.int (26 : Int32)), (.int (p3 &&& (2147483647 : Int32)))])) _
    refine iremM X0 hx rfl (hb hby at_72) rfl (by decide) ?_
    show Steps p.tables e below (s₁.setTop (mkF m 73 #[.val (.int p0), .val (.int p1), .val (.int p2), .val (.int p3), .val (.long p4), .second, .val (.int v6_9), .val (.int v7_23), .val (.int v8_37), .val (.int v9_46), .val (.int v10_55), .val (.int v11_64), .unset, .unset, .unset, .unset, .unset, .unset, .unset, .unset] [(.int ((p3 &&& (2147483647 : Int32)) % (26 : Int32)))])) _
    refine XS.istore X0.here hx rfl (hb hby at_73) rfl (l' := #[.val (.int p0), .val (.int p1), .val (.int p2), .val (.int p3), .val (.long p4), .second, .val (.int v6_9), .val (.int v7_23), .val (.int v8_37), .val (.int v9_46), .val (.int v10_55), .val (.int v11_64), .val (.int v12_73), .unset, .unset, .unset, .unset, .unset, .unset, .unset]) (by rw [hv12_73]; rfl) ?_
    show Steps p.tables e below (s₁.setTop (mkF m 75 #[.val (.int p0), .val (.int p1), .val (.int p2), .val (.int p3), .val (.long p4), .second, .val (.int v6_9), .val (.int v7_23), .val (.int v8_37), .val (.int v9_46), .val (.int v10_55), .val (.int v11_64), .val (.int v12_73), .unset, .unset, .unset, .unset, .unset, .unset, .unset] [])) _
    refine XS.iload X0.here hx rfl (hb hby at_75) rfl  ?_
    show Steps p.tables e below (s₁.setTop (mkF m 77 #[.val (.int p0), .val (.int p1), .val (.int p2), .val (.int p3), .val (.long p4), .second, .val (.int v6_9), .val (.int v7_23), .val (.int v8_37), .val (.int v9_46), .val (.int v10_55), .val (.int v11_64), .val (.int v12_73), .unset, .unset, .unset, .unset, .unset, .unset, .unset] [(.int v12_73)])) _
    refine XS.bipush X0.here hx rfl (hb hby at_77) ?_
    exact k
  obtain ⟨ms0_98, hms0_98⟩ : ∃ z : Int32, z = (if v12_73 < (8 : Int32) then (0 : Int32) else (if v12_73 < (17 : Int32) then (-1 : Int32) else (1 : Int32))) := ⟨_, rfl⟩
  have pre2 : ∀ t, Steps p.tables e below (s₁.setTop (mkF m 98 #[.val (.int p0), .val (.int p1), .val (.int p2), .val (.int p3), .val (.long p4), .second, .val (.int v6_9), .val (.int v7_23), .val (.int v8_37), .val (.int v9_46), .val (.int v10_55), .val (.int v11_64), .val (.int v12_73), .unset, .unset, .unset, .unset, .unset, .unset, .unset] [(.int ms0_98)])) t → Steps p.tables e below (s₁.setTop (entryFrame m #[(.int p0), (.int p1), (.int p2), (.int p3), (.long p4)] maxLocals)) t := by
    intro t k
    refine pre1 t ?_
    by_cases hc79 : v12_73 < (8 : Int32)
    · show Steps p.tables e below (s₁.setTop (mkF m 79 #[.val (.int p0), .val (.int p1), .val (.int p2), .val (.int p3), .val (.long p4), .second, .val (.int v6_9), .val (.int v7_23), .val (.int v8_37), .val (.int v9_46), .val (.int v10_55), .val (.int v11_64), .val (.int v12_73), .unset, .unset, .unset, .unset, .unset, .unset, .unset] [(.int (8 : Int32)), (.int v12_73)])) _
      refine XS.icmpNo X0.here hx rfl (hb hby at_79) rfl (tlt hc79).2.1 ?_
      show Steps p.tables e below (s₁.setTop (mkF m 82 #[.val (.int p0), .val (.int p1), .val (.int p2), .val (.int p3), .val (.long p4), .second, .val (.int v6_9), .val (.int v7_23), .val (.int v8_37), .val (.int v9_46), .val (.int v10_55), .val (.int v11_64), .val (.int v12_73), .unset, .unset, .unset, .unset, .unset, .unset, .unset] [])) _
      refine XS.iconst X0.here hx rfl (hb hby at_82) ?_
      show Steps p.tables e below (s₁.setTop (mkF m 83 #[.val (.int p0), .val (.int p1), .val (.int p2), .val (.int p3), .val (.long p4), .second, .val (.int v6_9), .val (.int v7_23), .val (.int v8_37), .val (.int v9_46), .val (.int v10_55), .val (.int v11_64), .val (.int v12_73), .unset, .unset, .unset, .unset, .unset, .unset, .unset] [(.int (0 : Int32))])) _
      refine XS.goto X0.here hx rfl (pc0 := 83) (pc' := 98) rfl (hb hby at_83) (by decide) (by decide) ?_
      have qms0_98 : ms0_98 = (0 : Int32) := by rw [hms0_98, if_pos hc79]
      rw [qms0_98] at k
      exact k
    · show Steps p.tables e below (s₁.setTop (mkF m 79 #[.val (.int p0), .val (.int p1), .val (.int p2), .val (.int p3), .val (.long p4), .second, .val (.int v6_9), .val (.int v7_23), .val (.int v8_37), .val (.int v9_46), .val (.int v10_55), .val (.int v11_64), .val (.int v12_73), .unset, .unset, .unset, .unset, .unset, .unset, .unset] [(.int (8 : Int32)), (.int v12_73)])) _
      refine XS.icmpYes X0.here hx rfl (pc0 := 79) (pc' := 86) rfl (hb hby at_79) rfl (flt hc79).2.1 (by decide) (by decide) ?_
      show Steps p.tables e below (s₁.setTop (mkF m 86 #[.val (.int p0), .val (.int p1), .val (.int p2), .val (.int p3), .val (.long p4), .second, .val (.int v6_9), .val (.int v7_23), .val (.int v8_37), .val (.int v9_46), .val (.int v10_55), .val (.int v11_64), .val (.int v12_73), .unset, .unset, .unset, .unset, .unset, .unset, .unset] [])) _
      refine XS.iload X0.here hx rfl (hb hby at_86) rfl  ?_
      show Steps p.tables e below (s₁.setTop (mkF m 88 #[.val (.int p0), .val (.int p1), .val (.int p2), .val (.int p3), .val (.long p4), .second, .val (.int v6_9), .val (.int v7_23), .val (.int v8_37), .val (.int v9_46), .val (.int v10_55), .val (.int v11_64), .val (.int v12_73), .unset, .unset, .unset, .unset, .unset, .unset, .unset] [(.int v12_73)])) _
      refine XS.bipush X0.here hx rfl (hb hby at_88) ?_
      by_cases hc90 : v12_73 < (17 : Int32)
      · show Steps p.tables e below (s₁.setTop (mkF m 90 #[.val (.int p0), .val (.int p1), .val (.int p2), .val (.int p3), .val (.long p4), .second, .val (.int v6_9), .val (.int v7_23), .val (.int v8_37), .val (.int v9_46), .val (.int v10_55), .val (.int v11_64), .val (.int v12_73), .unset, .unset, .unset, .unset, .unset, .unset, .unset] [(.int (17 : Int32)), (.int v12_73)])) _
        refine XS.icmpNo X0.here hx rfl (hb hby at_90) rfl (tlt hc90).2.1 ?_
        show Steps p.tables e below (s₁.setTop (mkF m 93 #[.val (.int p0), .val (.int p1), .val (.int p2), .val (.int p3), .val (.long p4), .second, .val (.int v6_9), .val (.int v7_23), .val (.int v8_37), .val (.int v9_46), .val (.int v10_55), .val (.int v11_64), .val (.int v12_73), .unset, .unset, .unset, .unset, .unset, .unset, .unset] [])) _
        refine XS.iconst X0.here hx rfl (hb hby at_93) ?_
        show Steps p.tables e below (s₁.setTop (mkF m 94 #[.val (.int p0), .val (.int p1), .val (.int p2), .val (.int p3), .val (.long p4), .second, .val (.int v6_9), .val (.int v7_23), .val (.int v8_37), .val (.int v9_46), .val (.int v10_55), .val (.int v11_64), .val (.int v12_73), .unset, .unset, .unset, .unset, .unset, .unset, .unset] [(.int (-1 : Int32))])) _
        refine XS.goto X0.here hx rfl (pc0 := 94) (pc' := 98) rfl (hb hby at_94) (by decide) (by decide) ?_
        have qms0_98 : ms0_98 = (-1 : Int32) := by rw [hms0_98, if_neg hc79, if_pos hc90]
        rw [qms0_98] at k
        exact k
      · show Steps p.tables e below (s₁.setTop (mkF m 90 #[.val (.int p0), .val (.int p1), .val (.int p2), .val (.int p3), .val (.long p4), .second, .val (.int v6_9), .val (.int v7_23), .val (.int v8_37), .val (.int v9_46), .val (.int v10_55), .val (.int v11_64), .val (.int v12_73), .unset, .unset, .unset, .unset, .unset, .unset, .unset] [(.int (17 : Int32)), (.int v12_73)])) _
        refine XS.icmpYes X0.here hx rfl (pc0 := 90) (pc' := 97) rfl (hb hby at_90) rfl (flt hc90).2.1 (by decide) (by decide) ?_
        show Steps p.tables e below (s₁.setTop (mkF m 97 #[.val (.int p0), .val (.int p1), .val (.int p2), .val (.int p3), .val (.long p4), .second, .val (.int v6_9), .val (.int v7_23), .val (.int v8_37), .val (.int v9_46), .val (.int v10_55), .val (.int v11_64), .val (.int v12_73), .unset, .unset, .unset, .unset, .unset, .unset, .unset] [])) _
        refine XS.iconst X0.here hx rfl (hb hby at_97) ?_
        have qms0_98 : ms0_98 = (1 : Int32) := by rw [hms0_98, if_neg hc79, if_neg hc90]
        rw [qms0_98] at k
        exact k
  have pre3 : ∀ t, Steps p.tables e below (s₁.setTop (mkF m 104 #[.val (.int p0), .val (.int p1), .val (.int p2), .val (.int p3), .val (.long p4), .second, .val (.int v6_9), .val (.int v7_23), .val (.int v8_37), .val (.int v9_46), .val (.int v10_55), .val (.int v11_64), .val (.int v12_73), .val (.int ms0_98), .unset, .unset, .unset, .unset, .unset, .unset] [(.int (8 : Int32)), (.int v12_73)])) t → Steps p.tables e below (s₁.setTop (entryFrame m #[(.int p0), (.int p1), (.int p2), (.int p3), (.long p4)] maxLocals)) t := by
    intro t k
    refine pre2 t ?_
    show Steps p.tables e below (s₁.setTop (mkF m 98 #[.val (.int p0), .val (.int p1), .val (.int p2), .val (.int p3), .val (.long p4), .second, .val (.int v6_9), .val (.int v7_23), .val (.int v8_37), .val (.int v9_46), .val (.int v10_55), .val (.int v11_64), .val (.int v12_73), .unset, .unset, .unset, .unset, .unset, .unset, .unset] [(.int ms0_98)])) _
    refine XS.istore X0.here hx rfl (hb hby at_98) rfl (l' := #[.val (.int p0), .val (.int p1), .val (.int p2), .val (.int p3), .val (.long p4), .second, .val (.int v6_9), .val (.int v7_23), .val (.int v8_37), .val (.int v9_46), .val (.int v10_55), .val (.int v11_64), .val (.int v12_73), .val (.int ms0_98), .unset, .unset, .unset, .unset, .unset, .unset]) rfl ?_
    show Steps p.tables e below (s₁.setTop (mkF m 100 #[.val (.int p0), .val (.int p1), .val (.int p2), .val (.int p3), .val (.long p4), .second, .val (.int v6_9), .val (.int v7_23), .val (.int v8_37), .val (.int v9_46), .val (.int v10_55), .val (.int v11_64), .val (.int v12_73), .val (.int ms0_98), .unset, .unset, .unset, .unset, .unset, .unset] [])) _
    refine XS.iload X0.here hx rfl (hb hby at_100) rfl  ?_
    show Steps p.tables e below (s₁.setTop (mkF m 102 #[.val (.int p0), .val (.int p1), .val (.int p2), .val (.int p3), .val (.long p4), .second, .val (.int v6_9), .val (.int v7_23), .val (.int v8_37), .val (.int v9_46), .val (.int v10_55), .val (.int v11_64), .val (.int v12_73), .val (.int ms0_98), .unset, .unset, .unset, .unset, .unset, .unset] [(.int v12_73)])) _
    refine XS.bipush X0.here hx rfl (hb hby at_102) ?_
    exact k
  obtain ⟨ms0_145, hms0_145⟩ : ∃ z : Int32, z = (if v12_73 < (8 : Int32) then (if v12_73 < (4 : Int32) then v12_73 else (v12_73 + (1 : Int32))) else (if v12_73 < (17 : Int32) then (v12_73 - (8 : Int32)) else (v12_73 - (17 : Int32)))) := ⟨_, rfl⟩
  have pre4 : ∀ t, Steps p.tables e below (s₁.setTop (mkF m 145 #[.val (.int p0), .val (.int p1), .val (.int p2), .val (.int p3), .val (.long p4), .second, .val (.int v6_9), .val (.int v7_23), .val (.int v8_37), .val (.int v9_46), .val (.int v10_55), .val (.int v11_64), .val (.int v12_73), .val (.int ms0_98), .unset, .unset, .unset, .unset, .unset, .unset] [(.int ms0_145)])) t → Steps p.tables e below (s₁.setTop (entryFrame m #[(.int p0), (.int p1), (.int p2), (.int p3), (.long p4)] maxLocals)) t := by
    intro t k
    refine pre3 t ?_
    by_cases hc104 : v12_73 < (8 : Int32)
    · show Steps p.tables e below (s₁.setTop (mkF m 104 #[.val (.int p0), .val (.int p1), .val (.int p2), .val (.int p3), .val (.long p4), .second, .val (.int v6_9), .val (.int v7_23), .val (.int v8_37), .val (.int v9_46), .val (.int v10_55), .val (.int v11_64), .val (.int v12_73), .val (.int ms0_98), .unset, .unset, .unset, .unset, .unset, .unset] [(.int (8 : Int32)), (.int v12_73)])) _
      refine XS.icmpNo X0.here hx rfl (hb hby at_104) rfl (tlt hc104).2.1 ?_
      show Steps p.tables e below (s₁.setTop (mkF m 107 #[.val (.int p0), .val (.int p1), .val (.int p2), .val (.int p3), .val (.long p4), .second, .val (.int v6_9), .val (.int v7_23), .val (.int v8_37), .val (.int v9_46), .val (.int v10_55), .val (.int v11_64), .val (.int v12_73), .val (.int ms0_98), .unset, .unset, .unset, .unset, .unset, .unset] [])) _
      refine XS.iload X0.here hx rfl (hb hby at_107) rfl  ?_
      show Steps p.tables e below (s₁.setTop (mkF m 109 #[.val (.int p0), .val (.int p1), .val (.int p2), .val (.int p3), .val (.long p4), .second, .val (.int v6_9), .val (.int v7_23), .val (.int v8_37), .val (.int v9_46), .val (.int v10_55), .val (.int v11_64), .val (.int v12_73), .val (.int ms0_98), .unset, .unset, .unset, .unset, .unset, .unset] [(.int v12_73)])) _
      refine XS.iconst X0.here hx rfl (hb hby at_109) ?_
      by_cases hc110 : v12_73 < (4 : Int32)
      · show Steps p.tables e below (s₁.setTop (mkF m 110 #[.val (.int p0), .val (.int p1), .val (.int p2), .val (.int p3), .val (.long p4), .second, .val (.int v6_9), .val (.int v7_23), .val (.int v8_37), .val (.int v9_46), .val (.int v10_55), .val (.int v11_64), .val (.int v12_73), .val (.int ms0_98), .unset, .unset, .unset, .unset, .unset, .unset] [(.int (4 : Int32)), (.int v12_73)])) _
        refine XS.icmpNo X0.here hx rfl (hb hby at_110) rfl (tlt hc110).2.1 ?_
        show Steps p.tables e below (s₁.setTop (mkF m 113 #[.val (.int p0), .val (.int p1), .val (.int p2), .val (.int p3), .val (.long p4), .second, .val (.int v6_9), .val (.int v7_23), .val (.int v8_37), .val (.int v9_46), .val (.int v10_55), .val (.int v11_64), .val (.int v12_73), .val (.int ms0_98), .unset, .unset, .unset, .unset, .unset, .unset] [])) _
        refine XS.iload X0.here hx rfl (hb hby at_113) rfl  ?_
        show Steps p.tables e below (s₁.setTop (mkF m 115 #[.val (.int p0), .val (.int p1), .val (.int p2), .val (.int p3), .val (.long p4), .second, .val (.int v6_9), .val (.int v7_23), .val (.int v8_37), .val (.int v9_46), .val (.int v10_55), .val (.int v11_64), .val (.int v12_73), .val (.int ms0_98), .unset, .unset, .unset, .unset, .unset, .unset] [(.int v12_73)])) _
        refine XS.goto X0.here hx rfl (pc0 := 115) (pc' := 145) rfl (hb hby at_115) (by decide) (by decide) ?_
        have qms0_145 : ms0_145 = v12_73 := by rw [hms0_145, if_pos hc104, if_pos hc110]
        rw [qms0_145] at k
        exact k
      · show Steps p.tables e below (s₁.setTop (mkF m 110 #[.val (.int p0), .val (.int p1), .val (.int p2), .val (.int p3), .val (.long p4), .second, .val (.int v6_9), .val (.int v7_23), .val (.int v8_37), .val (.int v9_46), .val (.int v10_55), .val (.int v11_64), .val (.int v12_73), .val (.int ms0_98), .unset, .unset, .unset, .unset, .unset, .unset] [(.int (4 : Int32)), (.int v12_73)])) _
        refine XS.icmpYes X0.here hx rfl (pc0 := 110) (pc' := 118) rfl (hb hby at_110) rfl (flt hc110).2.1 (by decide) (by decide) ?_
        show Steps p.tables e below (s₁.setTop (mkF m 118 #[.val (.int p0), .val (.int p1), .val (.int p2), .val (.int p3), .val (.long p4), .second, .val (.int v6_9), .val (.int v7_23), .val (.int v8_37), .val (.int v9_46), .val (.int v10_55), .val (.int v11_64), .val (.int v12_73), .val (.int ms0_98), .unset, .unset, .unset, .unset, .unset, .unset] [])) _
        refine XS.iload X0.here hx rfl (hb hby at_118) rfl  ?_
        show Steps p.tables e below (s₁.setTop (mkF m 120 #[.val (.int p0), .val (.int p1), .val (.int p2), .val (.int p3), .val (.long p4), .second, .val (.int v6_9), .val (.int v7_23), .val (.int v8_37), .val (.int v9_46), .val (.int v10_55), .val (.int v11_64), .val (.int v12_73), .val (.int ms0_98), .unset, .unset, .unset, .unset, .unset, .unset] [(.int v12_73)])) _
        refine XS.iconst X0.here hx rfl (hb hby at_120) ?_
        show Steps p.tables e below (s₁.setTop (mkF m 121 #[.val (.int p0), .val (.int p1), .val (.int p2), .val (.int p3), .val (.long p4), .second, .val (.int v6_9), .val (.int v7_23), .val (.int v8_37), .val (.int v9_46), .val (.int v10_55), .val (.int v11_64), .val (.int v12_73), .val (.int ms0_98), .unset, .unset, .unset, .unset, .unset, .unset] [(.int (1 : Int32)), (.int v12_73)])) _
        refine XS.iadd X0.here hx rfl (hb hby at_121) rfl ?_
        show Steps p.tables e below (s₁.setTop (mkF m 122 #[.val (.int p0), .val (.int p1), .val (.int p2), .val (.int p3), .val (.long p4), .second, .val (.int v6_9), .val (.int v7_23), .val (.int v8_37), .val (.int v9_46), .val (.int v10_55), .val (.int v11_64), .val (.int v12_73), .val (.int ms0_98), .unset, .unset, .unset, .unset, .unset, .unset] [(.int (v12_73 + (1 : Int32)))])) _
        refine XS.goto X0.here hx rfl (pc0 := 122) (pc' := 145) rfl (hb hby at_122) (by decide) (by decide) ?_
        have qms0_145 : ms0_145 = (v12_73 + (1 : Int32)) := by rw [hms0_145, if_pos hc104, if_neg hc110]
        rw [qms0_145] at k
        exact k
    · show Steps p.tables e below (s₁.setTop (mkF m 104 #[.val (.int p0), .val (.int p1), .val (.int p2), .val (.int p3), .val (.long p4), .second, .val (.int v6_9), .val (.int v7_23), .val (.int v8_37), .val (.int v9_46), .val (.int v10_55), .val (.int v11_64), .val (.int v12_73), .val (.int ms0_98), .unset, .unset, .unset, .unset, .unset, .unset] [(.int (8 : Int32)), (.int v12_73)])) _
      refine XS.icmpYes X0.here hx rfl (pc0 := 104) (pc' := 125) rfl (hb hby at_104) rfl (flt hc104).2.1 (by decide) (by decide) ?_
      show Steps p.tables e below (s₁.setTop (mkF m 125 #[.val (.int p0), .val (.int p1), .val (.int p2), .val (.int p3), .val (.long p4), .second, .val (.int v6_9), .val (.int v7_23), .val (.int v8_37), .val (.int v9_46), .val (.int v10_55), .val (.int v11_64), .val (.int v12_73), .val (.int ms0_98), .unset, .unset, .unset, .unset, .unset, .unset] [])) _
      refine XS.iload X0.here hx rfl (hb hby at_125) rfl  ?_
      show Steps p.tables e below (s₁.setTop (mkF m 127 #[.val (.int p0), .val (.int p1), .val (.int p2), .val (.int p3), .val (.long p4), .second, .val (.int v6_9), .val (.int v7_23), .val (.int v8_37), .val (.int v9_46), .val (.int v10_55), .val (.int v11_64), .val (.int v12_73), .val (.int ms0_98), .unset, .unset, .unset, .unset, .unset, .unset] [(.int v12_73)])) _
      refine XS.bipush X0.here hx rfl (hb hby at_127) ?_
      by_cases hc129 : v12_73 < (17 : Int32)
      · show Steps p.tables e below (s₁.setTop (mkF m 129 #[.val (.int p0), .val (.int p1), .val (.int p2), .val (.int p3), .val (.long p4), .second, .val (.int v6_9), .val (.int v7_23), .val (.int v8_37), .val (.int v9_46), .val (.int v10_55), .val (.int v11_64), .val (.int v12_73), .val (.int ms0_98), .unset, .unset, .unset, .unset, .unset, .unset] [(.int (17 : Int32)), (.int v12_73)])) _
        refine XS.icmpNo X0.here hx rfl (hb hby at_129) rfl (tlt hc129).2.1 ?_
        show Steps p.tables e below (s₁.setTop (mkF m 132 #[.val (.int p0), .val (.int p1), .val (.int p2), .val (.int p3), .val (.long p4), .second, .val (.int v6_9), .val (.int v7_23), .val (.int v8_37), .val (.int v9_46), .val (.int v10_55), .val (.int v11_64), .val (.int v12_73), .val (.int ms0_98), .unset, .unset, .unset, .unset, .unset, .unset] [])) _
        refine XS.iload X0.here hx rfl (hb hby at_132) rfl  ?_
        show Steps p.tables e below (s₁.setTop (mkF m 134 #[.val (.int p0), .val (.int p1), .val (.int p2), .val (.int p3), .val (.long p4), .second, .val (.int v6_9), .val (.int v7_23), .val (.int v8_37), .val (.int v9_46), .val (.int v10_55), .val (.int v11_64), .val (.int v12_73), .val (.int ms0_98), .unset, .unset, .unset, .unset, .unset, .unset] [(.int v12_73)])) _
        refine XS.bipush X0.here hx rfl (hb hby at_134) ?_
        show Steps p.tables e below (s₁.setTop (mkF m 136 #[.val (.int p0), .val (.int p1), .val (.int p2), .val (.int p3), .val (.long p4), .second, .val (.int v6_9), .val (.int v7_23), .val (.int v8_37), .val (.int v9_46), .val (.int v10_55), .val (.int v11_64), .val (.int v12_73), .val (.int ms0_98), .unset, .unset, .unset, .unset, .unset, .unset] [(.int (8 : Int32)), (.int v12_73)])) _
        refine XS.isub X0.here hx rfl (hb hby at_136) rfl ?_
        show Steps p.tables e below (s₁.setTop (mkF m 137 #[.val (.int p0), .val (.int p1), .val (.int p2), .val (.int p3), .val (.long p4), .second, .val (.int v6_9), .val (.int v7_23), .val (.int v8_37), .val (.int v9_46), .val (.int v10_55), .val (.int v11_64), .val (.int v12_73), .val (.int ms0_98), .unset, .unset, .unset, .unset, .unset, .unset] [(.int (v12_73 - (8 : Int32)))])) _
        refine XS.goto X0.here hx rfl (pc0 := 137) (pc' := 145) rfl (hb hby at_137) (by decide) (by decide) ?_
        have qms0_145 : ms0_145 = (v12_73 - (8 : Int32)) := by rw [hms0_145, if_neg hc104, if_pos hc129]
        rw [qms0_145] at k
        exact k
      · show Steps p.tables e below (s₁.setTop (mkF m 129 #[.val (.int p0), .val (.int p1), .val (.int p2), .val (.int p3), .val (.long p4), .second, .val (.int v6_9), .val (.int v7_23), .val (.int v8_37), .val (.int v9_46), .val (.int v10_55), .val (.int v11_64), .val (.int v12_73), .val (.int ms0_98), .unset, .unset, .unset, .unset, .unset, .unset] [(.int (17 : Int32)), (.int v12_73)])) _
        refine XS.icmpYes X0.here hx rfl (pc0 := 129) (pc' := 140) rfl (hb hby at_129) rfl (flt hc129).2.1 (by decide) (by decide) ?_
        show Steps p.tables e below (s₁.setTop (mkF m 140 #[.val (.int p0), .val (.int p1), .val (.int p2), .val (.int p3), .val (.long p4), .second, .val (.int v6_9), .val (.int v7_23), .val (.int v8_37), .val (.int v9_46), .val (.int v10_55), .val (.int v11_64), .val (.int v12_73), .val (.int ms0_98), .unset, .unset, .unset, .unset, .unset, .unset] [])) _
        refine XS.iload X0.here hx rfl (hb hby at_140) rfl  ?_
        show Steps p.tables e below (s₁.setTop (mkF m 142 #[.val (.int p0), .val (.int p1), .val (.int p2), .val (.int p3), .val (.long p4), .second, .val (.int v6_9), .val (.int v7_23), .val (.int v8_37), .val (.int v9_46), .val (.int v10_55), .val (.int v11_64), .val (.int v12_73), .val (.int ms0_98), .unset, .unset, .unset, .unset, .unset, .unset] [(.int v12_73)])) _
        refine XS.bipush X0.here hx rfl (hb hby at_142) ?_
        show Steps p.tables e below (s₁.setTop (mkF m 144 #[.val (.int p0), .val (.int p1), .val (.int p2), .val (.int p3), .val (.long p4), .second, .val (.int v6_9), .val (.int v7_23), .val (.int v8_37), .val (.int v9_46), .val (.int v10_55), .val (.int v11_64), .val (.int v12_73), .val (.int ms0_98), .unset, .unset, .unset, .unset, .unset, .unset] [(.int (17 : Int32)), (.int v12_73)])) _
        refine XS.isub X0.here hx rfl (hb hby at_144) rfl ?_
        have qms0_145 : ms0_145 = (v12_73 - (17 : Int32)) := by rw [hms0_145, if_neg hc104, if_neg hc129]
        rw [qms0_145] at k
        exact k
  obtain ⟨v15_153, hv15_153⟩ : ∃ z : Int32, z = ((ms0_145 % (3 : Int32)) - (1 : Int32)) := ⟨_, rfl⟩
  obtain ⟨v16_161, hv16_161⟩ : ∃ z : Int32, z = ((ms0_145 / (3 : Int32)) - (1 : Int32)) := ⟨_, rfl⟩
  have pre5 : ∀ t, Steps p.tables e below (s₁.setTop (mkF m 168 #[.val (.int p0), .val (.int p1), .val (.int p2), .val (.int p3), .val (.long p4), .second, .val (.int v6_9), .val (.int v7_23), .val (.int v8_37), .val (.int v9_46), .val (.int v10_55), .val (.int v11_64), .val (.int v12_73), .val (.int ms0_98), .val (.int ms0_145), .val (.int v15_153), .val (.int v16_161), .unset, .unset, .unset] [(.int (v9_46 + v15_153))])) t → Steps p.tables e below (s₁.setTop (entryFrame m #[(.int p0), (.int p1), (.int p2), (.int p3), (.long p4)] maxLocals)) t := by
    intro t k
    refine pre4 t ?_
    show Steps p.tables e below (s₁.setTop (mkF m 145 #[.val (.int p0), .val (.int p1), .val (.int p2), .val (.int p3), .val (.long p4), .second, .val (.int v6_9), .val (.int v7_23), .val (.int v8_37), .val (.int v9_46), .val (.int v10_55), .val (.int v11_64), .val (.int v12_73), .val (.int ms0_98), .unset, .unset, .unset, .unset, .unset, .unset] [(.int ms0_145)])) _
    refine XS.istore X0.here hx rfl (hb hby at_145) rfl (l' := #[.val (.int p0), .val (.int p1), .val (.int p2), .val (.int p3), .val (.long p4), .second, .val (.int v6_9), .val (.int v7_23), .val (.int v8_37), .val (.int v9_46), .val (.int v10_55), .val (.int v11_64), .val (.int v12_73), .val (.int ms0_98), .val (.int ms0_145), .unset, .unset, .unset, .unset, .unset]) rfl ?_
    show Steps p.tables e below (s₁.setTop (mkF m 147 #[.val (.int p0), .val (.int p1), .val (.int p2), .val (.int p3), .val (.long p4), .second, .val (.int v6_9), .val (.int v7_23), .val (.int v8_37), .val (.int v9_46), .val (.int v10_55), .val (.int v11_64), .val (.int v12_73), .val (.int ms0_98), .val (.int ms0_145), .unset, .unset, .unset, .unset, .unset] [])) _
    refine XS.iload X0.here hx rfl (hb hby at_147) rfl  ?_
    show Steps p.tables e below (s₁.setTop (mkF m 149 #[.val (.int p0), .val (.int p1), .val (.int p2), .val (.int p3), .val (.long p4), .second, .val (.int v6_9), .val (.int v7_23), .val (.int v8_37), .val (.int v9_46), .val (.int v10_55), .val (.int v11_64), .val (.int v12_73), .val (.int ms0_98), .val (.int ms0_145), .unset, .unset, .unset, .unset, .unset] [(.int ms0_145)])) _
    refine XS.iconst X0.here hx rfl (hb hby at_149) ?_
    show Steps p.tables e below (s₁.setTop (mkF m 150 #[.val (.int p0), .val (.int p1), .val (.int p2), .val (.int p3), .val (.long p4), .second, .val (.int v6_9), .val (.int v7_23), .val (.int v8_37), .val (.int v9_46), .val (.int v10_55), .val (.int v11_64), .val (.int v12_73), .val (.int ms0_98), .val (.int ms0_145), .unset, .unset, .unset, .unset, .unset] [(.int (3 : Int32)), (.int ms0_145)])) _
    refine iremM X0 hx rfl (hb hby at_150) rfl (by decide) ?_
    show Steps p.tables e below (s₁.setTop (mkF m 151 #[.val (.int p0), .val (.int p1), .val (.int p2), .val (.int p3), .val (.long p4), .second, .val (.int v6_9), .val (.int v7_23), .val (.int v8_37), .val (.int v9_46), .val (.int v10_55), .val (.int v11_64), .val (.int v12_73), .val (.int ms0_98), .val (.int ms0_145), .unset, .unset, .unset, .unset, .unset] [(.int (ms0_145 % (3 : Int32)))])) _
    refine XS.iconst X0.here hx rfl (hb hby at_151) ?_
    show Steps p.tables e below (s₁.setTop (mkF m 152 #[.val (.int p0), .val (.int p1), .val (.int p2), .val (.int p3), .val (.long p4), .second, .val (.int v6_9), .val (.int v7_23), .val (.int v8_37), .val (.int v9_46), .val (.int v10_55), .val (.int v11_64), .val (.int v12_73), .val (.int ms0_98), .val (.int ms0_145), .unset, .unset, .unset, .unset, .unset] [(.int (1 : Int32)), (.int (ms0_145 % (3 : Int32)))])) _
    refine XS.isub X0.here hx rfl (hb hby at_152) rfl ?_
    show Steps p.tables e below (s₁.setTop (mkF m 153 #[.val (.int p0), .val (.int p1), .val (.int p2), .val (.int p3), .val (.long p4), .second, .val (.int v6_9), .val (.int v7_23), .val (.int v8_37), .val (.int v9_46), .val (.int v10_55), .val (.int v11_64), .val (.int v12_73), .val (.int ms0_98), .val (.int ms0_145), .unset, .unset, .unset, .unset, .unset] [(.int ((ms0_145 % (3 : Int32)) - (1 : Int32)))])) _
    refine XS.istore X0.here hx rfl (hb hby at_153) rfl (l' := #[.val (.int p0), .val (.int p1), .val (.int p2), .val (.int p3), .val (.long p4), .second, .val (.int v6_9), .val (.int v7_23), .val (.int v8_37), .val (.int v9_46), .val (.int v10_55), .val (.int v11_64), .val (.int v12_73), .val (.int ms0_98), .val (.int ms0_145), .val (.int v15_153), .unset, .unset, .unset, .unset]) (by rw [hv15_153]; rfl) ?_
    show Steps p.tables e below (s₁.setTop (mkF m 155 #[.val (.int p0), .val (.int p1), .val (.int p2), .val (.int p3), .val (.long p4), .second, .val (.int v6_9), .val (.int v7_23), .val (.int v8_37), .val (.int v9_46), .val (.int v10_55), .val (.int v11_64), .val (.int v12_73), .val (.int ms0_98), .val (.int ms0_145), .val (.int v15_153), .unset, .unset, .unset, .unset] [])) _
    refine XS.iload X0.here hx rfl (hb hby at_155) rfl  ?_
    show Steps p.tables e below (s₁.setTop (mkF m 157 #[.val (.int p0), .val (.int p1), .val (.int p2), .val (.int p3), .val (.long p4), .second, .val (.int v6_9), .val (.int v7_23), .val (.int v8_37), .val (.int v9_46), .val (.int v10_55), .val (.int v11_64), .val (.int v12_73), .val (.int ms0_98), .val (.int ms0_145), .val (.int v15_153), .unset, .unset, .unset, .unset] [(.int ms0_145)])) _
    refine XS.iconst X0.here hx rfl (hb hby at_157) ?_
    show Steps p.tables e below (s₁.setTop (mkF m 158 #[.val (.int p0), .val (.int p1), .val (.int p2), .val (.int p3), .val (.long p4), .second, .val (.int v6_9), .val (.int v7_23), .val (.int v8_37), .val (.int v9_46), .val (.int v10_55), .val (.int v11_64), .val (.int v12_73), .val (.int ms0_98), .val (.int ms0_145), .val (.int v15_153), .unset, .unset, .unset, .unset] [(.int (3 : Int32)), (.int ms0_145)])) _
    refine XS.idiv X0.here hx rfl (hb hby at_158) rfl (by decide) ?_
    show Steps p.tables e below (s₁.setTop (mkF m 159 #[.val (.int p0), .val (.int p1), .val (.int p2), .val (.int p3), .val (.long p4), .second, .val (.int v6_9), .val (.int v7_23), .val (.int v8_37), .val (.int v9_46), .val (.int v10_55), .val (.int v11_64), .val (.int v12_73), .val (.int ms0_98), .val (.int ms0_145), .val (.int v15_153), .unset, .unset, .unset, .unset] [(.int (ms0_145 / (3 : Int32)))])) _
    refine XS.iconst X0.here hx rfl (hb hby at_159) ?_
    show Steps p.tables e below (s₁.setTop (mkF m 160 #[.val (.int p0), .val (.int p1), .val (.int p2), .val (.int p3), .val (.long p4), .second, .val (.int v6_9), .val (.int v7_23), .val (.int v8_37), .val (.int v9_46), .val (.int v10_55), .val (.int v11_64), .val (.int v12_73), .val (.int ms0_98), .val (.int ms0_145), .val (.int v15_153), .unset, .unset, .unset, .unset] [(.int (1 : Int32)), (.int (ms0_145 / (3 : Int32)))])) _
    refine XS.isub X0.here hx rfl (hb hby at_160) rfl ?_
    show Steps p.tables e below (s₁.setTop (mkF m 161 #[.val (.int p0), .val (.int p1), .val (.int p2), .val (.int p3), .val (.long p4), .second, .val (.int v6_9), .val (.int v7_23), .val (.int v8_37), .val (.int v9_46), .val (.int v10_55), .val (.int v11_64), .val (.int v12_73), .val (.int ms0_98), .val (.int ms0_145), .val (.int v15_153), .unset, .unset, .unset, .unset] [(.int ((ms0_145 / (3 : Int32)) - (1 : Int32)))])) _
    refine XS.istore X0.here hx rfl (hb hby at_161) rfl (l' := #[.val (.int p0), .val (.int p1), .val (.int p2), .val (.int p3), .val (.long p4), .second, .val (.int v6_9), .val (.int v7_23), .val (.int v8_37), .val (.int v9_46), .val (.int v10_55), .val (.int v11_64), .val (.int v12_73), .val (.int ms0_98), .val (.int ms0_145), .val (.int v15_153), .val (.int v16_161), .unset, .unset, .unset]) (by rw [hv16_161]; rfl) ?_
    show Steps p.tables e below (s₁.setTop (mkF m 163 #[.val (.int p0), .val (.int p1), .val (.int p2), .val (.int p3), .val (.long p4), .second, .val (.int v6_9), .val (.int v7_23), .val (.int v8_37), .val (.int v9_46), .val (.int v10_55), .val (.int v11_64), .val (.int v12_73), .val (.int ms0_98), .val (.int ms0_145), .val (.int v15_153), .val (.int v16_161), .unset, .unset, .unset] [])) _
    refine XS.iload X0.here hx rfl (hb hby at_163) rfl  ?_
    show Steps p.tables e below (s₁.setTop (mkF m 165 #[.val (.int p0), .val (.int p1), .val (.int p2), .val (.int p3), .val (.long p4), .second, .val (.int v6_9), .val (.int v7_23), .val (.int v8_37), .val (.int v9_46), .val (.int v10_55), .val (.int v11_64), .val (.int v12_73), .val (.int ms0_98), .val (.int ms0_145), .val (.int v15_153), .val (.int v16_161), .unset, .unset, .unset] [(.int v9_46)])) _
    refine XS.iload X0.here hx rfl (hb hby at_165) rfl  ?_
    show Steps p.tables e below (s₁.setTop (mkF m 167 #[.val (.int p0), .val (.int p1), .val (.int p2), .val (.int p3), .val (.long p4), .second, .val (.int v6_9), .val (.int v7_23), .val (.int v8_37), .val (.int v9_46), .val (.int v10_55), .val (.int v11_64), .val (.int v12_73), .val (.int ms0_98), .val (.int ms0_145), .val (.int v15_153), .val (.int v16_161), .unset, .unset, .unset] [(.int v15_153), (.int v9_46)])) _
    refine XS.iadd X0.here hx rfl (hb hby at_167) rfl ?_
    exact k
  obtain ⟨ms0_222, hms0_222⟩ : ∃ z : Int32, z = (if (v9_46 + v15_153) < (0 : Int32) then (0 : Int32) else (if (v9_46 + v15_153) < v6_9 then (if (v10_55 + v16_161) < (0 : Int32) then (0 : Int32) else (if (v10_55 + v16_161) < v7_23 then (if (v11_64 + ms0_98) < (0 : Int32) then (0 : Int32) else (if (v11_64 + ms0_98) < v8_37 then (1 : Int32) else (0 : Int32))) else (0 : Int32))) else (0 : Int32))) := ⟨_, rfl⟩
  have pre6 : ∀ t, Steps p.tables e below (s₁.setTop (mkF m 222 #[.val (.int p0), .val (.int p1), .val (.int p2), .val (.int p3), .val (.long p4), .second, .val (.int v6_9), .val (.int v7_23), .val (.int v8_37), .val (.int v9_46), .val (.int v10_55), .val (.int v11_64), .val (.int v12_73), .val (.int ms0_98), .val (.int ms0_145), .val (.int v15_153), .val (.int v16_161), .unset, .unset, .unset] [(.int ms0_222)])) t → Steps p.tables e below (s₁.setTop (entryFrame m #[(.int p0), (.int p1), (.int p2), (.int p3), (.long p4)] maxLocals)) t := by
    intro t k
    refine pre5 t ?_
    by_cases hc168 : (v9_46 + v15_153) < (0 : Int32)
    · show Steps p.tables e below (s₁.setTop (mkF m 168 #[.val (.int p0), .val (.int p1), .val (.int p2), .val (.int p3), .val (.long p4), .second, .val (.int v6_9), .val (.int v7_23), .val (.int v8_37), .val (.int v9_46), .val (.int v10_55), .val (.int v11_64), .val (.int v12_73), .val (.int ms0_98), .val (.int ms0_145), .val (.int v15_153), .val (.int v16_161), .unset, .unset, .unset] [(.int (v9_46 + v15_153))])) _
      refine XS.ifYes X0.here hx rfl (pc0 := 168) (pc' := 221) rfl (hb hby at_168) rfl ((if0 _ _).trans (tlt hc168).1) (by decide) (by decide) ?_
      show Steps p.tables e below (s₁.setTop (mkF m 221 #[.val (.int p0), .val (.int p1), .val (.int p2), .val (.int p3), .val (.long p4), .second, .val (.int v6_9), .val (.int v7_23), .val (.int v8_37), .val (.int v9_46), .val (.int v10_55), .val (.int v11_64), .val (.int v12_73), .val (.int ms0_98), .val (.int ms0_145), .val (.int v15_153), .val (.int v16_161), .unset, .unset, .unset] [])) _
      refine XS.iconst X0.here hx rfl (hb hby at_221) ?_
      have qms0_222 : ms0_222 = (0 : Int32) := by rw [hms0_222, if_pos hc168]
      rw [qms0_222] at k
      exact k
    · show Steps p.tables e below (s₁.setTop (mkF m 168 #[.val (.int p0), .val (.int p1), .val (.int p2), .val (.int p3), .val (.long p4), .second, .val (.int v6_9), .val (.int v7_23), .val (.int v8_37), .val (.int v9_46), .val (.int v10_55), .val (.int v11_64), .val (.int v12_73), .val (.int ms0_98), .val (.int ms0_145), .val (.int v15_153), .val (.int v16_161), .unset, .unset, .unset] [(.int (v9_46 + v15_153))])) _
      refine XS.ifNo X0.here hx rfl (hb hby at_168) rfl ((if0 _ _).trans (flt hc168).1) ?_
      show Steps p.tables e below (s₁.setTop (mkF m 171 #[.val (.int p0), .val (.int p1), .val (.int p2), .val (.int p3), .val (.long p4), .second, .val (.int v6_9), .val (.int v7_23), .val (.int v8_37), .val (.int v9_46), .val (.int v10_55), .val (.int v11_64), .val (.int v12_73), .val (.int ms0_98), .val (.int ms0_145), .val (.int v15_153), .val (.int v16_161), .unset, .unset, .unset] [])) _
      refine XS.iload X0.here hx rfl (hb hby at_171) rfl  ?_
      show Steps p.tables e below (s₁.setTop (mkF m 173 #[.val (.int p0), .val (.int p1), .val (.int p2), .val (.int p3), .val (.long p4), .second, .val (.int v6_9), .val (.int v7_23), .val (.int v8_37), .val (.int v9_46), .val (.int v10_55), .val (.int v11_64), .val (.int v12_73), .val (.int ms0_98), .val (.int ms0_145), .val (.int v15_153), .val (.int v16_161), .unset, .unset, .unset] [(.int v9_46)])) _
      refine XS.iload X0.here hx rfl (hb hby at_173) rfl  ?_
      show Steps p.tables e below (s₁.setTop (mkF m 175 #[.val (.int p0), .val (.int p1), .val (.int p2), .val (.int p3), .val (.long p4), .second, .val (.int v6_9), .val (.int v7_23), .val (.int v8_37), .val (.int v9_46), .val (.int v10_55), .val (.int v11_64), .val (.int v12_73), .val (.int ms0_98), .val (.int ms0_145), .val (.int v15_153), .val (.int v16_161), .unset, .unset, .unset] [(.int v15_153), (.int v9_46)])) _
      refine XS.iadd X0.here hx rfl (hb hby at_175) rfl ?_
      show Steps p.tables e below (s₁.setTop (mkF m 176 #[.val (.int p0), .val (.int p1), .val (.int p2), .val (.int p3), .val (.long p4), .second, .val (.int v6_9), .val (.int v7_23), .val (.int v8_37), .val (.int v9_46), .val (.int v10_55), .val (.int v11_64), .val (.int v12_73), .val (.int ms0_98), .val (.int ms0_145), .val (.int v15_153), .val (.int v16_161), .unset, .unset, .unset] [(.int (v9_46 + v15_153))])) _
      refine XS.iload X0.here hx rfl (hb hby at_176) rfl  ?_
      by_cases hc178 : (v9_46 + v15_153) < v6_9
      · show Steps p.tables e below (s₁.setTop (mkF m 178 #[.val (.int p0), .val (.int p1), .val (.int p2), .val (.int p3), .val (.long p4), .second, .val (.int v6_9), .val (.int v7_23), .val (.int v8_37), .val (.int v9_46), .val (.int v10_55), .val (.int v11_64), .val (.int v12_73), .val (.int ms0_98), .val (.int ms0_145), .val (.int v15_153), .val (.int v16_161), .unset, .unset, .unset] [(.int v6_9), (.int (v9_46 + v15_153))])) _
        refine XS.icmpNo X0.here hx rfl (hb hby at_178) rfl (tlt hc178).2.1 ?_
        show Steps p.tables e below (s₁.setTop (mkF m 181 #[.val (.int p0), .val (.int p1), .val (.int p2), .val (.int p3), .val (.long p4), .second, .val (.int v6_9), .val (.int v7_23), .val (.int v8_37), .val (.int v9_46), .val (.int v10_55), .val (.int v11_64), .val (.int v12_73), .val (.int ms0_98), .val (.int ms0_145), .val (.int v15_153), .val (.int v16_161), .unset, .unset, .unset] [])) _
        refine XS.iload X0.here hx rfl (hb hby at_181) rfl  ?_
        show Steps p.tables e below (s₁.setTop (mkF m 183 #[.val (.int p0), .val (.int p1), .val (.int p2), .val (.int p3), .val (.long p4), .second, .val (.int v6_9), .val (.int v7_23), .val (.int v8_37), .val (.int v9_46), .val (.int v10_55), .val (.int v11_64), .val (.int v12_73), .val (.int ms0_98), .val (.int ms0_145), .val (.int v15_153), .val (.int v16_161), .unset, .unset, .unset] [(.int v10_55)])) _
        refine XS.iload X0.here hx rfl (hb hby at_183) rfl  ?_
        show Steps p.tables e below (s₁.setTop (mkF m 185 #[.val (.int p0), .val (.int p1), .val (.int p2), .val (.int p3), .val (.long p4), .second, .val (.int v6_9), .val (.int v7_23), .val (.int v8_37), .val (.int v9_46), .val (.int v10_55), .val (.int v11_64), .val (.int v12_73), .val (.int ms0_98), .val (.int ms0_145), .val (.int v15_153), .val (.int v16_161), .unset, .unset, .unset] [(.int v16_161), (.int v10_55)])) _
        refine XS.iadd X0.here hx rfl (hb hby at_185) rfl ?_
        by_cases hc186 : (v10_55 + v16_161) < (0 : Int32)
        · show Steps p.tables e below (s₁.setTop (mkF m 186 #[.val (.int p0), .val (.int p1), .val (.int p2), .val (.int p3), .val (.long p4), .second, .val (.int v6_9), .val (.int v7_23), .val (.int v8_37), .val (.int v9_46), .val (.int v10_55), .val (.int v11_64), .val (.int v12_73), .val (.int ms0_98), .val (.int ms0_145), .val (.int v15_153), .val (.int v16_161), .unset, .unset, .unset] [(.int (v10_55 + v16_161))])) _
          refine XS.ifYes X0.here hx rfl (pc0 := 186) (pc' := 221) rfl (hb hby at_186) rfl ((if0 _ _).trans (tlt hc186).1) (by decide) (by decide) ?_
          show Steps p.tables e below (s₁.setTop (mkF m 221 #[.val (.int p0), .val (.int p1), .val (.int p2), .val (.int p3), .val (.long p4), .second, .val (.int v6_9), .val (.int v7_23), .val (.int v8_37), .val (.int v9_46), .val (.int v10_55), .val (.int v11_64), .val (.int v12_73), .val (.int ms0_98), .val (.int ms0_145), .val (.int v15_153), .val (.int v16_161), .unset, .unset, .unset] [])) _
          refine XS.iconst X0.here hx rfl (hb hby at_221) ?_
          have qms0_222 : ms0_222 = (0 : Int32) := by rw [hms0_222, if_neg hc168, if_pos hc178, if_pos hc186]
          rw [qms0_222] at k
          exact k
        · show Steps p.tables e below (s₁.setTop (mkF m 186 #[.val (.int p0), .val (.int p1), .val (.int p2), .val (.int p3), .val (.long p4), .second, .val (.int v6_9), .val (.int v7_23), .val (.int v8_37), .val (.int v9_46), .val (.int v10_55), .val (.int v11_64), .val (.int v12_73), .val (.int ms0_98), .val (.int ms0_145), .val (.int v15_153), .val (.int v16_161), .unset, .unset, .unset] [(.int (v10_55 + v16_161))])) _
          refine XS.ifNo X0.here hx rfl (hb hby at_186) rfl ((if0 _ _).trans (flt hc186).1) ?_
          show Steps p.tables e below (s₁.setTop (mkF m 189 #[.val (.int p0), .val (.int p1), .val (.int p2), .val (.int p3), .val (.long p4), .second, .val (.int v6_9), .val (.int v7_23), .val (.int v8_37), .val (.int v9_46), .val (.int v10_55), .val (.int v11_64), .val (.int v12_73), .val (.int ms0_98), .val (.int ms0_145), .val (.int v15_153), .val (.int v16_161), .unset, .unset, .unset] [])) _
          refine XS.iload X0.here hx rfl (hb hby at_189) rfl  ?_
          show Steps p.tables e below (s₁.setTop (mkF m 191 #[.val (.int p0), .val (.int p1), .val (.int p2), .val (.int p3), .val (.long p4), .second, .val (.int v6_9), .val (.int v7_23), .val (.int v8_37), .val (.int v9_46), .val (.int v10_55), .val (.int v11_64), .val (.int v12_73), .val (.int ms0_98), .val (.int ms0_145), .val (.int v15_153), .val (.int v16_161), .unset, .unset, .unset] [(.int v10_55)])) _
          refine XS.iload X0.here hx rfl (hb hby at_191) rfl  ?_
          show Steps p.tables e below (s₁.setTop (mkF m 193 #[.val (.int p0), .val (.int p1), .val (.int p2), .val (.int p3), .val (.long p4), .second, .val (.int v6_9), .val (.int v7_23), .val (.int v8_37), .val (.int v9_46), .val (.int v10_55), .val (.int v11_64), .val (.int v12_73), .val (.int ms0_98), .val (.int ms0_145), .val (.int v15_153), .val (.int v16_161), .unset, .unset, .unset] [(.int v16_161), (.int v10_55)])) _
          refine XS.iadd X0.here hx rfl (hb hby at_193) rfl ?_
          show Steps p.tables e below (s₁.setTop (mkF m 194 #[.val (.int p0), .val (.int p1), .val (.int p2), .val (.int p3), .val (.long p4), .second, .val (.int v6_9), .val (.int v7_23), .val (.int v8_37), .val (.int v9_46), .val (.int v10_55), .val (.int v11_64), .val (.int v12_73), .val (.int ms0_98), .val (.int ms0_145), .val (.int v15_153), .val (.int v16_161), .unset, .unset, .unset] [(.int (v10_55 + v16_161))])) _
          refine XS.iload X0.here hx rfl (hb hby at_194) rfl  ?_
          by_cases hc196 : (v10_55 + v16_161) < v7_23
          · show Steps p.tables e below (s₁.setTop (mkF m 196 #[.val (.int p0), .val (.int p1), .val (.int p2), .val (.int p3), .val (.long p4), .second, .val (.int v6_9), .val (.int v7_23), .val (.int v8_37), .val (.int v9_46), .val (.int v10_55), .val (.int v11_64), .val (.int v12_73), .val (.int ms0_98), .val (.int ms0_145), .val (.int v15_153), .val (.int v16_161), .unset, .unset, .unset] [(.int v7_23), (.int (v10_55 + v16_161))])) _
            refine XS.icmpNo X0.here hx rfl (hb hby at_196) rfl (tlt hc196).2.1 ?_
            show Steps p.tables e below (s₁.setTop (mkF m 199 #[.val (.int p0), .val (.int p1), .val (.int p2), .val (.int p3), .val (.long p4), .second, .val (.int v6_9), .val (.int v7_23), .val (.int v8_37), .val (.int v9_46), .val (.int v10_55), .val (.int v11_64), .val (.int v12_73), .val (.int ms0_98), .val (.int ms0_145), .val (.int v15_153), .val (.int v16_161), .unset, .unset, .unset] [])) _
            refine XS.iload X0.here hx rfl (hb hby at_199) rfl  ?_
            show Steps p.tables e below (s₁.setTop (mkF m 201 #[.val (.int p0), .val (.int p1), .val (.int p2), .val (.int p3), .val (.long p4), .second, .val (.int v6_9), .val (.int v7_23), .val (.int v8_37), .val (.int v9_46), .val (.int v10_55), .val (.int v11_64), .val (.int v12_73), .val (.int ms0_98), .val (.int ms0_145), .val (.int v15_153), .val (.int v16_161), .unset, .unset, .unset] [(.int v11_64)])) _
            refine XS.iload X0.here hx rfl (hb hby at_201) rfl  ?_
            show Steps p.tables e below (s₁.setTop (mkF m 203 #[.val (.int p0), .val (.int p1), .val (.int p2), .val (.int p3), .val (.long p4), .second, .val (.int v6_9), .val (.int v7_23), .val (.int v8_37), .val (.int v9_46), .val (.int v10_55), .val (.int v11_64), .val (.int v12_73), .val (.int ms0_98), .val (.int ms0_145), .val (.int v15_153), .val (.int v16_161), .unset, .unset, .unset] [(.int ms0_98), (.int v11_64)])) _
            refine XS.iadd X0.here hx rfl (hb hby at_203) rfl ?_
            by_cases hc204 : (v11_64 + ms0_98) < (0 : Int32)
            · show Steps p.tables e below (s₁.setTop (mkF m 204 #[.val (.int p0), .val (.int p1), .val (.int p2), .val (.int p3), .val (.long p4), .second, .val (.int v6_9), .val (.int v7_23), .val (.int v8_37), .val (.int v9_46), .val (.int v10_55), .val (.int v11_64), .val (.int v12_73), .val (.int ms0_98), .val (.int ms0_145), .val (.int v15_153), .val (.int v16_161), .unset, .unset, .unset] [(.int (v11_64 + ms0_98))])) _
              refine XS.ifYes X0.here hx rfl (pc0 := 204) (pc' := 221) rfl (hb hby at_204) rfl ((if0 _ _).trans (tlt hc204).1) (by decide) (by decide) ?_
              show Steps p.tables e below (s₁.setTop (mkF m 221 #[.val (.int p0), .val (.int p1), .val (.int p2), .val (.int p3), .val (.long p4), .second, .val (.int v6_9), .val (.int v7_23), .val (.int v8_37), .val (.int v9_46), .val (.int v10_55), .val (.int v11_64), .val (.int v12_73), .val (.int ms0_98), .val (.int ms0_145), .val (.int v15_153), .val (.int v16_161), .unset, .unset, .unset] [])) _
              refine XS.iconst X0.here hx rfl (hb hby at_221) ?_
              have qms0_222 : ms0_222 = (0 : Int32) := by rw [hms0_222, if_neg hc168, if_pos hc178, if_neg hc186, if_pos hc196, if_pos hc204]
              rw [qms0_222] at k
              exact k
            · show Steps p.tables e below (s₁.setTop (mkF m 204 #[.val (.int p0), .val (.int p1), .val (.int p2), .val (.int p3), .val (.long p4), .second, .val (.int v6_9), .val (.int v7_23), .val (.int v8_37), .val (.int v9_46), .val (.int v10_55), .val (.int v11_64), .val (.int v12_73), .val (.int ms0_98), .val (.int ms0_145), .val (.int v15_153), .val (.int v16_161), .unset, .unset, .unset] [(.int (v11_64 + ms0_98))])) _
              refine XS.ifNo X0.here hx rfl (hb hby at_204) rfl ((if0 _ _).trans (flt hc204).1) ?_
              show Steps p.tables e below (s₁.setTop (mkF m 207 #[.val (.int p0), .val (.int p1), .val (.int p2), .val (.int p3), .val (.long p4), .second, .val (.int v6_9), .val (.int v7_23), .val (.int v8_37), .val (.int v9_46), .val (.int v10_55), .val (.int v11_64), .val (.int v12_73), .val (.int ms0_98), .val (.int ms0_145), .val (.int v15_153), .val (.int v16_161), .unset, .unset, .unset] [])) _
              refine XS.iload X0.here hx rfl (hb hby at_207) rfl  ?_
              show Steps p.tables e below (s₁.setTop (mkF m 209 #[.val (.int p0), .val (.int p1), .val (.int p2), .val (.int p3), .val (.long p4), .second, .val (.int v6_9), .val (.int v7_23), .val (.int v8_37), .val (.int v9_46), .val (.int v10_55), .val (.int v11_64), .val (.int v12_73), .val (.int ms0_98), .val (.int ms0_145), .val (.int v15_153), .val (.int v16_161), .unset, .unset, .unset] [(.int v11_64)])) _
              refine XS.iload X0.here hx rfl (hb hby at_209) rfl  ?_
              show Steps p.tables e below (s₁.setTop (mkF m 211 #[.val (.int p0), .val (.int p1), .val (.int p2), .val (.int p3), .val (.long p4), .second, .val (.int v6_9), .val (.int v7_23), .val (.int v8_37), .val (.int v9_46), .val (.int v10_55), .val (.int v11_64), .val (.int v12_73), .val (.int ms0_98), .val (.int ms0_145), .val (.int v15_153), .val (.int v16_161), .unset, .unset, .unset] [(.int ms0_98), (.int v11_64)])) _
              refine XS.iadd X0.here hx rfl (hb hby at_211) rfl ?_
              show Steps p.tables e below (s₁.setTop (mkF m 212 #[.val (.int p0), .val (.int p1), .val (.int p2), .val (.int p3), .val (.long p4), .second, .val (.int v6_9), .val (.int v7_23), .val (.int v8_37), .val (.int v9_46), .val (.int v10_55), .val (.int v11_64), .val (.int v12_73), .val (.int ms0_98), .val (.int ms0_145), .val (.int v15_153), .val (.int v16_161), .unset, .unset, .unset] [(.int (v11_64 + ms0_98))])) _
              refine XS.iload X0.here hx rfl (hb hby at_212) rfl  ?_
              by_cases hc214 : (v11_64 + ms0_98) < v8_37
              · show Steps p.tables e below (s₁.setTop (mkF m 214 #[.val (.int p0), .val (.int p1), .val (.int p2), .val (.int p3), .val (.long p4), .second, .val (.int v6_9), .val (.int v7_23), .val (.int v8_37), .val (.int v9_46), .val (.int v10_55), .val (.int v11_64), .val (.int v12_73), .val (.int ms0_98), .val (.int ms0_145), .val (.int v15_153), .val (.int v16_161), .unset, .unset, .unset] [(.int v8_37), (.int (v11_64 + ms0_98))])) _
                refine XS.icmpNo X0.here hx rfl (hb hby at_214) rfl (tlt hc214).2.1 ?_
                show Steps p.tables e below (s₁.setTop (mkF m 217 #[.val (.int p0), .val (.int p1), .val (.int p2), .val (.int p3), .val (.long p4), .second, .val (.int v6_9), .val (.int v7_23), .val (.int v8_37), .val (.int v9_46), .val (.int v10_55), .val (.int v11_64), .val (.int v12_73), .val (.int ms0_98), .val (.int ms0_145), .val (.int v15_153), .val (.int v16_161), .unset, .unset, .unset] [])) _
                refine XS.iconst X0.here hx rfl (hb hby at_217) ?_
                show Steps p.tables e below (s₁.setTop (mkF m 218 #[.val (.int p0), .val (.int p1), .val (.int p2), .val (.int p3), .val (.long p4), .second, .val (.int v6_9), .val (.int v7_23), .val (.int v8_37), .val (.int v9_46), .val (.int v10_55), .val (.int v11_64), .val (.int v12_73), .val (.int ms0_98), .val (.int ms0_145), .val (.int v15_153), .val (.int v16_161), .unset, .unset, .unset] [(.int (1 : Int32))])) _
                refine XS.goto X0.here hx rfl (pc0 := 218) (pc' := 222) rfl (hb hby at_218) (by decide) (by decide) ?_
                have qms0_222 : ms0_222 = (1 : Int32) := by rw [hms0_222, if_neg hc168, if_pos hc178, if_neg hc186, if_pos hc196, if_neg hc204, if_pos hc214]
                rw [qms0_222] at k
                exact k
              · show Steps p.tables e below (s₁.setTop (mkF m 214 #[.val (.int p0), .val (.int p1), .val (.int p2), .val (.int p3), .val (.long p4), .second, .val (.int v6_9), .val (.int v7_23), .val (.int v8_37), .val (.int v9_46), .val (.int v10_55), .val (.int v11_64), .val (.int v12_73), .val (.int ms0_98), .val (.int ms0_145), .val (.int v15_153), .val (.int v16_161), .unset, .unset, .unset] [(.int v8_37), (.int (v11_64 + ms0_98))])) _
                refine XS.icmpYes X0.here hx rfl (pc0 := 214) (pc' := 221) rfl (hb hby at_214) rfl (flt hc214).2.1 (by decide) (by decide) ?_
                show Steps p.tables e below (s₁.setTop (mkF m 221 #[.val (.int p0), .val (.int p1), .val (.int p2), .val (.int p3), .val (.long p4), .second, .val (.int v6_9), .val (.int v7_23), .val (.int v8_37), .val (.int v9_46), .val (.int v10_55), .val (.int v11_64), .val (.int v12_73), .val (.int ms0_98), .val (.int ms0_145), .val (.int v15_153), .val (.int v16_161), .unset, .unset, .unset] [])) _
                refine XS.iconst X0.here hx rfl (hb hby at_221) ?_
                have qms0_222 : ms0_222 = (0 : Int32) := by rw [hms0_222, if_neg hc168, if_pos hc178, if_neg hc186, if_pos hc196, if_neg hc204, if_neg hc214]
                rw [qms0_222] at k
                exact k
          · show Steps p.tables e below (s₁.setTop (mkF m 196 #[.val (.int p0), .val (.int p1), .val (.int p2), .val (.int p3), .val (.long p4), .second, .val (.int v6_9), .val (.int v7_23), .val (.int v8_37), .val (.int v9_46), .val (.int v10_55), .val (.int v11_64), .val (.int v12_73), .val (.int ms0_98), .val (.int ms0_145), .val (.int v15_153), .val (.int v16_161), .unset, .unset, .unset] [(.int v7_23), (.int (v10_55 + v16_161))])) _
            refine XS.icmpYes X0.here hx rfl (pc0 := 196) (pc' := 221) rfl (hb hby at_196) rfl (flt hc196).2.1 (by decide) (by decide) ?_
            show Steps p.tables e below (s₁.setTop (mkF m 221 #[.val (.int p0), .val (.int p1), .val (.int p2), .val (.int p3), .val (.long p4), .second, .val (.int v6_9), .val (.int v7_23), .val (.int v8_37), .val (.int v9_46), .val (.int v10_55), .val (.int v11_64), .val (.int v12_73), .val (.int ms0_98), .val (.int ms0_145), .val (.int v15_153), .val (.int v16_161), .unset, .unset, .unset] [])) _
            refine XS.iconst X0.here hx rfl (hb hby at_221) ?_
            have qms0_222 : ms0_222 = (0 : Int32) := by rw [hms0_222, if_neg hc168, if_pos hc178, if_neg hc186, if_neg hc196]
            rw [qms0_222] at k
            exact k
      · show Steps p.tables e below (s₁.setTop (mkF m 178 #[.val (.int p0), .val (.int p1), .val (.int p2), .val (.int p3), .val (.long p4), .second, .val (.int v6_9), .val (.int v7_23), .val (.int v8_37), .val (.int v9_46), .val (.int v10_55), .val (.int v11_64), .val (.int v12_73), .val (.int ms0_98), .val (.int ms0_145), .val (.int v15_153), .val (.int v16_161), .unset, .unset, .unset] [(.int v6_9), (.int (v9_46 + v15_153))])) _
        refine XS.icmpYes X0.here hx rfl (pc0 := 178) (pc' := 221) rfl (hb hby at_178) rfl (flt hc178).2.1 (by decide) (by decide) ?_
        show Steps p.tables e below (s₁.setTop (mkF m 221 #[.val (.int p0), .val (.int p1), .val (.int p2), .val (.int p3), .val (.long p4), .second, .val (.int v6_9), .val (.int v7_23), .val (.int v8_37), .val (.int v9_46), .val (.int v10_55), .val (.int v11_64), .val (.int v12_73), .val (.int ms0_98), .val (.int ms0_145), .val (.int v15_153), .val (.int v16_161), .unset, .unset, .unset] [])) _
        refine XS.iconst X0.here hx rfl (hb hby at_221) ?_
        have qms0_222 : ms0_222 = (0 : Int32) := by rw [hms0_222, if_neg hc168, if_neg hc178]
        rw [qms0_222] at k
        exact k
  have pre7 : ∀ t, Steps p.tables e below (s₁.setTop (mkF m 229 #[.val (.int p0), .val (.int p1), .val (.int p2), .val (.int p3), .val (.long p4), .second, .val (.int v6_9), .val (.int v7_23), .val (.int v8_37), .val (.int v9_46), .val (.int v10_55), .val (.int v11_64), .val (.int v12_73), .val (.int ms0_98), .val (.int ms0_145), .val (.int v15_153), .val (.int v16_161), .val (.int ms0_222), .val (.int (-1 : Int32)), .unset] [(.int ms0_222)])) t → Steps p.tables e below (s₁.setTop (entryFrame m #[(.int p0), (.int p1), (.int p2), (.int p3), (.long p4)] maxLocals)) t := by
    intro t k
    refine pre6 t ?_
    show Steps p.tables e below (s₁.setTop (mkF m 222 #[.val (.int p0), .val (.int p1), .val (.int p2), .val (.int p3), .val (.long p4), .second, .val (.int v6_9), .val (.int v7_23), .val (.int v8_37), .val (.int v9_46), .val (.int v10_55), .val (.int v11_64), .val (.int v12_73), .val (.int ms0_98), .val (.int ms0_145), .val (.int v15_153), .val (.int v16_161), .unset, .unset, .unset] [(.int ms0_222)])) _
    refine XS.istore X0.here hx rfl (hb hby at_222) rfl (l' := #[.val (.int p0), .val (.int p1), .val (.int p2), .val (.int p3), .val (.long p4), .second, .val (.int v6_9), .val (.int v7_23), .val (.int v8_37), .val (.int v9_46), .val (.int v10_55), .val (.int v11_64), .val (.int v12_73), .val (.int ms0_98), .val (.int ms0_145), .val (.int v15_153), .val (.int v16_161), .val (.int ms0_222), .unset, .unset]) rfl ?_
    show Steps p.tables e below (s₁.setTop (mkF m 224 #[.val (.int p0), .val (.int p1), .val (.int p2), .val (.int p3), .val (.long p4), .second, .val (.int v6_9), .val (.int v7_23), .val (.int v8_37), .val (.int v9_46), .val (.int v10_55), .val (.int v11_64), .val (.int v12_73), .val (.int ms0_98), .val (.int ms0_145), .val (.int v15_153), .val (.int v16_161), .val (.int ms0_222), .unset, .unset] [])) _
    refine XS.iconst X0.here hx rfl (hb hby at_224) ?_
    show Steps p.tables e below (s₁.setTop (mkF m 225 #[.val (.int p0), .val (.int p1), .val (.int p2), .val (.int p3), .val (.long p4), .second, .val (.int v6_9), .val (.int v7_23), .val (.int v8_37), .val (.int v9_46), .val (.int v10_55), .val (.int v11_64), .val (.int v12_73), .val (.int ms0_98), .val (.int ms0_145), .val (.int v15_153), .val (.int v16_161), .val (.int ms0_222), .unset, .unset] [(.int (-1 : Int32))])) _
    refine XS.istore X0.here hx rfl (hb hby at_225) rfl (l' := #[.val (.int p0), .val (.int p1), .val (.int p2), .val (.int p3), .val (.long p4), .second, .val (.int v6_9), .val (.int v7_23), .val (.int v8_37), .val (.int v9_46), .val (.int v10_55), .val (.int v11_64), .val (.int v12_73), .val (.int ms0_98), .val (.int ms0_145), .val (.int v15_153), .val (.int v16_161), .val (.int ms0_222), .val (.int (-1 : Int32)), .unset]) rfl ?_
    show Steps p.tables e below (s₁.setTop (mkF m 227 #[.val (.int p0), .val (.int p1), .val (.int p2), .val (.int p3), .val (.long p4), .second, .val (.int v6_9), .val (.int v7_23), .val (.int v8_37), .val (.int v9_46), .val (.int v10_55), .val (.int v11_64), .val (.int v12_73), .val (.int ms0_98), .val (.int ms0_145), .val (.int v15_153), .val (.int v16_161), .val (.int ms0_222), .val (.int (-1 : Int32)), .unset] [])) _
    refine XS.iload X0.here hx rfl (hb hby at_227) rfl  ?_
    exact k
  obtain ⟨m18_270, hm18_270⟩ : ∃ z : Int32, z = (if ms0_222 = (0 : Int32) then (-1 : Int32) else ((((((v11_64 * (v6_9 * v7_23)) + (v10_55 * v6_9)) + v9_46) + (ms0_98 * (v6_9 * v7_23))) + (v16_161 * v6_9)) + v15_153)) := ⟨_, rfl⟩
  obtain ⟨m19_270, hm19_270⟩ : ∃ z : Slot, z = (if ms0_222 = (0 : Int32) then (.unset) else (.val (.int (v6_9 * v7_23)))) := ⟨_, rfl⟩
  have pre8 : ∀ t, Steps p.tables e below (s₁.setTop (mkF m 270 #[.val (.int p0), .val (.int p1), .val (.int p2), .val (.int p3), .val (.long p4), .second, .val (.int v6_9), .val (.int v7_23), .val (.int v8_37), .val (.int v9_46), .val (.int v10_55), .val (.int v11_64), .val (.int v12_73), .val (.int ms0_98), .val (.int ms0_145), .val (.int v15_153), .val (.int v16_161), .val (.int ms0_222), .val (.int m18_270), m19_270] [])) t → Steps p.tables e below (s₁.setTop (entryFrame m #[(.int p0), (.int p1), (.int p2), (.int p3), (.long p4)] maxLocals)) t := by
    intro t k
    refine pre7 t ?_
    by_cases hc229 : ms0_222 = (0 : Int32)
    · show Steps p.tables e below (s₁.setTop (mkF m 229 #[.val (.int p0), .val (.int p1), .val (.int p2), .val (.int p3), .val (.long p4), .second, .val (.int v6_9), .val (.int v7_23), .val (.int v8_37), .val (.int v9_46), .val (.int v10_55), .val (.int v11_64), .val (.int v12_73), .val (.int ms0_98), .val (.int ms0_145), .val (.int v15_153), .val (.int v16_161), .val (.int ms0_222), .val (.int (-1 : Int32)), .unset] [(.int ms0_222)])) _
      refine XS.ifYes X0.here hx rfl (pc0 := 229) (pc' := 270) rfl (hb hby at_229) rfl ((if0 _ _).trans (teq hc229).1) (by decide) (by decide) ?_
      have qm18_270 : m18_270 = (-1 : Int32) := by rw [hm18_270, if_pos hc229]
      have qm19_270 : m19_270 = (.unset) := by rw [hm19_270, if_pos hc229]
      rw [qm18_270, qm19_270] at k
      exact k
    · show Steps p.tables e below (s₁.setTop (mkF m 229 #[.val (.int p0), .val (.int p1), .val (.int p2), .val (.int p3), .val (.long p4), .second, .val (.int v6_9), .val (.int v7_23), .val (.int v8_37), .val (.int v9_46), .val (.int v10_55), .val (.int v11_64), .val (.int v12_73), .val (.int ms0_98), .val (.int ms0_145), .val (.int v15_153), .val (.int v16_161), .val (.int ms0_222), .val (.int (-1 : Int32)), .unset] [(.int ms0_222)])) _
      refine XS.ifNo X0.here hx rfl (hb hby at_229) rfl ((if0 _ _).trans (feq hc229).1) ?_
      show Steps p.tables e below (s₁.setTop (mkF m 232 #[.val (.int p0), .val (.int p1), .val (.int p2), .val (.int p3), .val (.long p4), .second, .val (.int v6_9), .val (.int v7_23), .val (.int v8_37), .val (.int v9_46), .val (.int v10_55), .val (.int v11_64), .val (.int v12_73), .val (.int ms0_98), .val (.int ms0_145), .val (.int v15_153), .val (.int v16_161), .val (.int ms0_222), .val (.int (-1 : Int32)), .unset] [])) _
      refine XS.iload X0.here hx rfl (hb hby at_232) rfl  ?_
      show Steps p.tables e below (s₁.setTop (mkF m 234 #[.val (.int p0), .val (.int p1), .val (.int p2), .val (.int p3), .val (.long p4), .second, .val (.int v6_9), .val (.int v7_23), .val (.int v8_37), .val (.int v9_46), .val (.int v10_55), .val (.int v11_64), .val (.int v12_73), .val (.int ms0_98), .val (.int ms0_145), .val (.int v15_153), .val (.int v16_161), .val (.int ms0_222), .val (.int (-1 : Int32)), .unset] [(.int v6_9)])) _
      refine XS.iload X0.here hx rfl (hb hby at_234) rfl  ?_
      show Steps p.tables e below (s₁.setTop (mkF m 236 #[.val (.int p0), .val (.int p1), .val (.int p2), .val (.int p3), .val (.long p4), .second, .val (.int v6_9), .val (.int v7_23), .val (.int v8_37), .val (.int v9_46), .val (.int v10_55), .val (.int v11_64), .val (.int v12_73), .val (.int ms0_98), .val (.int ms0_145), .val (.int v15_153), .val (.int v16_161), .val (.int ms0_222), .val (.int (-1 : Int32)), .unset] [(.int v7_23), (.int v6_9)])) _
      refine XS.imul X0.here hx rfl (hb hby at_236) rfl ?_
      show Steps p.tables e below (s₁.setTop (mkF m 237 #[.val (.int p0), .val (.int p1), .val (.int p2), .val (.int p3), .val (.long p4), .second, .val (.int v6_9), .val (.int v7_23), .val (.int v8_37), .val (.int v9_46), .val (.int v10_55), .val (.int v11_64), .val (.int v12_73), .val (.int ms0_98), .val (.int ms0_145), .val (.int v15_153), .val (.int v16_161), .val (.int ms0_222), .val (.int (-1 : Int32)), .unset] [(.int (v6_9 * v7_23))])) _
      refine XS.istore X0.here hx rfl (hb hby at_237) rfl (l' := #[.val (.int p0), .val (.int p1), .val (.int p2), .val (.int p3), .val (.long p4), .second, .val (.int v6_9), .val (.int v7_23), .val (.int v8_37), .val (.int v9_46), .val (.int v10_55), .val (.int v11_64), .val (.int v12_73), .val (.int ms0_98), .val (.int ms0_145), .val (.int v15_153), .val (.int v16_161), .val (.int ms0_222), .val (.int (-1 : Int32)), .val (.int (v6_9 * v7_23))]) rfl ?_
      show Steps p.tables e below (s₁.setTop (mkF m 239 #[.val (.int p0), .val (.int p1), .val (.int p2), .val (.int p3), .val (.long p4), .second, .val (.int v6_9), .val (.int v7_23), .val (.int v8_37), .val (.int v9_46), .val (.int v10_55), .val (.int v11_64), .val (.int v12_73), .val (.int ms0_98), .val (.int ms0_145), .val (.int v15_153), .val (.int v16_161), .val (.int ms0_222), .val (.int (-1 : Int32)), .val (.int (v6_9 * v7_23))] [])) _
      refine XS.iload X0.here hx rfl (hb hby at_239) rfl  ?_
      show Steps p.tables e below (s₁.setTop (mkF m 241 #[.val (.int p0), .val (.int p1), .val (.int p2), .val (.int p3), .val (.long p4), .second, .val (.int v6_9), .val (.int v7_23), .val (.int v8_37), .val (.int v9_46), .val (.int v10_55), .val (.int v11_64), .val (.int v12_73), .val (.int ms0_98), .val (.int ms0_145), .val (.int v15_153), .val (.int v16_161), .val (.int ms0_222), .val (.int (-1 : Int32)), .val (.int (v6_9 * v7_23))] [(.int v11_64)])) _
      refine XS.iload X0.here hx rfl (hb hby at_241) rfl  ?_
      show Steps p.tables e below (s₁.setTop (mkF m 243 #[.val (.int p0), .val (.int p1), .val (.int p2), .val (.int p3), .val (.long p4), .second, .val (.int v6_9), .val (.int v7_23), .val (.int v8_37), .val (.int v9_46), .val (.int v10_55), .val (.int v11_64), .val (.int v12_73), .val (.int ms0_98), .val (.int ms0_145), .val (.int v15_153), .val (.int v16_161), .val (.int ms0_222), .val (.int (-1 : Int32)), .val (.int (v6_9 * v7_23))] [(.int (v6_9 * v7_23)), (.int v11_64)])) _
      refine XS.imul X0.here hx rfl (hb hby at_243) rfl ?_
      show Steps p.tables e below (s₁.setTop (mkF m 244 #[.val (.int p0), .val (.int p1), .val (.int p2), .val (.int p3), .val (.long p4), .second, .val (.int v6_9), .val (.int v7_23), .val (.int v8_37), .val (.int v9_46), .val (.int v10_55), .val (.int v11_64), .val (.int v12_73), .val (.int ms0_98), .val (.int ms0_145), .val (.int v15_153), .val (.int v16_161), .val (.int ms0_222), .val (.int (-1 : Int32)), .val (.int (v6_9 * v7_23))] [(.int (v11_64 * (v6_9 * v7_23)))])) _
      refine XS.iload X0.here hx rfl (hb hby at_244) rfl  ?_
      show Steps p.tables e below (s₁.setTop (mkF m 246 #[.val (.int p0), .val (.int p1), .val (.int p2), .val (.int p3), .val (.long p4), .second, .val (.int v6_9), .val (.int v7_23), .val (.int v8_37), .val (.int v9_46), .val (.int v10_55), .val (.int v11_64), .val (.int v12_73), .val (.int ms0_98), .val (.int ms0_145), .val (.int v15_153), .val (.int v16_161), .val (.int ms0_222), .val (.int (-1 : Int32)), .val (.int (v6_9 * v7_23))] [(.int v10_55), (.int (v11_64 * (v6_9 * v7_23)))])) _
      refine XS.iload X0.here hx rfl (hb hby at_246) rfl  ?_
      show Steps p.tables e below (s₁.setTop (mkF m 248 #[.val (.int p0), .val (.int p1), .val (.int p2), .val (.int p3), .val (.long p4), .second, .val (.int v6_9), .val (.int v7_23), .val (.int v8_37), .val (.int v9_46), .val (.int v10_55), .val (.int v11_64), .val (.int v12_73), .val (.int ms0_98), .val (.int ms0_145), .val (.int v15_153), .val (.int v16_161), .val (.int ms0_222), .val (.int (-1 : Int32)), .val (.int (v6_9 * v7_23))] [(.int v6_9), (.int v10_55), (.int (v11_64 * (v6_9 * v7_23)))])) _
      refine XS.imul X0.here hx rfl (hb hby at_248) rfl ?_
      show Steps p.tables e below (s₁.setTop (mkF m 249 #[.val (.int p0), .val (.int p1), .val (.int p2), .val (.int p3), .val (.long p4), .second, .val (.int v6_9), .val (.int v7_23), .val (.int v8_37), .val (.int v9_46), .val (.int v10_55), .val (.int v11_64), .val (.int v12_73), .val (.int ms0_98), .val (.int ms0_145), .val (.int v15_153), .val (.int v16_161), .val (.int ms0_222), .val (.int (-1 : Int32)), .val (.int (v6_9 * v7_23))] [(.int (v10_55 * v6_9)), (.int (v11_64 * (v6_9 * v7_23)))])) _
      refine XS.iadd X0.here hx rfl (hb hby at_249) rfl ?_
      show Steps p.tables e below (s₁.setTop (mkF m 250 #[.val (.int p0), .val (.int p1), .val (.int p2), .val (.int p3), .val (.long p4), .second, .val (.int v6_9), .val (.int v7_23), .val (.int v8_37), .val (.int v9_46), .val (.int v10_55), .val (.int v11_64), .val (.int v12_73), .val (.int ms0_98), .val (.int ms0_145), .val (.int v15_153), .val (.int v16_161), .val (.int ms0_222), .val (.int (-1 : Int32)), .val (.int (v6_9 * v7_23))] [(.int ((v11_64 * (v6_9 * v7_23)) + (v10_55 * v6_9)))])) _
      refine XS.iload X0.here hx rfl (hb hby at_250) rfl  ?_
      show Steps p.tables e below (s₁.setTop (mkF m 252 #[.val (.int p0), .val (.int p1), .val (.int p2), .val (.int p3), .val (.long p4), .second, .val (.int v6_9), .val (.int v7_23), .val (.int v8_37), .val (.int v9_46), .val (.int v10_55), .val (.int v11_64), .val (.int v12_73), .val (.int ms0_98), .val (.int ms0_145), .val (.int v15_153), .val (.int v16_161), .val (.int ms0_222), .val (.int (-1 : Int32)), .val (.int (v6_9 * v7_23))] [(.int v9_46), (.int ((v11_64 * (v6_9 * v7_23)) + (v10_55 * v6_9)))])) _
      refine XS.iadd X0.here hx rfl (hb hby at_252) rfl ?_
      show Steps p.tables e below (s₁.setTop (mkF m 253 #[.val (.int p0), .val (.int p1), .val (.int p2), .val (.int p3), .val (.long p4), .second, .val (.int v6_9), .val (.int v7_23), .val (.int v8_37), .val (.int v9_46), .val (.int v10_55), .val (.int v11_64), .val (.int v12_73), .val (.int ms0_98), .val (.int ms0_145), .val (.int v15_153), .val (.int v16_161), .val (.int ms0_222), .val (.int (-1 : Int32)), .val (.int (v6_9 * v7_23))] [(.int (((v11_64 * (v6_9 * v7_23)) + (v10_55 * v6_9)) + v9_46))])) _
      refine XS.iload X0.here hx rfl (hb hby at_253) rfl  ?_
      show Steps p.tables e below (s₁.setTop (mkF m 255 #[.val (.int p0), .val (.int p1), .val (.int p2), .val (.int p3), .val (.long p4), .second, .val (.int v6_9), .val (.int v7_23), .val (.int v8_37), .val (.int v9_46), .val (.int v10_55), .val (.int v11_64), .val (.int v12_73), .val (.int ms0_98), .val (.int ms0_145), .val (.int v15_153), .val (.int v16_161), .val (.int ms0_222), .val (.int (-1 : Int32)), .val (.int (v6_9 * v7_23))] [(.int ms0_98), (.int (((v11_64 * (v6_9 * v7_23)) + (v10_55 * v6_9)) + v9_46))])) _
      refine XS.iload X0.here hx rfl (hb hby at_255) rfl  ?_
      show Steps p.tables e below (s₁.setTop (mkF m 257 #[.val (.int p0), .val (.int p1), .val (.int p2), .val (.int p3), .val (.long p4), .second, .val (.int v6_9), .val (.int v7_23), .val (.int v8_37), .val (.int v9_46), .val (.int v10_55), .val (.int v11_64), .val (.int v12_73), .val (.int ms0_98), .val (.int ms0_145), .val (.int v15_153), .val (.int v16_161), .val (.int ms0_222), .val (.int (-1 : Int32)), .val (.int (v6_9 * v7_23))] [(.int (v6_9 * v7_23)), (.int ms0_98), (.int (((v11_64 * (v6_9 * v7_23)) + (v10_55 * v6_9)) + v9_46))])) _
      refine XS.imul X0.here hx rfl (hb hby at_257) rfl ?_
      show Steps p.tables e below (s₁.setTop (mkF m 258 #[.val (.int p0), .val (.int p1), .val (.int p2), .val (.int p3), .val (.long p4), .second, .val (.int v6_9), .val (.int v7_23), .val (.int v8_37), .val (.int v9_46), .val (.int v10_55), .val (.int v11_64), .val (.int v12_73), .val (.int ms0_98), .val (.int ms0_145), .val (.int v15_153), .val (.int v16_161), .val (.int ms0_222), .val (.int (-1 : Int32)), .val (.int (v6_9 * v7_23))] [(.int (ms0_98 * (v6_9 * v7_23))), (.int (((v11_64 * (v6_9 * v7_23)) + (v10_55 * v6_9)) + v9_46))])) _
      refine XS.iadd X0.here hx rfl (hb hby at_258) rfl ?_
      show Steps p.tables e below (s₁.setTop (mkF m 259 #[.val (.int p0), .val (.int p1), .val (.int p2), .val (.int p3), .val (.long p4), .second, .val (.int v6_9), .val (.int v7_23), .val (.int v8_37), .val (.int v9_46), .val (.int v10_55), .val (.int v11_64), .val (.int v12_73), .val (.int ms0_98), .val (.int ms0_145), .val (.int v15_153), .val (.int v16_161), .val (.int ms0_222), .val (.int (-1 : Int32)), .val (.int (v6_9 * v7_23))] [(.int ((((v11_64 * (v6_9 * v7_23)) + (v10_55 * v6_9)) + v9_46) + (ms0_98 * (v6_9 * v7_23))))])) _
      refine XS.iload X0.here hx rfl (hb hby at_259) rfl  ?_
      show Steps p.tables e below (s₁.setTop (mkF m 261 #[.val (.int p0), .val (.int p1), .val (.int p2), .val (.int p3), .val (.long p4), .second, .val (.int v6_9), .val (.int v7_23), .val (.int v8_37), .val (.int v9_46), .val (.int v10_55), .val (.int v11_64), .val (.int v12_73), .val (.int ms0_98), .val (.int ms0_145), .val (.int v15_153), .val (.int v16_161), .val (.int ms0_222), .val (.int (-1 : Int32)), .val (.int (v6_9 * v7_23))] [(.int v16_161), (.int ((((v11_64 * (v6_9 * v7_23)) + (v10_55 * v6_9)) + v9_46) + (ms0_98 * (v6_9 * v7_23))))])) _
      refine XS.iload X0.here hx rfl (hb hby at_261) rfl  ?_
      show Steps p.tables e below (s₁.setTop (mkF m 263 #[.val (.int p0), .val (.int p1), .val (.int p2), .val (.int p3), .val (.long p4), .second, .val (.int v6_9), .val (.int v7_23), .val (.int v8_37), .val (.int v9_46), .val (.int v10_55), .val (.int v11_64), .val (.int v12_73), .val (.int ms0_98), .val (.int ms0_145), .val (.int v15_153), .val (.int v16_161), .val (.int ms0_222), .val (.int (-1 : Int32)), .val (.int (v6_9 * v7_23))] [(.int v6_9), (.int v16_161), (.int ((((v11_64 * (v6_9 * v7_23)) + (v10_55 * v6_9)) + v9_46) + (ms0_98 * (v6_9 * v7_23))))])) _
      refine XS.imul X0.here hx rfl (hb hby at_263) rfl ?_
      show Steps p.tables e below (s₁.setTop (mkF m 264 #[.val (.int p0), .val (.int p1), .val (.int p2), .val (.int p3), .val (.long p4), .second, .val (.int v6_9), .val (.int v7_23), .val (.int v8_37), .val (.int v9_46), .val (.int v10_55), .val (.int v11_64), .val (.int v12_73), .val (.int ms0_98), .val (.int ms0_145), .val (.int v15_153), .val (.int v16_161), .val (.int ms0_222), .val (.int (-1 : Int32)), .val (.int (v6_9 * v7_23))] [(.int (v16_161 * v6_9)), (.int ((((v11_64 * (v6_9 * v7_23)) + (v10_55 * v6_9)) + v9_46) + (ms0_98 * (v6_9 * v7_23))))])) _
      refine XS.iadd X0.here hx rfl (hb hby at_264) rfl ?_
      show Steps p.tables e below (s₁.setTop (mkF m 265 #[.val (.int p0), .val (.int p1), .val (.int p2), .val (.int p3), .val (.long p4), .second, .val (.int v6_9), .val (.int v7_23), .val (.int v8_37), .val (.int v9_46), .val (.int v10_55), .val (.int v11_64), .val (.int v12_73), .val (.int ms0_98), .val (.int ms0_145), .val (.int v15_153), .val (.int v16_161), .val (.int ms0_222), .val (.int (-1 : Int32)), .val (.int (v6_9 * v7_23))] [(.int (((((v11_64 * (v6_9 * v7_23)) + (v10_55 * v6_9)) + v9_46) + (ms0_98 * (v6_9 * v7_23))) + (v16_161 * v6_9)))])) _
      refine XS.iload X0.here hx rfl (hb hby at_265) rfl  ?_
      show Steps p.tables e below (s₁.setTop (mkF m 267 #[.val (.int p0), .val (.int p1), .val (.int p2), .val (.int p3), .val (.long p4), .second, .val (.int v6_9), .val (.int v7_23), .val (.int v8_37), .val (.int v9_46), .val (.int v10_55), .val (.int v11_64), .val (.int v12_73), .val (.int ms0_98), .val (.int ms0_145), .val (.int v15_153), .val (.int v16_161), .val (.int ms0_222), .val (.int (-1 : Int32)), .val (.int (v6_9 * v7_23))] [(.int v15_153), (.int (((((v11_64 * (v6_9 * v7_23)) + (v10_55 * v6_9)) + v9_46) + (ms0_98 * (v6_9 * v7_23))) + (v16_161 * v6_9)))])) _
      refine XS.iadd X0.here hx rfl (hb hby at_267) rfl ?_
      show Steps p.tables e below (s₁.setTop (mkF m 268 #[.val (.int p0), .val (.int p1), .val (.int p2), .val (.int p3), .val (.long p4), .second, .val (.int v6_9), .val (.int v7_23), .val (.int v8_37), .val (.int v9_46), .val (.int v10_55), .val (.int v11_64), .val (.int v12_73), .val (.int ms0_98), .val (.int ms0_145), .val (.int v15_153), .val (.int v16_161), .val (.int ms0_222), .val (.int (-1 : Int32)), .val (.int (v6_9 * v7_23))] [(.int ((((((v11_64 * (v6_9 * v7_23)) + (v10_55 * v6_9)) + v9_46) + (ms0_98 * (v6_9 * v7_23))) + (v16_161 * v6_9)) + v15_153))])) _
      refine XS.istore X0.here hx rfl (hb hby at_268) rfl (l' := #[.val (.int p0), .val (.int p1), .val (.int p2), .val (.int p3), .val (.long p4), .second, .val (.int v6_9), .val (.int v7_23), .val (.int v8_37), .val (.int v9_46), .val (.int v10_55), .val (.int v11_64), .val (.int v12_73), .val (.int ms0_98), .val (.int ms0_145), .val (.int v15_153), .val (.int v16_161), .val (.int ms0_222), .val (.int ((((((v11_64 * (v6_9 * v7_23)) + (v10_55 * v6_9)) + v9_46) + (ms0_98 * (v6_9 * v7_23))) + (v16_161 * v6_9)) + v15_153)), .val (.int (v6_9 * v7_23))]) rfl ?_
      have qm18_270 : m18_270 = ((((((v11_64 * (v6_9 * v7_23)) + (v10_55 * v6_9)) + v9_46) + (ms0_98 * (v6_9 * v7_23))) + (v16_161 * v6_9)) + v15_153) := by rw [hm18_270, if_neg hc229]
      have qm19_270 : m19_270 = (.val (.int (v6_9 * v7_23))) := by rw [hm19_270, if_neg hc229]
      rw [qm18_270, qm19_270] at k
      exact k
  have pre10 : ∀ t, Steps p.tables e below (s₁.setTop (mkF m 284 #[.val (.int p0), .val (.int p1), .val (.int p2), .val (.int p3), .val (.long p4), .second, .val (.int v6_9), .val (.int v7_23), .val (.int v8_37), .val (.int v9_46), .val (.int v10_55), .val (.int v11_64), .val (.int v12_73), .val (.int ms0_98), .val (.int ms0_145), .val (.int v15_153), .val (.int v16_161), .val (.int ms0_222), .val (.int m18_270), m19_270] [(.int v8_37), (.int v7_23), (.int v6_9), (.int v12_73), (.int v11_64), (.int v10_55), (.int v9_46)])) t → Steps p.tables e below (s₁.setTop (entryFrame m #[(.int p0), (.int p1), (.int p2), (.int p3), (.long p4)] maxLocals)) t := by
    intro t k
    refine pre8 t ?_
    show Steps p.tables e below (s₁.setTop (mkF m 270 #[.val (.int p0), .val (.int p1), .val (.int p2), .val (.int p3), .val (.long p4), .second, .val (.int v6_9), .val (.int v7_23), .val (.int v8_37), .val (.int v9_46), .val (.int v10_55), .val (.int v11_64), .val (.int v12_73), .val (.int ms0_98), .val (.int ms0_145), .val (.int v15_153), .val (.int v16_161), .val (.int ms0_222), .val (.int m18_270), m19_270] [])) _
    refine XS.iload X0.here hx rfl (hb hby at_270) rfl  ?_
    show Steps p.tables e below (s₁.setTop (mkF m 272 #[.val (.int p0), .val (.int p1), .val (.int p2), .val (.int p3), .val (.long p4), .second, .val (.int v6_9), .val (.int v7_23), .val (.int v8_37), .val (.int v9_46), .val (.int v10_55), .val (.int v11_64), .val (.int v12_73), .val (.int ms0_98), .val (.int ms0_145), .val (.int v15_153), .val (.int v16_161), .val (.int ms0_222), .val (.int m18_270), m19_270] [(.int v9_46)])) _
    refine XS.iload X0.here hx rfl (hb hby at_272) rfl  ?_
    show Steps p.tables e below (s₁.setTop (mkF m 274 #[.val (.int p0), .val (.int p1), .val (.int p2), .val (.int p3), .val (.long p4), .second, .val (.int v6_9), .val (.int v7_23), .val (.int v8_37), .val (.int v9_46), .val (.int v10_55), .val (.int v11_64), .val (.int v12_73), .val (.int ms0_98), .val (.int ms0_145), .val (.int v15_153), .val (.int v16_161), .val (.int ms0_222), .val (.int m18_270), m19_270] [(.int v10_55), (.int v9_46)])) _
    refine XS.iload X0.here hx rfl (hb hby at_274) rfl  ?_
    show Steps p.tables e below (s₁.setTop (mkF m 276 #[.val (.int p0), .val (.int p1), .val (.int p2), .val (.int p3), .val (.long p4), .second, .val (.int v6_9), .val (.int v7_23), .val (.int v8_37), .val (.int v9_46), .val (.int v10_55), .val (.int v11_64), .val (.int v12_73), .val (.int ms0_98), .val (.int ms0_145), .val (.int v15_153), .val (.int v16_161), .val (.int ms0_222), .val (.int m18_270), m19_270] [(.int v11_64), (.int v10_55), (.int v9_46)])) _
    refine XS.iload X0.here hx rfl (hb hby at_276) rfl  ?_
    show Steps p.tables e below (s₁.setTop (mkF m 278 #[.val (.int p0), .val (.int p1), .val (.int p2), .val (.int p3), .val (.long p4), .second, .val (.int v6_9), .val (.int v7_23), .val (.int v8_37), .val (.int v9_46), .val (.int v10_55), .val (.int v11_64), .val (.int v12_73), .val (.int ms0_98), .val (.int ms0_145), .val (.int v15_153), .val (.int v16_161), .val (.int ms0_222), .val (.int m18_270), m19_270] [(.int v12_73), (.int v11_64), (.int v10_55), (.int v9_46)])) _
    refine XS.iload X0.here hx rfl (hb hby at_278) rfl  ?_
    show Steps p.tables e below (s₁.setTop (mkF m 280 #[.val (.int p0), .val (.int p1), .val (.int p2), .val (.int p3), .val (.long p4), .second, .val (.int v6_9), .val (.int v7_23), .val (.int v8_37), .val (.int v9_46), .val (.int v10_55), .val (.int v11_64), .val (.int v12_73), .val (.int ms0_98), .val (.int ms0_145), .val (.int v15_153), .val (.int v16_161), .val (.int ms0_222), .val (.int m18_270), m19_270] [(.int v6_9), (.int v12_73), (.int v11_64), (.int v10_55), (.int v9_46)])) _
    refine XS.iload X0.here hx rfl (hb hby at_280) rfl  ?_
    show Steps p.tables e below (s₁.setTop (mkF m 282 #[.val (.int p0), .val (.int p1), .val (.int p2), .val (.int p3), .val (.long p4), .second, .val (.int v6_9), .val (.int v7_23), .val (.int v8_37), .val (.int v9_46), .val (.int v10_55), .val (.int v11_64), .val (.int v12_73), .val (.int ms0_98), .val (.int ms0_145), .val (.int v15_153), .val (.int v16_161), .val (.int ms0_222), .val (.int m18_270), m19_270] [(.int v7_23), (.int v6_9), (.int v12_73), (.int v11_64), (.int v10_55), (.int v9_46)])) _
    refine XS.iload X0.here hx rfl (hb hby at_282) rfl  ?_
    exact k
  obtain ⟨_, _, ⟨T9, L9, k9, n9⟩, -, X9, ⟨Lc9, hQ9, l9, y9, z9⟩, st9⟩ := Jvm.LawKit.callS X0 hx (y := (⟨"com/example/punctilio/punctilio/engine/Neighbours", "of", "(IIIIIII)I"⟩ : MethodName)) hown (mvT hZ (hw _ (List.mem_of_getElem? (i := 2) rfl))) (mvT hZ (hw _ (List.mem_of_getElem? (i := 3) rfl))) (mvT hZ (hw _ (List.mem_of_getElem? (i := 4) rfl))) (mvT hZ (hw _ (List.mem_of_getElem? (i := 5) rfl))) (by decide) (backOf (W := 0) (rm_1 l Z a0 hw [] v9_46 v10_55 v11_64 v12_73 v6_9 v7_23 v8_37 ax gx ay gy az gz h0 n0 Z0 S_X A_ax S_Y A_ay S_Z A_az (by rw [hv12_73]; exact own_d _)) hZ (hw _ (List.mem_of_getElem? (i := 5) rfl)) (hw _ (List.mem_of_getElem? (i := 4) rfl)) (by decide) (by decide)) (g := (mkF m 284 #[.val (.int p0), .val (.int p1), .val (.int p2), .val (.int p3), .val (.long p4), .second, .val (.int v6_9), .val (.int v7_23), .val (.int v8_37), .val (.int v9_46), .val (.int v10_55), .val (.int v11_64), .val (.int v12_73), .val (.int ms0_98), .val (.int ms0_145), .val (.int v15_153), .val (.int v16_161), .val (.int ms0_222), .val (.int m18_270), m19_270] [(.int v8_37), (.int v7_23), (.int v6_9), (.int v12_73), (.int v11_64), (.int v10_55), (.int v9_46)])) rfl (by rw [hml]; rfl) (argsL := [(.int v9_46), (.int v10_55), (.int v11_64), (.int v12_73), (.int v6_9), (.int v7_23), (.int v8_37)]) (rest := []) (lenOf pd_0 rfl) rfl (by show 2 * 0 + _ ≤ _; exact Nat.le_of_eq rfl) (hb hby at_284) (fun _ _ => ⟨rfl, e0, (by decide : 0 + 0 ≤ _), (by decide : 0 + 0 ≤ _)⟩)
  dsimp only [Pt.U, Pt.locs, Pt.cells, Pt.slots] at X9 l9 y9 z9 st9 hQ9
  subst l9 y9 z9
  obtain ⟨rfl, N9q, e9⟩ := hQ9
  have N9 := Fr.app N0 N9q
  have pre11 : ∀ t, Steps p.tables e below (T9.setTop (mkF m 289 #[.val (.int p0), .val (.int p1), .val (.int p2), .val (.int p3), .val (.long p4), .second, .val (.int v6_9), .val (.int v7_23), .val (.int v8_37), .val (.int v9_46), .val (.int v10_55), .val (.int v11_64), .val (.int v12_73), .val (.int ms0_98), .val (.int ms0_145), .val (.int v15_153), .val (.int v16_161), .val (.int ms0_222), .val (.int m18_270), m19_270] [(.int m18_270), (.int (f_1 v9_46 v10_55 v11_64 v12_73 v6_9 v7_23 v8_37 gx gy gz))])) t → Steps p.tables e below (s₁.setTop (entryFrame m #[(.int p0), (.int p1), (.int p2), (.int p3), (.long p4)] maxLocals)) t := by
    intro t k
    refine pre10 t ?_
    show Steps p.tables e below (s₁.setTop (mkF m 284 #[.val (.int p0), .val (.int p1), .val (.int p2), .val (.int p3), .val (.long p4), .second, .val (.int v6_9), .val (.int v7_23), .val (.int v8_37), .val (.int v9_46), .val (.int v10_55), .val (.int v11_64), .val (.int v12_73), .val (.int ms0_98), .val (.int ms0_145), .val (.int v15_153), .val (.int v16_161), .val (.int ms0_222), .val (.int m18_270), m19_270] [(.int v8_37), (.int v7_23), (.int v6_9), (.int v12_73), (.int v11_64), (.int v10_55), (.int v9_46)])) _
    refine st9 _ ?_
    show Steps p.tables e below (T9.setTop (mkF m 287 #[.val (.int p0), .val (.int p1), .val (.int p2), .val (.int p3), .val (.long p4), .second, .val (.int v6_9), .val (.int v7_23), .val (.int v8_37), .val (.int v9_46), .val (.int v10_55), .val (.int v11_64), .val (.int v12_73), .val (.int ms0_98), .val (.int ms0_145), .val (.int v15_153), .val (.int v16_161), .val (.int ms0_222), .val (.int m18_270), m19_270] [(.int (f_1 v9_46 v10_55 v11_64 v12_73 v6_9 v7_23 v8_37 gx gy gz))])) _
    refine XS.iload X9.here hx rfl (hb hby at_287) rfl  ?_
    exact k
  obtain ⟨ms0_297, hms0_297⟩ : ∃ z : Int32, z = (if (f_1 v9_46 v10_55 v11_64 v12_73 v6_9 v7_23 v8_37 gx gy gz) = m18_270 then (1 : Int32) else (0 : Int32)) := ⟨_, rfl⟩
  have pre12 : ∀ t, Steps p.tables e below (T9.setTop (mkF m 297 #[.val (.int p0), .val (.int p1), .val (.int p2), .val (.int p3), .val (.long p4), .second, .val (.int v6_9), .val (.int v7_23), .val (.int v8_37), .val (.int v9_46), .val (.int v10_55), .val (.int v11_64), .val (.int v12_73), .val (.int ms0_98), .val (.int ms0_145), .val (.int v15_153), .val (.int v16_161), .val (.int ms0_222), .val (.int m18_270), m19_270] [(.int ms0_297)])) t → Steps p.tables e below (s₁.setTop (entryFrame m #[(.int p0), (.int p1), (.int p2), (.int p3), (.long p4)] maxLocals)) t := by
    intro t k
    refine pre11 t ?_
    by_cases hc289 : (f_1 v9_46 v10_55 v11_64 v12_73 v6_9 v7_23 v8_37 gx gy gz) = m18_270
    · show Steps p.tables e below (T9.setTop (mkF m 289 #[.val (.int p0), .val (.int p1), .val (.int p2), .val (.int p3), .val (.long p4), .second, .val (.int v6_9), .val (.int v7_23), .val (.int v8_37), .val (.int v9_46), .val (.int v10_55), .val (.int v11_64), .val (.int v12_73), .val (.int ms0_98), .val (.int ms0_145), .val (.int v15_153), .val (.int v16_161), .val (.int ms0_222), .val (.int m18_270), m19_270] [(.int m18_270), (.int (f_1 v9_46 v10_55 v11_64 v12_73 v6_9 v7_23 v8_37 gx gy gz))])) _
      refine XS.icmpNo X9.here hx rfl (hb hby at_289) rfl (teq hc289).2 ?_
      show Steps p.tables e below (T9.setTop (mkF m 292 #[.val (.int p0), .val (.int p1), .val (.int p2), .val (.int p3), .val (.long p4), .second, .val (.int v6_9), .val (.int v7_23), .val (.int v8_37), .val (.int v9_46), .val (.int v10_55), .val (.int v11_64), .val (.int v12_73), .val (.int ms0_98), .val (.int ms0_145), .val (.int v15_153), .val (.int v16_161), .val (.int ms0_222), .val (.int m18_270), m19_270] [])) _
      refine XS.iconst X9.here hx rfl (hb hby at_292) ?_
      show Steps p.tables e below (T9.setTop (mkF m 293 #[.val (.int p0), .val (.int p1), .val (.int p2), .val (.int p3), .val (.long p4), .second, .val (.int v6_9), .val (.int v7_23), .val (.int v8_37), .val (.int v9_46), .val (.int v10_55), .val (.int v11_64), .val (.int v12_73), .val (.int ms0_98), .val (.int ms0_145), .val (.int v15_153), .val (.int v16_161), .val (.int ms0_222), .val (.int m18_270), m19_270] [(.int (1 : Int32))])) _
      refine XS.goto X9.here hx rfl (pc0 := 293) (pc' := 297) rfl (hb hby at_293) (by decide) (by decide) ?_
      have qms0_297 : ms0_297 = (1 : Int32) := by rw [hms0_297, if_pos hc289]
      rw [qms0_297] at k
      exact k
    · show Steps p.tables e below (T9.setTop (mkF m 289 #[.val (.int p0), .val (.int p1), .val (.int p2), .val (.int p3), .val (.long p4), .second, .val (.int v6_9), .val (.int v7_23), .val (.int v8_37), .val (.int v9_46), .val (.int v10_55), .val (.int v11_64), .val (.int v12_73), .val (.int ms0_98), .val (.int ms0_145), .val (.int v15_153), .val (.int v16_161), .val (.int ms0_222), .val (.int m18_270), m19_270] [(.int m18_270), (.int (f_1 v9_46 v10_55 v11_64 v12_73 v6_9 v7_23 v8_37 gx gy gz))])) _
      refine XS.icmpYes X9.here hx rfl (pc0 := 289) (pc' := 296) rfl (hb hby at_289) rfl (feq hc289).2 (by decide) (by decide) ?_
      show Steps p.tables e below (T9.setTop (mkF m 296 #[.val (.int p0), .val (.int p1), .val (.int p2), .val (.int p3), .val (.long p4), .second, .val (.int v6_9), .val (.int v7_23), .val (.int v8_37), .val (.int v9_46), .val (.int v10_55), .val (.int v11_64), .val (.int v12_73), .val (.int ms0_98), .val (.int ms0_145), .val (.int v15_153), .val (.int v16_161), .val (.int ms0_222), .val (.int m18_270), m19_270] [])) _
      refine XS.iconst X9.here hx rfl (hb hby at_296) ?_
      have qms0_297 : ms0_297 = (0 : Int32) := by rw [hms0_297, if_neg hc289]
      rw [qms0_297] at k
      exact k
  have hnar : nar .boolean ms0_297 = ms0_297 := by rw [hms0_297]; (repeat' split) <;> rfl
  obtain ⟨fs, hr, hrun, hended, hW, hsame⟩ := X9.leave (v := some (.int ms0_297)) (fun h => by rw [Bd.returns] at h; cases h)
  refine ⟨_, _, pre12 _ ?_, hrun, hended, _, _, rfl, ?_, ⟨_, rfl⟩, hW, hsame.mono (by decide) (by decide)⟩
  · show Steps p.tables e below (T9.setTop (mkF m 297 #[.val (.int p0), .val (.int p1), .val (.int p2), .val (.int p3), .val (.long p4), .second, .val (.int v6_9), .val (.int v7_23), .val (.int v8_37), .val (.int v9_46), .val (.int v10_55), .val (.int v11_64), .val (.int v12_73), .val (.int ms0_98), .val (.int ms0_145), .val (.int v15_153), .val (.int v16_161), .val (.int ms0_222), .val (.int m18_270), m19_270] [(.int ms0_297)])) _
    exact retN X9 hx (t := .boolean) Bd.returns (by simp) (hb hby at_297) (by rw [hnar]; exact hr)
  · show Q_0 Z p0 p1 p2 p3 p4 ax gx ay gy az gz h0 n0 _ T9.heap _
    rw [e9]
    exact ⟨congrArg (fun z => some (Value.int z)) (by subst hv6_9 hv7_23 hv8_37 hv9_46 hv10_55 hv11_64 hv12_73 hms0_98 hms0_145 hv15_153 hv16_161 hms0_222 hm18_270 hms0_297; rfl : ms0_297 = f_0 p0 p1 p2 p3 p4 gx gy gz), N9, trivial⟩
def own_k (d : Int32) : Int32 := (if d < (8 : Int32) then (if d < (4 : Int32) then d else (d + (1 : Int32))) else (if d < (17 : Int32) then (d - (8 : Int32)) else (d - (17 : Int32))))
def own_dz (d : Int32) : Int32 := (if d < (8 : Int32) then (0 : Int32) else (if d < (17 : Int32) then (-1 : Int32) else (1 : Int32)))
theorem own_tab (d : Int32) (h : ¬ d < 0 ∧ d.toNatClampNeg < 26) : own_X d.toNatClampNeg = own_k d % 3 - 1 ∧ own_Y d.toNatClampNeg = own_k d / 3 - 1 ∧ own_Z d.toNatClampNeg = own_dz d := by
  have k : ∀ n : Fin 26, own_X (Int32.ofNat n.val).toNatClampNeg = own_k (Int32.ofNat n.val) % 3 - 1 ∧ own_Y (Int32.ofNat n.val).toNatClampNeg = own_k (Int32.ofNat n.val) / 3 - 1 ∧ own_Z (Int32.ofNat n.val).toNatClampNeg = own_dz (Int32.ofNat n.val) := by decide +kernel
  have e : d = Int32.ofNat d.toNatClampNeg := (back32 h.1).1.symm
  rw [e]
  exact k ⟨d.toNatClampNeg, h.2⟩
theorem own_ring (x y z dx dy dz w h : Int32) : (((z + dz) * h + (y + dy)) * w + (x + dx)) = (((((z * (w * h)) + (y * w)) + x) + (dz * (w * h))) + (dy * w)) + dx := by
  have e1 : (z + dz) * h * w = z * (w * h) + dz * (w * h) := by rw [Int32.add_mul, Int32.add_mul, Int32.mul_assoc, Int32.mul_assoc, Int32.mul_comm h w]
  rw [Int32.add_mul (a := (z + dz) * h), e1, Int32.add_mul (a := y)]
  ac_rfl
theorem own_nbeq (x y z d w h n : Int32) (hd : ¬ d < 0 ∧ d.toNatClampNeg < 26) (e : Int32)
    (he : e = if (if x + (own_k d % 3 - 1) < (0 : Int32) then (0 : Int32) else (if x + (own_k d % 3 - 1) < w then (if y + (own_k d / 3 - 1) < (0 : Int32) then (0 : Int32) else (if y + (own_k d / 3 - 1) < h then (if z + own_dz d < (0 : Int32) then (0 : Int32) else (if z + own_dz d < n then (1 : Int32) else (0 : Int32))) else (0 : Int32))) else (0 : Int32))) = (0 : Int32) then (-1 : Int32) else ((((((z * (w * h)) + (y * w)) + x) + (own_dz d * (w * h))) + ((own_k d / 3 - 1) * w)) + (own_k d % 3 - 1))) :
    (if (f_1 x y z d w h n own_X own_Y own_Z) = e then (1 : Int32) else (0 : Int32)) = 1 := by
  obtain ⟨t1, t2, t3⟩ := own_tab d hd
  have n10 : ¬ (1 : Int32) = 0 := by decide
  rw [← own_ring] at he
  simp only [f_1, t1, t2, t3]
  generalize own_k d % 3 - 1 = dx at *
  generalize own_k d / 3 - 1 = dy at *
  generalize own_dz d = dz at *
  subst he
  by_cases h1 : x + dx < 0
  · simp [h1]
  · by_cases h2 : x + dx < w
    · by_cases h3 : y + dy < 0
      · simp [h1, h2, h3]
      · by_cases h4 : y + dy < h
        · by_cases h5 : z + dz < 0
          · simp [h1, h2, h3, h4, h5]
          · by_cases h6 : z + dz < n
            · simp [h1, h2, h3, h4, h5, h6]
            · simp [h1, h2, h3, h4, h5, h6]
        · simp [h1, h2, h3, h4]
    · simp [h1, h2]
theorem own_law (p0 p1 p2 p3 : Int32) (p4 : Int64) : f_0 p0 p1 p2 p3 p4 own_X own_Y own_Z = 1 := own_nbeq _ _ _ _ _ _ _ (own_d p3) _ rfl
set_option maxRecDepth 65536 in
set_option maxHeartbeats 40000000 in
theorem comes_1 {Post : Tables → Env → Array Value → State → Outcome → State → Prop} (hpost : ∀ tb e args s v u, (limb_1_1.after args s (.returned v) u = true ∧ limb_1_2.after args s (.returned v) u = true ∧ True) → FrameEnd s (.returned v) u (Jvm.fieldLocs frame_1_writes args s ++ Jvm.arrayLocs frame_1_arrays args s ++ Jvm.staticLocs frame_1_statics s) 0 0 → Post tb e args s (.returned v) u) :
    ArmFor flags0 classFile x code maxLocals ret World_1 tables_1 room_1 Calls_1 rest_1 Pre_1 Post := by
  intro l hfl _ _ p e ha hc hk s m args below hf hA hF happ hP
  obtain ⟨hcalls, hrest, hpre⟩ := hP
  obtain ⟨-, -, -, hnamed, -, -, -, hat⟩ := (Spec.applies_iff hf).mp happ
  obtain ⟨hg, hn⟩ := and_e (Cond.before_iff.mp (show (Jvm.Cond.and given_1 narrow_1).before args s = true from hpre))
  obtain ⟨g0, gt0⟩ := and_e hg
  obtain ⟨ga0, gt1⟩ := and_e gt0
  obtain ⟨ga1, gt2⟩ := and_e gt1
  obtain ⟨ga2, gt3⟩ := and_e gt2
  obtain ⟨ga3, gt4⟩ := and_e gt3
  obtain ⟨w0, w1, w2, w3, w4, rfl⟩ : ∃ w0 w1 w2 w3 w4 : Value, args = #[w0, w1, w2, w3, w4] := by
    have hs : args.size = 5 := by simpa [Cond.value, given_1] using g0
    obtain ⟨L⟩ := args
    match L, hs with
    | [w0, w1, w2, w3, w4], _ => exact ⟨w0, w1, w2, w3, w4, rfl⟩
  have hw := fun d (hd : d ∈ tables_1) => atoms_spec (ws := Jvm.Cond.code x code maxLocals ret :: tables_1) hat d (List.mem_cons_of_mem _ hd)
  have hfit : Fit s := fun {y c} hc i hi => by
    obtain ⟨ha, rfl⟩ := Array.getElem?_eq_some_iff.mp hc
    have q := List.all_eq_true.mp ((Array.all_eq_true_iff_forall_mem.mp hF) _ (Array.getElem_mem ha)) i (List.mem_range.mpr hi)
    simpa [Array.getElem?_eq_getElem hi] using q
  obtain ⟨i0, ei0⟩ := is_v ga0
  obtain rfl : w0 = (.int i0) := Option.some.inj ei0
  obtain ⟨i1, ei1⟩ := is_v ga1
  obtain rfl : w1 = (.int i1) := Option.some.inj ei1
  obtain ⟨i2, ei2⟩ := is_v ga2
  obtain rfl : w2 = (.int i2) := Option.some.inj ei2
  obtain ⟨i3, ei3⟩ := is_v ga3
  obtain rfl : w3 = (.int i3) := Option.some.inj ei3
  obtain ⟨i4, ei4⟩ := isL_v gt4
  obtain rfl : w4 = (.long i4) := Option.some.inj ei4
  obtain ⟨c0, d0⟩ := and_e hn
  obtain ⟨c1, d1⟩ := and_e d0
  obtain ⟨c2, d2⟩ := and_e d1
  obtain ⟨c3, d3⟩ := and_e d2
  obtain ⟨c4, d4⟩ := and_e d3
  obtain ⟨c5, d5⟩ := and_e d4
  obtain ⟨c6, d6⟩ := and_e d5
  obtain ⟨c7, d7⟩ := and_e d6
  obtain ⟨c8, d8⟩ := and_e d7
  obtain ⟨c9, d9⟩ := and_e d8
  obtain ⟨c10, d10⟩ := and_e d9
  obtain ⟨c11, d11⟩ := and_e d10
  obtain ⟨c12, d12⟩ := and_e d11
  obtain ⟨c13, d13⟩ := and_e d12
  obtain ⟨c14, d14⟩ := and_e d13
  obtain ⟨c15, d15⟩ := and_e d14
  obtain ⟨c16, d16⟩ := and_e d15
  obtain ⟨c17, d17⟩ := and_e d16
  obtain ⟨c18, d18⟩ := and_e d17
  obtain ⟨c19, d19⟩ := and_e d18
  obtain ⟨c20, d20⟩ := and_e d19
  obtain ⟨c21, d21⟩ := and_e d20
  obtain ⟨c22, d22⟩ := and_e d21
  obtain ⟨c23, d23⟩ := and_e d22
  obtain ⟨c24, d24⟩ := and_e d23
  obtain ⟨c25, d25⟩ := and_e d24
  obtain ⟨c26, d26⟩ := and_e d25
  obtain ⟨c27, d27⟩ := and_e d26
  obtain ⟨c28, d28⟩ := and_e d27
  obtain ⟨c29, d29⟩ := and_e d28
  obtain ⟨c30, d30⟩ := and_e d29
  obtain ⟨c31, d31⟩ := and_e d30
  obtain ⟨c32, d32⟩ := and_e d31
  obtain ⟨c33, d33⟩ := and_e d32
  obtain ⟨c34, d34⟩ := and_e d33
  obtain ⟨c35, d35⟩ := and_e d34
  obtain ⟨c36, d36⟩ := and_e d35
  obtain ⟨c37, d37⟩ := and_e d36
  obtain ⟨c38, d38⟩ := and_e d37
  obtain ⟨c39, d39⟩ := and_e d38
  obtain ⟨c40, d40⟩ := and_e d39
  obtain ⟨c41, d41⟩ := and_e d40
  obtain ⟨c42, d42⟩ := and_e d41
  obtain ⟨c43, d43⟩ := and_e d42
  obtain ⟨c44, d44⟩ := and_e d43
  obtain ⟨c45, d45⟩ := and_e d44
  obtain ⟨c46, d46⟩ := and_e d45
  obtain ⟨c47, d47⟩ := and_e d46
  obtain ⟨c48, d48⟩ := and_e d47
  obtain ⟨c49, d49⟩ := and_e d48
  obtain ⟨c50, d50⟩ := and_e d49
  obtain ⟨c51, d51⟩ := and_e d50
  obtain ⟨c52, d52⟩ := and_e d51
  obtain ⟨c53, d53⟩ := and_e d52
  obtain ⟨c54, d54⟩ := and_e d53
  obtain ⟨c55, d55⟩ := and_e d54
  obtain ⟨c56, d56⟩ := and_e d55
  obtain ⟨c57, d57⟩ := and_e d56
  obtain ⟨c58, d58⟩ := and_e d57
  obtain ⟨c59, d59⟩ := and_e d58
  obtain ⟨ax, evx⟩ := arr_v c0
  have SX : Sta s s.heap "com/example/punctilio/punctilio/engine/Neighbours" "X" "[I" (.ref ax) := Sta.start evx (Or.inr ⟨hw _ (List.mem_of_getElem? (i := 4) rfl), hw _ (List.mem_of_getElem? (i := 7) rfl)⟩)
  have AX : own_A s s.heap ax .int 26 (fun i => .int (own_X i)) := own_A_start (vs := [-1, 0, 1, -1, 1, -1, 0, 1, -1, 0, 1, -1, 0, 1, -1, 0, 1, -1, 0, 1, -1, 0, 1, -1, 0, 1]) hfit evx c0 (own_eqi c1) (by decide) ⟨own_eqi c6, own_eqi c7, own_eqi c8, own_eqi c9, own_eqi c10, own_eqi c11, own_eqi c12, own_eqi c13, own_eqi c14, own_eqi c15, own_eqi c16, own_eqi c17, own_eqi c18, own_eqi c19, own_eqi c20, own_eqi c21, own_eqi c22, own_eqi c23, own_eqi c24, own_eqi c25, own_eqi c26, own_eqi c27, own_eqi c28, own_eqi c29, own_eqi c30, own_eqi c31, trivial⟩
  obtain ⟨ay, evy⟩ := arr_v c2
  have SY : Sta s s.heap "com/example/punctilio/punctilio/engine/Neighbours" "Y" "[I" (.ref ay) := Sta.start evy (Or.inr ⟨hw _ (List.mem_of_getElem? (i := 4) rfl), hw _ (List.mem_of_getElem? (i := 9) rfl)⟩)
  have AY : own_A s s.heap ay .int 26 (fun i => .int (own_Y i)) := own_A_start (vs := [-1, -1, -1, 0, 0, 1, 1, 1, -1, -1, -1, 0, 0, 0, 1, 1, 1, -1, -1, -1, 0, 0, 0, 1, 1, 1]) hfit evy c2 (own_eqi c3) (by decide) ⟨own_eqi c32, own_eqi c33, own_eqi c34, own_eqi c35, own_eqi c36, own_eqi c37, own_eqi c38, own_eqi c39, own_eqi c40, own_eqi c41, own_eqi c42, own_eqi c43, own_eqi c44, own_eqi c45, own_eqi c46, own_eqi c47, own_eqi c48, own_eqi c49, own_eqi c50, own_eqi c51, own_eqi c52, own_eqi c53, own_eqi c54, own_eqi c55, own_eqi c56, own_eqi c57, trivial⟩
  obtain ⟨az, evz⟩ := arr_v c4
  have SZ : Sta s s.heap "com/example/punctilio/punctilio/engine/Neighbours" "Z" "[I" (.ref az) := Sta.start evz (Or.inr ⟨hw _ (List.mem_of_getElem? (i := 4) rfl), hw _ (List.mem_of_getElem? (i := 11) rfl)⟩)
  have AZ : own_A s s.heap az .int 26 (fun i => .int (own_Z i)) := own_AG_start hfit evz c4 (own_eqi c5) (by decide) (own_Zat hfit evz c4 (own_eqi c5) c58 c59 d59)
  obtain ⟨n, o, h1, h2, h3, _, L, rfl, ⟨rfl, N⟩, hq⟩ := rm_0 l s _ hw tables_1 i0 i1 i2 i3 i4 ax own_X ay own_Y az own_Z s.heap s.heap.size (Nat.le_refl _) SX AX SY AY SZ AZ p e ha hc hk s m _ below hf ((Spec.applies_iff_loose hf).mp happ).1 ⟨rfl, State.Warmed39.refl s, rfl⟩ trivial
  refine ⟨n, _, h1, h2, h3, hpost _ _ _ _ _ _ ⟨Cond.after_iff.mpr rfl, Cond.after_iff.mpr (eq_i res_at (Term.int_eval (1)) (congrArg Value.int (own_law _ _ _ _ _))), trivial⟩ ⟨hq.1, hq.2.1, (hq.2.2.sift fun y hy => Or.inr (N.1 y hy)).mono (by decide) (by decide)⟩⟩
theorem main_1_1 : Claimed_1_1 := comes_1 fun _ _ _ _ _ _ h hF => ⟨h.1, hF⟩
theorem main_1_2 : Claimed_1_2 := comes_1 fun _ _ _ _ _ _ h hF => ⟨h.2.1, hF⟩
end Jvm.Pilot.@@N@@
namespace Jvm.Pilot.@@N@@
open Jvm Jvm.ClassFile Sem Op Lib Jvm.Free Jvm.Stand Jvm.Pilot.@@N@@.Jvm.D
/-! MADE BY PROGRAM (witnessworld.py) out of the Statement's table words and the real class files: 9 classes; the members and pool entries that the words name. The judged class is class 1, her method 1. -/
namespace start1
open Jvm.ClassFile
def u (s : String) : CpInfo := .utf8 (stringToUtf16 s)
/-- a pool by its gaps: so many unusable entries, then the entry; so many at the end -/
def gap : Nat → List CpInfo → List CpInfo
  | 0, r => r
  | n + 1, r => .unusable :: gap n r
def poolList (es : List (Nat × CpInfo)) (last : Nat) : List CpInfo := es.foldr (fun e r => gap e.1 (e.2 :: r)) (gap last [])
def pool (es : List (Nat × CpInfo)) (last : Nat) : Array CpInfo := ⟨poolList es last⟩
def fileOf (pool : Array CpInfo) (this : Nat) (attrs : Array Attribute := #[]) (ms : Array MethodInfo := #[]) (fl : Nat := 33) (sup : Nat := 0) (ifs : Array Nat := #[]) (fds : Array FieldInfo := #[]) : ClassFile where
  minorVersion := 0
  majorVersion := 65
  constantPool := pool
  accessFlags := fl
  thisClass := this
  superClass := sup
  interfaces := ifs
  fields := fds
  methods := ms
  attributes := attrs
def plain (name : String) (sup : Option ClassId) : Class where
  name := name
  kind := .ordinary
  loader := none
  accessFlags := 33
  super := sup
  interfaces := #[]
  cf := none
  fields := #[]
  methods := #[]
  instanceTypes := #[]
  staticTypes := #[]
  resolved := #[]
  callSites := []
  init := .initialized
  statics := none
  mirror := none

def pool0 : Array CpInfo := pool [(5, u "<init>"), (0, u "()V"), (1, .class_ 10), (1, u "java/lang/Object")] 113

def k0m0 : Method := { name := "<init>", desc := "()V", sig := { parameters := [], returnType := none }, accessFlags := 1, code := none }
/-- java/lang/Object -/
def k0 : Class := { plain "java/lang/Object" none with
  accessFlags := 33
  interfaces := #[]
  cf := some (fileOf pool0 8 #[] #[{ accessFlags := 1, nameIndex := 5, descriptorIndex := 6, attributes := #[] }] 33 0 #[] #[])
  fields := #[]
  methods := #[k0m0]
  instanceTypes := #[]
  staticTypes := #[]
  resolved := Array.replicate 124 none
  statics := none }

def pool1 : Array CpInfo := pool [(2, .class_ 4), (1, u "java/lang/Object"), (0, u "<init>"), (0, u "()V"), (0, .long 1023), (1, .integer 2147483647), (0, .methodref 11 12), (0, .class_ 13), (0, .nameAndType 14 15), (0, u "com/example/punctilio/punctilio/engine/Neighbours"), (0, u "of"), (0, u "(IIIIIII)I"), (0, .class_ 17), (0, u "com/example/punctilio/punctilio/engine/NeighboursOfPinLaw"), (2, u "law"), (0, u "(IIIIJ)Z")] 3

def k1m0 : Method := { name := "<init>", desc := "()V", sig := { parameters := [], returnType := none }, accessFlags := 1, code := none }
def k1c1 : Code := { maxStack := 7, maxLocals := 20, code := code, exceptionTable := #[], attributes := #[] }
def k1m1 : Method := { name := "law", desc := "(IIIIJ)Z", sig := { parameters := [.int, .int, .int, .int, .long], returnType := some .boolean }, accessFlags := 9, code := some k1c1 }
/-- com/example/punctilio/punctilio/engine/NeighboursOfPinLaw -/
def k1 : Class := { plain "com/example/punctilio/punctilio/engine/NeighboursOfPinLaw" (some 0) with
  accessFlags := 49
  interfaces := #[]
  cf := some (fileOf pool1 16 #[] #[{ accessFlags := 1, nameIndex := 5, descriptorIndex := 6, attributes := #[] }, { accessFlags := 9, nameIndex := 20, descriptorIndex := 21, attributes := #[] }] 49 2 #[] #[])
  fields := #[]
  methods := #[k1m0, k1m1]
  instanceTypes := #[]
  staticTypes := #[]
  resolved := Array.replicate 25 none
  statics := none }

def pool2 : Array CpInfo := pool [(2, .class_ 4), (1, u "java/lang/Object"), (0, u "<init>"), (0, u "()V"), (0, .fieldref 8 9), (0, .class_ 10), (0, .nameAndType 11 12), (0, u "com/example/punctilio/punctilio/engine/Neighbours"), (0, u "X"), (0, u "[I"), (2, u "of"), (0, u "(IIIIIII)I"), (0, .fieldref 8 18), (0, .nameAndType 19 12), (0, u "Y"), (0, .fieldref 8 21), (0, .nameAndType 22 12), (0, u "Z"), (39, u "COUNT"), (0, u "I")] 14

def k2m0 : Method := { name := "<init>", desc := "()V", sig := { parameters := [], returnType := none }, accessFlags := 2, code := none }
def k2c1 : Code := { maxStack := 3, maxLocals := 11, code := prog_9_method_4_code, exceptionTable := #[], attributes := #[] }
def k2m1 : Method := { name := "of", desc := "(IIIIIII)I", sig := { parameters := [.int, .int, .int, .int, .int, .int, .int], returnType := some .int }, accessFlags := 8, code := some k2c1 }
/-- com/example/punctilio/punctilio/engine/Neighbours -/
def k2 : Class := { plain "com/example/punctilio/punctilio/engine/Neighbours" (some 0) with
  accessFlags := 32
  interfaces := #[]
  cf := some (fileOf pool2 8 #[] #[{ accessFlags := 2, nameIndex := 5, descriptorIndex := 6, attributes := #[] }, { accessFlags := 8, nameIndex := 15, descriptorIndex := 16, attributes := #[] }] 32 2 #[] #[{ accessFlags := 24, nameIndex := 62, descriptorIndex := 63, attributes := #[] }, { accessFlags := 26, nameIndex := 11, descriptorIndex := 12, attributes := #[] }, { accessFlags := 26, nameIndex := 19, descriptorIndex := 12, attributes := #[] }, { accessFlags := 26, nameIndex := 22, descriptorIndex := 12, attributes := #[] }])
  fields := #[{ name := "COUNT", type := .int, accessFlags := 24, slot := 0, constantValue := 0 }, { name := "X", type := (.array .int), accessFlags := 26, slot := 1, constantValue := 0 }, { name := "Y", type := (.array .int), accessFlags := 26, slot := 2, constantValue := 0 }, { name := "Z", type := (.array .int), accessFlags := 26, slot := 3, constantValue := 0 }]
  methods := #[k2m0, k2m1]
  instanceTypes := #[]
  staticTypes := #[.int, (.array .int), (.array .int), (.array .int)]
  resolved := Array.replicate 78 none
  statics := some 0 }

def pool3 : Array CpInfo := pool [(1, u "java/lang/Cloneable"), (0, .class_ 1), (0, u "java/lang/Object"), (0, .class_ 3)] 3

/-- java/lang/Cloneable -/
def k3 : Class := { plain "java/lang/Cloneable" (some 0) with
  accessFlags := 1537
  interfaces := #[]
  cf := some (fileOf pool3 2 #[] #[] 1537 4 #[] #[])
  fields := #[]
  methods := #[]
  instanceTypes := #[]
  staticTypes := #[]
  resolved := Array.replicate 8 none
  statics := none }

def pool4 : Array CpInfo := pool [(1, u "java/io/Serializable"), (0, .class_ 1), (0, u "java/lang/Object"), (0, .class_ 3)] 3

/-- java/io/Serializable -/
def k4 : Class := { plain "java/io/Serializable" (some 0) with
  accessFlags := 1537
  interfaces := #[]
  cf := some (fileOf pool4 2 #[] #[] 1537 4 #[] #[])
  fields := #[]
  methods := #[]
  instanceTypes := #[]
  staticTypes := #[]
  resolved := Array.replicate 8 none
  statics := none }

/-- the primitive byte -/
def k5 : Class := { plain "byte" none with kind := .primitive 'B', accessFlags := 0x411 }
/-- [B -/
def k6 : Class := { plain "[B" (some 0) with kind := .array 5 .byte, interfaces := #[3, 4], accessFlags := 1041 }

/-- the primitive int -/
def k7 : Class := { plain "int" none with kind := .primitive 'I', accessFlags := 0x411 }
/-- [I -/
def k8 : Class := { plain "[I" (some 0) with kind := .array 7 .int, interfaces := #[3, 4], accessFlags := 1041 }

def heap : Heap := #[{ cls := 2, slots := #[.int 0, .ref 1, .ref 2, .ref 3], vm := .statics 2 },
  { cls := 8, slots := #[.int (-1), .int (0), .int (1), .int (-1), .int (1), .int (-1), .int (0), .int (1), .int (-1), .int (0), .int (1), .int (-1), .int (0), .int (1), .int (-1), .int (0), .int (1), .int (-1), .int (0), .int (1), .int (-1), .int (0), .int (1), .int (-1), .int (0), .int (1)], vm := .none },
  { cls := 8, slots := #[.int (-1), .int (-1), .int (-1), .int (0), .int (0), .int (1), .int (1), .int (1), .int (-1), .int (-1), .int (-1), .int (0), .int (0), .int (0), .int (1), .int (1), .int (1), .int (-1), .int (-1), .int (-1), .int (0), .int (0), .int (0), .int (1), .int (1), .int (1)], vm := .none },
  { cls := 8, slots := #[.int (0), .int (0), .int (0), .int (0), .int (0), .int (0), .int (0), .int (0), .int (-1), .int (-1), .int (-1), .int (-1), .int (-1), .int (-1), .int (-1), .int (-1), .int (-1), .int (1), .int (1), .int (1), .int (1), .int (1), .int (1), .int (1), .int (1), .int (1)], vm := .none }]
def classes : Array Class := #[k0, k1, k2, k3, k4, k5, k6, k7, k8]
def interned : List (Array UInt16 × Addr) := []
def slotsUsed : Nat := 82
def theMethod : MethodId := ⟨1, 1⟩
def args0 : Array Value := #[.int 5, .int 7, .int 9, .int 3, .long 2]
def aboutOver (below : List Frame) : State where
  vm := { classes := classes, interned := interned.toArray }
  heap := heap
  slotsUsed := slotsUsed
  threads := #[{ frames := .invoking theMethod args0 :: below }]
def below0 : List Frame := [.native { method := ⟨0, 0⟩, args := #[] }]
def about1 : State := aboutOver below0
def p0 : Program := .bare "" "" ""
def e0 : Env := launch0.env 0 0 0
theorem w_frames : about1.frames = Frame.invoking theMethod args0 :: below0 := rfl
set_option maxRecDepth 65536 in
theorem w_args : argsFit about1.vm theMethod args0 = true := by decide +kernel
set_option maxRecDepth 65536 in
theorem w_heap : heapFits about1 = true := by decide +kernel
set_option maxRecDepth 65536 in
theorem w_runnable : about1.curStatus? = some .runnable := by decide +kernel
set_option maxRecDepth 65536 in
theorem w_alone : about1.alone = true := by decide +kernel
set_option maxRecDepth 65536 in
theorem w_named : about1.methodNamed? x = some theMethod := by decide +kernel
set_option maxRecDepth 65536 in
theorem w_hears : about1.hears theMethod below0 = true := by decide +kernel
set_option maxRecDepth 65536 in
theorem w_ripe : about1.ripe theMethod args0 below0 = true := by decide +kernel
theorem w_running : about1.status = .running := rfl
set_option maxRecDepth 65536 in
theorem w_room : about1.hasRoom e0.platform room_1 = true :=
  launch0.hasRoom_least _ room_1 (by decide +kernel) (by decide +kernel) (by decide +kernel) (by decide +kernel) (by decide +kernel) (by decide +kernel)
theorem allAtoms_all (ts : List Jvm.Cond) (a : Array Jvm.Value) (st : Jvm.State) : (allAtoms ts).before a st = ts.all (fun c => c.before a st) := by
  induction ts with
  | nil => rfl
  | cons c t ih =>
    show (Jvm.Cond.and c (allAtoms t)).before a st = _
    rw [Jvm.Cond.before_and, ih, List.all_cons]
def words1 : List Jvm.Cond := Jvm.Cond.code x code maxLocals ret :: tables_1
/-- a 'code' word, met by the world's own term for the bytes: nothing is compared byte by byte -/
theorem code_word {y : MethodName} {bytes : ByteArray} {mx : Nat} {rt : Option FieldType} {a : Array Value} {s : State} {m : MethodId} {meth : Method} {c : Code} (h1 : s.methodNamed? y = some m) (h2 : s.vm.method? m = some meth) (h3 : meth.code = some c) (h4 : c.code = bytes)
    (h5 : (c.maxLocals == mx && c.exceptionTable.isEmpty && decide (c.maxStack ≤ mostOperands) && decide (meth.sig.returnType = rt) && !meth.locks && decide (parseMethodDescriptor y.desc = some meth.sig)) = true) : (Jvm.Cond.code y bytes mx rt).before a s = true := by
  simp only [Bool.and_eq_true, beq_iff_eq, Bool.not_eq_true', decide_eq_true_eq] at h5
  obtain ⟨⟨⟨⟨⟨g1, g2⟩, g3⟩, g4⟩, g5⟩, g6⟩ := h5
  simp [Cond.before, Cond.holds, Cond.value, h1, h2, h3, h4, g1, g2, g3, g4, g5, g6]
def isCode : Jvm.Cond → Bool
  | .code _ _ _ _ => true
  | _ => false
theorem all_split {L : List Jvm.Cond} {P : Jvm.Cond → Bool} (h1 : L.all (fun c => isCode c || P c) = true) (h2 : ∀ c ∈ L.filter isCode, P c = true) : L.all P = true := by
  refine List.all_eq_true.mpr fun c hc => ?_
  have h := List.all_eq_true.mp h1 c hc
  rcases Bool.eq_false_or_eq_true (isCode c) with hi | hi
  · exact h2 c (List.mem_filter.mpr ⟨hc, hi⟩)
  · simpa [hi] using h
set_option maxRecDepth 65536 in
theorem w_c0 : (Jvm.Cond.code x code maxLocals ret).before args0 about1 = true := code_word (m := ⟨1, 1⟩) (meth := k1m1) (c := k1c1) (by decide +kernel) rfl rfl rfl (by decide +kernel)
set_option maxRecDepth 65536 in
theorem w_c1 : (Jvm.Cond.code ({ cls := "com/example/punctilio/punctilio/engine/Neighbours", name := "of", desc := "(IIIIIII)I" } : Jvm.MethodName) prog_9_method_4_code (11 : Nat) (Option.some Jvm.ClassFile.FieldType.int)).before args0 about1 = true := code_word (m := ⟨2, 1⟩) (meth := k2m1) (c := k2c1) (by decide +kernel) rfl rfl rfl (by decide +kernel)
def codes1 : List Jvm.Cond := [Jvm.Cond.code x code maxLocals ret, Jvm.Cond.code ({ cls := "com/example/punctilio/punctilio/engine/Neighbours", name := "of", desc := "(IIIIIII)I" } : Jvm.MethodName) prog_9_method_4_code (11 : Nat) (Option.some Jvm.ClassFile.FieldType.int)]
set_option maxRecDepth 65536 in
theorem codes_eq : words1.filter isCode = codes1 := rfl
theorem w_codes : ∀ c ∈ words1.filter isCode, c.before args0 about1 = true := by
  rw [codes_eq]
  intro c hc
  simp only [codes1, List.mem_cons, List.not_mem_nil, or_false] at hc
  rcases hc with rfl | rfl
  · exact w_c0
  · exact w_c1
set_option maxRecDepth 65536 in
theorem w_t1 : words1.all (fun c => isCode c || c.before args0 about1) = true := by decide +kernel
theorem w_tables : (allAtoms (Jvm.Cond.code x code maxLocals ret :: tables_1)).before args0 about1 = true := by
  rw [allAtoms_all]
  show words1.all (fun c => c.before args0 about1) = true
  refine all_split ?_ w_codes
  rw [w_t1]
set_option maxRecDepth 65536 in
theorem w_case : (Jvm.Cond.and given_1 narrow_1).before args0 about1 = true := by decide +kernel
theorem w_applies : (headSpec (Jvm.Cond.code x code maxLocals ret :: tables_1) room_1).applies x e0.platform about1 = true :=
  (Spec.applies_iff w_frames).mpr ⟨w_running, w_runnable, w_alone, w_named, w_hears, w_ripe, w_room, w_tables⟩
theorem atStart : AtStart classFile x code maxLocals ret World_1 tables_1 room_1 Calls_1 rest_1 Pre_1 launch0 p0 e0 about1 theMethod args0 below0 :=
  ⟨lists_1, trivial, launch0.admits_env _ _ _, launch0.least_env, fairChoices_fair.cas, fairChoices_fair.clock, w_frames, w_args, w_heap, w_applies, trivial, trivial, w_case⟩
end start1
theorem witness_1 : WitnessClaimed_1 := ⟨start1.p0, start1.e0, start1.about1, start1.theMethod, start1.args0, start1.below0, start1.atStart⟩
end Jvm.Pilot.@@N@@
