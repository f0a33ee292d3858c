import JvmDerived
import JvmDerived.Pilot.@@N@@Statement
import JvmDerived.Pilot.@@N@@Code
set_option linter.unusedVariables false
set_option linter.unusedSimpArgs false
namespace Jvm.RoadKit
open Sem ClassFile Op Lib Jvm.Stand Jvm.Free Jvm.LawKit
section New
variable {p : Program} {l : Launch} {e : Env} {R : Room} {s : State} {m : MethodId} {args : Array Value} {below : List Frame} {meth : Method} {c : Code} {T : State} {locs : List Loc} {cells slots : Nat}
theorem retI (X : Stand p l e R s m args below meth c T locs cells slots) (hx : p.tables.exec = Jvm.exec) {pc : Nat} {Ls : Array Slot} {z : Int32} {rest : List Value} (hret : meth.sig.returnType = some .int) (hd : decode c.code pc = .ok (.ireturn, 1)) {fs : List Frame}
    (hl : ∀ (f : JFrame) (acts : List Action), f.method = m → f.locked = none → f.entered = [] → (doReturn e (T.setTop f) acts (some (.int z))).1 = T.setFrames fs) : Steps p.tables e below (T.setTop (mkF m pc Ls (.int z :: rest))) (T.setFrames fs) := by
  have hm' : T.vm.method? m = some meth := X.method'
  have hn : narrow .int (.int z) = .int z := rfl
  show Steps p.tables e below (T.setTop { method := m, pc := pc, locals := Ls, stack := _ :: rest, locked := none }) _
  jvm_step X.here [X.here.top, hx, hd, hm', hret, hn]
  first | (intro acts; rw [hl _ acts rfl rfl rfl]) | rw [hl _ _ rfl rfl rfl]
  exact Steps.refl _
theorem own_lremM {g : JFrame} {target : State} (X : Stand p l e R s m args below meth c T locs cells slots) (hx : p.tables.exec = Jvm.exec) (hg : g.method = m) {x y : Int64} {rest : List Value} (hd : decode c.code g.pc = .ok (.lrem, 1)) (hs : g.stack = .long y :: .long x :: rest) (hy : y ≠ 0)
    (hr : Steps p.tables e below (T.setTop { g with pc := g.pc + 1, stack := .long (x % y) :: rest }) target) : Steps p.tables e below (T.setTop g) target := by
  have q : x - x / y * y = x % y := lrem_mod x y
  exact XS.lrem X.here hx hg hd hs hy (by rw [q]; exact hr)
end New
end Jvm.RoadKit
namespace Jvm.RoadKit
open Sem ClassFile Op Lib Jvm.Stand Jvm.Free Jvm.LawKit
section OwnA
variable {p : Program} {l : Launch} {e : Env} {R : Room} {s : State} {m : MethodId} {args : Array Value} {below : List Frame} {meth : Method} {c : Code} {T : State} {locs : List Loc} {cells slots : Nat} {Z : State} {a0 : Array Value} {h h' : Heap} {a b : Addr} {ty : FieldType} {n : Nat} {G : Nat → Value}
def own_upd {α : Type} (g : Nat → α) (k : Nat) (x : α) (i : Nat) : α := if i = k then x else g i
def own_zI (_ : Nat) : Int32 := 0
def own_zJ (_ : Nat) : Int64 := 0
def own_A (Z : State) (h : Heap) (a : Addr) (ty : FieldType) (n : Nat) (G : Nat → Value) : Prop := ∃ c : Cell, Arr Z h a c ty ∧ c.slots.size = n ∧ ∀ i, i < n → c.slots[i]? = some (G i) ∧ fits ty (G i) = true
theorem own_A.lt (F : own_A Z h a ty n G) : a < h.size := by obtain ⟨c, A, -⟩ := F; exact A.lt
theorem own_A.ext (F : own_A Z h a ty n G) (E : Ext h h') : own_A Z h' a ty n G := by obtain ⟨c, A, r⟩ := F; exact ⟨c, A.ext E, r⟩
theorem own_A.other {sl : Nat} {v : Value} (F : own_A Z h b ty n G) (W : Wr h h' a sl v) (q : b ≠ a) : own_A Z h' b ty n G := by obtain ⟨c, A, r⟩ := F; exact ⟨c, A.other W q, r⟩
theorem own_A.keep {ws : List Addr} (F : own_A Z h a ty n G) (K : Keep h h' ws) (q : a ∉ ws) : own_A Z h' a ty n G := by obtain ⟨c, A, r⟩ := F; exact ⟨c, ⟨K.2.1 a c A.1 q, A.2⟩, r⟩
theorem own_A.new {k : ClassId} {z : Int32} (A : Arr Z h a (newA k ty z) ty) (q : z.toNatClampNeg = n) (hG : ∀ i, G i = defaultValue ty) : own_A Z h a ty n G :=
  ⟨_, A, by rw [sz_new, q], fun i hi => ⟨by rw [hG]; rw [← q] at hi; simp [newA, hi], by rw [hG]; cases ty <;> rfl⟩⟩
theorem own_A.set {k : Nat} {v : Value} (F : own_A Z h a ty n G) (W : Wr h h' a k v) (hk : k < n) (hf : fits ty v = true) : own_A Z h' a ty n (own_upd G k v) := by
  obtain ⟨c, A, q, r⟩ := F
  refine ⟨c.setSlot k v, A.same W, by rw [sz_set, q], fun i hi => ?_⟩
  by_cases e : i = k
  · subst e
    exact ⟨by simp [Cell.setSlot, own_upd, q, hk], by simpa [own_upd] using hf⟩
  · have r1 := r i hi
    have r2 : (c.setSlot k v).slots[i]? = c.slots[i]? := Array.getElem?_setIfInBounds_ne (Ne.symm e)
    have r3 : own_upd G k v i = G i := if_neg e
    rw [r2, r3]; exact r1
theorem own_upd_int (g : Nat → Int32) (k : Nat) (x : Int32) : own_upd (fun i => Value.int (g i)) k (.int x) = fun i => Value.int (own_upd g k x i) := by funext i; unfold own_upd; split <;> rfl
theorem own_upd_long (g : Nat → Int64) (k : Nat) (x : Int64) : own_upd (fun i => Value.long (g i)) k (.long x) = fun i => Value.long (own_upd g k x i) := by funext i; unfold own_upd; split <;> rfl
theorem own_inb {c : Cell} {j : Int32} {k : Nat} (q : c.slots.size = n) (hj0 : ¬ j < 0) (hk : j.toNatClampNeg = k) (hkn : k < n) : ¬ (j < 0 ∨ c.slots.size ≤ j.toNatClampNeg) := fun y => y.elim hj0 fun z => by rw [q, hk] at z; exact absurd hkn (Nat.not_lt.mpr z)
theorem own_stI {g0 : Nat → Int32} (X : Stand p l e R s m args below meth c T locs cells slots) (hx : p.tables.exec = Jvm.exec) (hZ : Z.Warmed39 s.vm) (eT : T.heap = h) (F : own_A Z h a .int n (fun i => .int (g0 i))) {j x : Int32} {k : Nat} (hj0 : ¬ j < 0) (hk : j.toNatClampNeg = k) (hkn : k < n) {g : JFrame} (hg : g.method = m) {rest : List Value} (hs : g.stack = .int x :: .int j :: .ref a :: rest) (hd : decode c.code g.pc = .ok (.iastore, 1)) :
    ∃ T' h', Stand p l e R s m args below meth c T' (locs ++ [⟨a, j.toNatClampNeg⟩]) cells slots ∧ T'.heap = h' ∧ Wr h h' a j.toNatClampNeg (.int x) ∧ own_A Z h' a .int n (fun i => .int (own_upd g0 k x i)) ∧ ∀ target, Steps p.tables e below (T'.setTop { g with pc := g.pc + 1, stack := rest }) target → Steps p.tables e below (T.setTop g) target := by
  obtain ⟨cl, A, q, r⟩ := id F
  obtain ⟨T', h', X', e', W, st⟩ := stI X hx hZ eT A (j := j) (x := x) (own_inb q hj0 hk hkn) hg hs hd
  exact ⟨T', h', X', e', W, own_upd_int g0 k x ▸ hk ▸ F.set W (by rw [hk]; exact hkn) rfl, st⟩
theorem own_stJ {g0 : Nat → Int64} (X : Stand p l e R s m args below meth c T locs cells slots) (hx : p.tables.exec = Jvm.exec) (hZ : Z.Warmed39 s.vm) (eT : T.heap = h) (F : own_A Z h a .long n (fun i => .long (g0 i))) {j : Int32} {x : Int64} {k : Nat} (hj0 : ¬ j < 0) (hk : j.toNatClampNeg = k) (hkn : k < n) {g : JFrame} (hg : g.method = m) {rest : List Value} (hs : g.stack = .long x :: .int j :: .ref a :: rest) (hd : decode c.code g.pc = .ok (.lastore, 1)) :
    ∃ T' h', Stand p l e R s m args below meth c T' (locs ++ [⟨a, j.toNatClampNeg⟩]) cells slots ∧ T'.heap = h' ∧ Wr h h' a j.toNatClampNeg (.long x) ∧ own_A Z h' a .long n (fun i => .long (own_upd g0 k x i)) ∧ ∀ target, Steps p.tables e below (T'.setTop { g with pc := g.pc + 1, stack := rest }) target → Steps p.tables e below (T.setTop g) target := by
  obtain ⟨cl, A, q, r⟩ := id F
  obtain ⟨T', h', X', e', W, st⟩ := stJ X hx hZ eT A (j := j) (x := x) (own_inb q hj0 hk hkn) hg hs hd
  exact ⟨T', h', X', e', W, own_upd_long g0 k x ▸ hk ▸ F.set W (by rw [hk]; exact hkn) rfl, st⟩
theorem own_stB {g0 : Nat → Int32} (X : Stand p l e R s m args below meth c T locs cells slots) (hx : p.tables.exec = Jvm.exec) (hZ : Z.Warmed39 s.vm) (eT : T.heap = h) (F : own_A Z h a .byte n (fun i => .int (g0 i))) {j x : Int32} {k : Nat} (hj0 : ¬ j < 0) (hk : j.toNatClampNeg = k) (hkn : k < n) {g : JFrame} (hg : g.method = m) {rest : List Value} (hs : g.stack = .int x :: .int j :: .ref a :: rest) (hd : decode c.code g.pc = .ok (.bastore, 1)) :
    ∃ T' h', Stand p l e R s m args below meth c T' (locs ++ [⟨a, j.toNatClampNeg⟩]) cells slots ∧ T'.heap = h' ∧ Wr h h' a j.toNatClampNeg (.int x.toInt8.toInt32) ∧ own_A Z h' a .byte n (fun i => .int (own_upd g0 k x.toInt8.toInt32 i)) ∧ ∀ target, Steps p.tables e below (T'.setTop { g with pc := g.pc + 1, stack := rest }) target → Steps p.tables e below (T.setTop g) target := by
  obtain ⟨cl, A, q, r⟩ := id F
  obtain ⟨T', h', X', e', W, st⟩ := stB X hx hZ eT A (j := j) (x := x) (own_inb q hj0 hk hkn) hg hs hd
  have hfb : fits .byte (.int (nar .byte x)) = true := fits_nar_byte x
  exact ⟨T', h', X', e', W, own_upd_int g0 k _ ▸ hk ▸ F.set W (by rw [hk]; exact hkn) hfb, st⟩
theorem own_ldI {g0 : Nat → Int32} (X : Stand p l e R s m args below meth c T locs cells slots) (hx : p.tables.exec = Jvm.exec) (hZ : Z.Warmed39 s.vm) (eT : T.heap = h) (F : own_A Z h a .int n (fun i => .int (g0 i))) {j : Int32} {k : Nat} (hj0 : ¬ j < 0) (hk : j.toNatClampNeg = k) (hkn : k < n) {g : JFrame} (hg : g.method = m) {rest : List Value} (hs : g.stack = .int j :: .ref a :: rest) (hd : decode c.code g.pc = .ok (.iaload, 1)) {target : State}
    (hr : Steps p.tables e below (T.setTop { g with pc := g.pc + 1, stack := .int (g0 k) :: rest }) target) : Steps p.tables e below (T.setTop g) target := by
  obtain ⟨cl, A, q, r⟩ := F
  exact X.iaload hx (j := j) (v := .int (g0 k)) (by rw [eT]; exact A.1) (State.isArrayOf_alike hZ.alike A.2.1) A.2.2 (own_inb q hj0 hk hkn) (by rw [hk]; exact (r k hkn).1) hg hs hd _ hr
theorem own_ldJ {g0 : Nat → Int64} (X : Stand p l e R s m args below meth c T locs cells slots) (hx : p.tables.exec = Jvm.exec) (hZ : Z.Warmed39 s.vm) (eT : T.heap = h) (F : own_A Z h a .long n (fun i => .long (g0 i))) {j : Int32} {k : Nat} (hj0 : ¬ j < 0) (hk : j.toNatClampNeg = k) (hkn : k < n) {g : JFrame} (hg : g.method = m) {rest : List Value} (hs : g.stack = .int j :: .ref a :: rest) (hd : decode c.code g.pc = .ok (.laload, 1)) {target : State}
    (hr : Steps p.tables e below (T.setTop { g with pc := g.pc + 1, stack := .long (g0 k) :: rest }) target) : Steps p.tables e below (T.setTop g) target := by
  obtain ⟨cl, A, q, r⟩ := F
  exact X.laload hx (j := j) (v := .long (g0 k)) (by rw [eT]; exact A.1) (State.isArrayOf_alike hZ.alike A.2.1) A.2.2 (own_inb q hj0 hk hkn) (by rw [hk]; exact (r k hkn).1) hg hs hd _ hr
theorem own_ldB {g0 : Nat → Int32} (X : Stand p l e R s m args below meth c T locs cells slots) (hx : p.tables.exec = Jvm.exec) (hZ : Z.Warmed39 s.vm) (eT : T.heap = h) (F : own_A Z h a .byte n (fun i => .int (g0 i))) {j : Int32} {k : Nat} (hj0 : ¬ j < 0) (hk : j.toNatClampNeg = k) (hkn : k < n) {g : JFrame} (hg : g.method = m) {rest : List Value} (hs : g.stack = .int j :: .ref a :: rest) (hd : decode c.code g.pc = .ok (.baload, 1)) {target : State}
    (hr : Steps p.tables e below (T.setTop { g with pc := g.pc + 1, stack := .int (g0 k) :: rest }) target) : Steps p.tables e below (T.setTop g) target := by
  obtain ⟨cl, A, q, r⟩ := F
  exact X.baloadBytes hx (j := j) (v := .int (g0 k)) (by rw [eT]; exact A.1) (State.isArrayOf_alike hZ.alike A.2.1) A.2.2 (own_inb q hj0 hk hkn) (by rw [hk]; exact (r k hkn).1) hg hs hd _ hr
theorem own_ldR {G : Nat → Value} (X : Stand p l e R s m args below meth c T locs cells slots) (hx : p.tables.exec = Jvm.exec) (hZ : Z.Warmed39 s.vm) (eT : T.heap = h) (F : own_A Z h a ty n G) (hty : ty.isReference = true) {j : Int32} {k : Nat} {v : Value} (hv : G k = v) (hj0 : ¬ j < 0) (hk : j.toNatClampNeg = k) (hkn : k < n) {g : JFrame} (hg : g.method = m) {rest : List Value} (hs : g.stack = .int j :: .ref a :: rest) (hd : decode c.code g.pc = .ok (.aaload, 1)) {target : State}
    (hr : Steps p.tables e below (T.setTop { g with pc := g.pc + 1, stack := v :: rest }) target) : Steps p.tables e below (T.setTop g) target := by
  obtain ⟨cl, A, q, r⟩ := F
  exact X.aaload hx (j := j) (v := v) (by rw [eT]; exact A.1) (State.isArrayOf_alike hZ.alike A.2.1) hty A.2.2 (own_inb q hj0 hk hkn) (by rw [hk, ← hv]; exact (r k hkn).1) hg hs hd _ hr
theorem own_len (X : Stand p l e R s m args below meth c T locs cells slots) (hx : p.tables.exec = Jvm.exec) (hZ : Z.Warmed39 s.vm) (eT : T.heap = h) (F : own_A Z h a ty n G) {z : Int32} (hz : n.toInt32 = z) {g : JFrame} (hg : g.method = m) {rest : List Value} (hs : g.stack = .ref a :: rest) (hd : decode c.code g.pc = .ok (.arraylength, 1)) {target : State}
    (hr : Steps p.tables e below (T.setTop { g with pc := g.pc + 1, stack := .int z :: rest }) target) : Steps p.tables e below (T.setTop g) target := by
  obtain ⟨cl, A, q, r⟩ := F
  exact X.arraylength hx (by rw [eT]; exact A.1) (State.isArrayOf_alike hZ.alike A.2.1) hg hs hd _ (by rw [q, hz]; exact hr)
theorem own_newP {aty : ArrayType} (X : Stand p l e R s m args below meth c T locs cells slots) (hx : p.tables.exec = Jvm.exec) (hZ : Z.Warmed39 s.vm) (w : (Cond.arrayClass (newarray.typeOf aty)).before a0 Z = true) (eT : T.heap = h) {g : JFrame} (hg : g.method = m) (hd : decode c.code g.pc = .ok (.newarray aty, 2)) {z : Int32} {rest : List Value} (hs : g.stack = .int z :: rest)
    (hn : ¬ z < 0) (hzn : z.toNatClampNeg = n) {G : Nat → Value} (hG : ∀ i, G i = defaultValue (newarray.typeOf aty)) {cap : Nat} (hcap : n ≤ cap) (hb : cap * 8 ≤ 536870912) (hc : cells + 1 ≤ R.cells) (hl : slots + cap ≤ R.slots) :
    ∃ (T' : State) (h' : Heap) (b : Addr), b = h.size ∧ Stand p l e R s m args below meth c T' locs (cells + 1) (slots + cap) ∧ T'.heap = h' ∧ Ext h h' ∧ own_A Z h' b (newarray.typeOf aty) n G ∧
      ∀ target, Steps p.tables e below (T'.setTop { g with pc := g.pc + 2, stack := .ref b :: rest }) target → Steps p.tables e below (T.setTop g) target := by
  obtain ⟨T', h', cA, X', e', E', A', st⟩ := newP X hx hZ w eT hg hd hs hn (cap := cap) (by rw [hzn]; exact hcap) hb hc hl
  exact ⟨T', h', _, rfl, X', e', E', own_A.new A' hzn hG, st⟩
theorem own_newPE {aty : ArrayType} (X : Stand p l e R s m args below meth c T locs cells slots) (hx : p.tables.exec = Jvm.exec) (hZ : Z.Warmed39 s.vm) (w : (Cond.arrayClass (newarray.typeOf aty)).before a0 Z = true) (eT : T.heap = h) {g : JFrame} (hg : g.method = m) (hd : decode c.code g.pc = .ok (.newarray aty, 2)) {z : Int32} {rest : List Value} (hs : g.stack = .int z :: rest)
    (hn : ¬ z < 0) (hzn : z.toNatClampNeg = n) {G : Nat → Value} (hG : ∀ i, G i = defaultValue (newarray.typeOf aty)) {cap : Nat} (hcap : n ≤ cap) (hb : cap * 8 ≤ 536870912) (hc : cells + 1 ≤ R.cells) (hl : slots + cap ≤ R.slots) {ad : String} (had : "[" ++ (newarray.typeOf aty).toString = ad) :
    ∃ (T' : State) (h' : Heap) (b : Addr), b = h.size ∧ Stand p l e R s m args below meth c T' locs (cells + 1) (slots + cap) ∧ T'.heap = h' ∧ Ext h h' ∧ own_A Z h' b (newarray.typeOf aty) n G ∧ Exa Z h' b ad ∧
      ∀ target, Steps p.tables e below (T'.setTop { g with pc := g.pc + 2, stack := .ref b :: rest }) target → Steps p.tables e below (T.setTop g) target := by
  obtain ⟨T', h', cA, X', e', E', A', B', st⟩ := newPE X hx hZ w eT hg hd hs hn (cap := cap) (by rw [hzn]; exact hcap) hb hc hl had
  exact ⟨T', h', _, rfl, X', e', E', own_A.new A' hzn hG, B', st⟩
theorem own_clone (X : Stand p l e R s m args below meth c T locs cells slots) (hx : p.tables.exec = Jvm.exec) (hZ : Z.Warmed39 s.vm) {own ad : String} {index : Nat} (hown : s.vm.findClass own = some m.cls)
    (w1 : (Cond.methodLink own index ⟨ad, "clone", "()Ljava/lang/Object;"⟩).before a0 Z = true) (w2 : (Cond.sameMethod ad "java/lang/Object" "clone" "()Ljava/lang/Object;").before a0 Z = true) (w3 : (Cond.native ⟨"java/lang/Object", "clone", "()Ljava/lang/Object;"⟩).before a0 Z = true)
    (w4 : (Cond.instanceMethod ⟨"java/lang/Object", "clone", "()Ljava/lang/Object;"⟩).before a0 Z = true) (w5 : (Cond.selects ad ⟨ad, "clone", "()Ljava/lang/Object;"⟩ ⟨"java/lang/Object", "clone", "()Ljava/lang/Object;"⟩).before a0 Z = true) (w6 : (Cond.castable ad "java/lang/Cloneable").before a0 Z = true)
    (eT : T.heap = h) (F : own_A Z h a ty n G) (E : Exa Z h a ad) {g : JFrame} (hg : g.method = m) (hsize : g.locals.size = c.maxLocals) {rest : List Value} (hs : g.stack = .ref a :: rest) (hd : decode c.code g.pc = .ok (.invokevirtual index, 3))
    (hf : 1 ≤ R.frames) {W cap : Nat} (hW : 2 * g.monitorRoom + (rest.map fun v => v.category).sum ≤ W) (hl : W + 14 ≤ R.locals) (hcap : n ≤ cap) (hc : cells + 1 ≤ R.cells) (hsl : slots + cap ≤ R.slots) :
    ∃ (T' : State) (h' : Heap) (b : Addr), b = h.size ∧ Stand p l e R s m args below meth c T' locs (cells + 1) (slots + cap) ∧ T'.heap = h' ∧ Ext h h' ∧ own_A Z h' b ty n G ∧ Exa Z h' b ad ∧
      ∀ target, Steps p.tables e below (T'.setTop { g with pc := g.pc + 3, stack := .ref b :: rest }) target → Steps p.tables e below (T.setTop g) target := by
  obtain ⟨cl, A, q, r⟩ := F
  have FC : FitC Z cl := fitC_of A fun i hi v hv => by
    have r1 := r i (by rw [← q]; exact hi)
    rw [r1.1] at hv; cases hv; exact r1.2
  obtain ⟨T', h', X', e', ex, A', E', st⟩ := cloneA X hx hZ hown w1 w2 w3 w4 w5 w6 eT A E FC hg hsize hs hd hf hW hl (by rw [q]; exact hcap) hc hsl
  exact ⟨T', h', _, rfl, X', e', ex, ⟨cloneOf cl, A', q, r⟩, E', st⟩
theorem own_A.congr {G' : Nat → Value} (F : own_A Z h a ty n G) (q : ∀ i, i < n → G i = G' i) : own_A Z h a ty n G' := by
  obtain ⟨c, A, s, r⟩ := F
  exact ⟨c, A, s, fun i hi => by rw [← q i hi]; exact r i hi⟩
theorem own_A_plain (F : own_A Z h a ty n G) : ∀ c : Cell, h[a]? = some c → c.vm.isStatics = false := fun c hc => by
  obtain ⟨cl, A, -⟩ := F
  cases hc.symm.trans A.1
  exact A.plain
theorem own_E_plain {C : String} (F : Exa Z h a C) : ∀ c : Cell, h[a]? = some c → c.vm.isStatics = false := fun c hc => by
  obtain ⟨cl, k, h1, -, -, h4, -⟩ := F
  cases hc.symm.trans h1
  exact h4
theorem own_sta_keep {C f d : String} {v : Value} {ws : List Addr} (F : Sta Z h C f d v) (K : Keep h h' ws) (q : ∀ x ∈ ws, ∀ c : Cell, h[x]? = some c → c.vm.isStatics = false) : Sta Z h' C f d v := by
  obtain ⟨cf, i, k, f, st, cell, h1, h2, h3, h4, h5, h6, h7⟩ := F
  exact ⟨cf, i, k, f, st, cell, h1, h2, h3, h4, K.2.1 st cell h5 (fun z => by rw [q st z cell h5] at h6; cases h6), h6, h7⟩
end OwnA
end Jvm.RoadKit
namespace Jvm.Pilot.@@N@@
open Jvm Jvm.ClassFile Sem Op Lib Jvm.Free Jvm.Stand Jvm.LawKit Jvm.RoadKit Bundle Jvm.Pilot.@@N@@.Jvm.D
theorem own_w (p : Int32) (h : 0 < p.toInt ∧ p.toInt ≤ 256) : ¬ (((p + (64 : Int32)) - (1 : Int32)) / (64 : Int32)) < 0 ∧ (((p + (64 : Int32)) - (1 : Int32)) / (64 : Int32)).toNatClampNeg ≤ 4 := by
  have a1 := c_iadd p 64
  have a2 := c_isub (p + 64) 1
  have r1 := rng32 (p + 64)
  have r2 := rng32 (p + 64 - 1)
  have l1 : (64 : Int32).toInt = 64 := by decide
  have l2 : (1 : Int32).toInt = 1 := by decide
  have d1 := (c_idiv (p + 64 - 1) 64 64 (by decide) (by decide)).1 (by omega)
  have n1 : ¬ (p + 64 - 1) / 64 < 0 := by rw [Int32.lt_iff_toInt_lt]; have l0 : (0 : Int32).toInt = 0 := by decide
                                          omega
  have n2 := nat_of n1
  exact ⟨n1, by omega⟩
theorem own_idx (n q : Int32) (h : 0 < n.toInt ∧ n.toInt ≤ 256) (h0 : 0 ≤ q.toInt) (h1 : q.toInt < n.toInt) : ¬ ((q.toUInt32 >>> ((6 : Int32) &&& 31).toUInt32).toInt32) < 0 ∧ ((q.toUInt32 >>> ((6 : Int32) &&& 31).toUInt32).toInt32).toNatClampNeg < (((n + (64 : Int32)) - (1 : Int32)) / (64 : Int32)).toNatClampNeg := by
  have a1 := c_iadd n 64
  have a2 := c_isub (n + 64) 1
  have r1 := rng32 (n + 64)
  have r2 := rng32 (n + 64 - 1)
  have l1 : (64 : Int32).toInt = 64 := by decide
  have l2 : (1 : Int32).toInt = 1 := by decide
  have l0 : (0 : Int32).toInt = 0 := by decide
  have d1 := (c_idiv (n + 64 - 1) 64 64 (by decide) (by decide)).1 (by omega)
  have n1 := (own_w n h).1
  have n2 := nat_of n1
  have s1 := c_iushr q 6 6 (by decide) (by decide)
  have m1 : ¬ ((q.toUInt32 >>> ((6 : Int32) &&& 31).toUInt32).toInt32) < 0 := by rw [Int32.lt_iff_toInt_lt]; omega
  have m2 := nat_of m1
  exact ⟨m1, by omega⟩
theorem own_rem (a n : Int32) (h : 0 < n.toInt) : 0 ≤ ((a &&& (2147483647 : Int32)) % n).toInt ∧ ((a &&& (2147483647 : Int32)) % n).toInt < n.toInt := by
  have a1 := c_mask a 2147483647 31 (by decide) (by decide)
  have q := (c_iremV (a &&& 2147483647) n).1 (by omega) h
  exact ⟨q.1, q.2.1⟩
theorem own_nz (n : Int32) (h : 0 < n.toInt) : n ≠ 0 := by rintro rfl; exact absurd h (by decide)
theorem d1_0 : decode prog_11_method_1_code 0 = .ok (.aload_n 0, 1) := by decide +kernel
theorem d1_1 : decode prog_11_method_1_code 1 = .ok (.invokespecial 1, 3) := by decide +kernel
theorem d1_4 : decode prog_11_method_1_code 4 = .ok (.aload_n 0, 1) := by decide +kernel
theorem d1_5 : decode prog_11_method_1_code 5 = .ok (.iload_n 1, 1) := by decide +kernel
theorem d1_6 : decode prog_11_method_1_code 6 = .ok (.bipush 64, 2) := by decide +kernel
theorem d1_8 : decode prog_11_method_1_code 8 = .ok (.iadd, 1) := by decide +kernel
theorem d1_9 : decode prog_11_method_1_code 9 = .ok (.iconst 1, 1) := by decide +kernel
theorem d1_10 : decode prog_11_method_1_code 10 = .ok (.isub, 1) := by decide +kernel
theorem d1_11 : decode prog_11_method_1_code 11 = .ok (.bipush 64, 2) := by decide +kernel
theorem d1_13 : decode prog_11_method_1_code 13 = .ok (.idiv, 1) := by decide +kernel
theorem d1_14 : decode prog_11_method_1_code 14 = .ok (.newarray .long, 2) := by decide +kernel
theorem d1_16 : decode prog_11_method_1_code 16 = .ok (.putfield 9, 3) := by decide +kernel
theorem d1_19 : decode prog_11_method_1_code 19 = .ok (.return_, 1) := by decide +kernel
theorem pn_1 : plainName "com/example/punctilio/punctilio/engine/PixelMarks" = true := by first | (simp [plainName, overriddenIn]; done) | decide +kernel
theorem ef_1 (m : MethodId) (p0 : Addr) (p1 : Int32) : entryFrame m #[(.ref p0), (.int p1)] 2 = mkF m 0 #[.val (.ref p0), .val (.int p1)] [] := by first | (simp [entryFrame, mkF, argsToLocals, Value.category]; done) | rfl
def Q_1 (Z : State) (p0 : Addr) (p1 : Int32)  (h0 : Heap) (n0 : Nat) (v : Option Value) (h : Heap) (L : List Loc) : Prop := ∃ w : Addr, v = none ∧ Fr n0 L ∧ h0.size ≤ w ∧ Keep h0 h [p0] ∧ Exa Z h p0 "com/example/punctilio/punctilio/engine/PixelMarks" ∧ Fld Z h p0 "com/example/punctilio/punctilio/engine/PixelMarks" "words" "[J" (.ref w) ∧ own_A Z h w .long (((p1 + (64 : Int32)) - (1 : Int32)) / (64 : Int32)).toNatClampNeg (fun i => .long (own_zJ i))
set_option maxRecDepth 65536 in
set_option maxHeartbeats 40000000 in
theorem rm_1 (l : Launch) (Z : State) (a0 : Array Value) (hw : ∀ d ∈ tables_1, d.before a0 Z = true) (ws : List Jvm.Cond) (p0 : Addr) (p1 : Int32)  (h0 : Heap) (n0 : Nat) (Z0 : n0 ≤ h0.size) (E_p0 : Exa Z h0 p0 "com/example/punctilio/punctilio/engine/PixelMarks") (F_p0_words : Fld Z h0 p0 "com/example/punctilio/punctilio/engine/PixelMarks" "words" "[J" .null) (ge_p0 : n0 ≤ p0) (hp : 0 < p1.toInt ∧ p1.toInt ≤ 256) :
    MetFree l (⟨"com/example/punctilio/punctilio/engine/PixelMarks", "<init>", "(I)V"⟩ : MethodName) (head1 (Jvm.Cond.code (⟨"com/example/punctilio/punctilio/engine/PixelMarks", "<init>", "(I)V"⟩ : MethodName) prog_11_method_1_code 2 none :: ws) ({ frames := 1, cells := 1, slots := 4, locals := 12 } : Room)) (fun a U => a = #[(.ref p0), (.int p1)] ∧ Z.Warmed39 U.vm ∧ U.heap = h0) (fun _ _ _ _ _ => True) (fun _ U o U' => ∃ v L, o = .returned v ∧ Q_1 Z p0 p1 h0 n0 v U'.heap L ∧ FrameEnd U o U' L ({ frames := 1, cells := 1, slots := 4, locals := 12 } : Room).cells ({ frames := 1, cells := 1, slots := 4, locals := 12 } : Room).slots) := by
  refine MetFree.of_bodySF (plainFor_of_name pn_1) hisR ?_
  intro p e s m args below meth c s₁ Bd hml0 hP hK
  obtain ⟨rfl, hZ, hh⟩ := hP
  have hx := Bd.exec
  have hby := Bd.bytes
  have hml : c.maxLocals = 2 := hml0
  have hown : s.vm.findClass "com/example/punctilio/punctilio/engine/PixelMarks" = some m.cls := findClass_of_methodNamed Bd.named
  have hnm := (name_of_methodNamed Bd.named Bd.method).1
  have X0 : Stand p l e ({ frames := 1, cells := 1, slots := 4, locals := 12 } : Room) s m #[(.ref p0), (.int p1)] below meth c s₁ [] 0 0 := Stand.of_body Bd
  have e0 : s₁.heap = h0 := by rw [← hh, Bd.state]; rfl
  have N0 := Fr.nil n0
  have K0 : Keep h0 h0 [p0] := Keep.refl h0 _
  have pre0 : ∀ t, Steps p.tables e below (s₁.setTop (mkF m 0 #[.val (.ref p0), .val (.int p1)] [])) t → Steps p.tables e below (s₁.setTop (entryFrame m #[(.ref p0), (.int p1)] 2)) t := fun t k => castTop (ef_1 m p0 p1) k
  have pre1 : ∀ t, Steps p.tables e below (s₁.setTop (mkF m 1 #[.val (.ref p0), .val (.int p1)] [(.ref p0)])) t → Steps p.tables e below (s₁.setTop (entryFrame m #[(.ref p0), (.int p1)] 2)) t := by
    intro t k
    refine pre0 t ?_
    show Steps p.tables e below (s₁.setTop (mkF m 0 #[.val (.ref p0), .val (.int p1)] [])) _
    refine XS.aloadN X0.here hx rfl (hb hby d1_0) rfl rfl ?_
    exact k
  obtain ⟨T2, X2, e2, st2⟩ := initO X0 hx hZ hown (hw _ (List.mem_of_getElem? (i := 7) rfl)) (hw _ (List.mem_of_getElem? (i := 8) rfl)) (hw _ (List.mem_of_getElem? (i := 9) rfl)) e0 (g := (mkF m 1 #[.val (.ref p0), .val (.int p1)] [(.ref p0)])) rfl (by rw [hml]; rfl) rfl (hb hby d1_1) (by decide) (W := 0) (by show 2 * 0 + _ ≤ _; exact Nat.le_of_eq rfl) (by decide)
  have pre3 : ∀ t, Steps p.tables e below (T2.setTop (mkF m 14 #[.val (.ref p0), .val (.int p1)] [(.int (((p1 + (64 : Int32)) - (1 : Int32)) / (64 : Int32))), (.ref p0)])) t → Steps p.tables e below (s₁.setTop (entryFrame m #[(.ref p0), (.int p1)] 2)) t := by
    intro t k
    refine pre1 t ?_
    show Steps p.tables e below (s₁.setTop (mkF m 1 #[.val (.ref p0), .val (.int p1)] [(.ref p0)])) _
    refine st2 _ ?_
    show Steps p.tables e below (T2.setTop (mkF m 4 #[.val (.ref p0), .val (.int p1)] [])) _
    refine XS.aloadN X2.here hx rfl (hb hby d1_4) rfl rfl ?_
    show Steps p.tables e below (T2.setTop (mkF m 5 #[.val (.ref p0), .val (.int p1)] [(.ref p0)])) _
    refine XS.iloadN X2.here hx rfl (hb hby d1_5) rfl  ?_
    show Steps p.tables e below (T2.setTop (mkF m 6 #[.val (.ref p0), .val (.int p1)] [(.int p1), (.ref p0)])) _
    refine XS.bipush X2.here hx rfl (hb hby d1_6) ?_
    show Steps p.tables e below (T2.setTop (mkF m 8 #[.val (.ref p0), .val (.int p1)] [(.int (64 : Int32)), (.int p1), (.ref p0)])) _
    refine XS.iadd X2.here hx rfl (hb hby d1_8) rfl ?_
    show Steps p.tables e below (T2.setTop (mkF m 9 #[.val (.ref p0), .val (.int p1)] [(.int (p1 + (64 : Int32))), (.ref p0)])) _
    refine XS.iconst X2.here hx rfl (hb hby d1_9) ?_
    show Steps p.tables e below (T2.setTop (mkF m 10 #[.val (.ref p0), .val (.int p1)] [(.int (1 : Int32)), (.int (p1 + (64 : Int32))), (.ref p0)])) _
    refine XS.isub X2.here hx rfl (hb hby d1_10) rfl ?_
    show Steps p.tables e below (T2.setTop (mkF m 11 #[.val (.ref p0), .val (.int p1)] [(.int ((p1 + (64 : Int32)) - (1 : Int32))), (.ref p0)])) _
    refine XS.bipush X2.here hx rfl (hb hby d1_11) ?_
    show Steps p.tables e below (T2.setTop (mkF m 13 #[.val (.ref p0), .val (.int p1)] [(.int (64 : Int32)), (.int ((p1 + (64 : Int32)) - (1 : Int32))), (.ref p0)])) _
    refine XS.idiv X2.here hx rfl (hb hby d1_13) rfl (by decide) ?_
    exact k
  obtain ⟨T4, h4, b4, gb4, X4, e4, E4, A4, st4⟩ := own_newP X2 hx hZ (hw _ (List.mem_of_getElem? (i := 10) rfl)) e2 (g := (mkF m 14 #[.val (.ref p0), .val (.int p1)] [(.int (((p1 + (64 : Int32)) - (1 : Int32)) / (64 : Int32))), (.ref p0)])) rfl (hb hby d1_14) rfl (own_w p1 hp).1 (n := (((p1 + (64 : Int32)) - (1 : Int32)) / (64 : Int32)).toNatClampNeg) rfl (G := fun i => .long (own_zJ i)) (fun _ => rfl) (cap := 4) (own_w p1 hp).2 (by decide) (by decide) (by decide)
  have ne_p0_b4 : p0 ≠ b4 := Nat.ne_of_lt (Nat.lt_of_lt_of_le E_p0.lt (Nat.le_of_eq gb4.symm))
  have sz_b4 : h0.size ≤ b4 := Nat.le_trans K0.1 (Nat.le_of_eq gb4.symm)
  have ge_b4 : n0 ≤ b4 := Nat.le_trans Z0 (Nat.le_of_eq gb4.symm)
  have exa_p0_4 := E_p0.ext E4
  have fld_p0_words_4 := F_p0_words.ext E4
  have K4 := K0.ext E4
  have Z4 := Nat.le_trans Z0 E4.1
  have pre5 : ∀ t, Steps p.tables e below (T4.setTop (mkF m 16 #[.val (.ref p0), .val (.int p1)] [(.ref b4), (.ref p0)])) t → Steps p.tables e below (s₁.setTop (entryFrame m #[(.ref p0), (.int p1)] 2)) t := by
    intro t k
    refine pre3 t ?_
    show Steps p.tables e below (T2.setTop (mkF m 14 #[.val (.ref p0), .val (.int p1)] [(.int (((p1 + (64 : Int32)) - (1 : Int32)) / (64 : Int32))), (.ref p0)])) _
    refine st4 _ ?_
    exact k
  obtain ⟨T6, h6, X6, e6, W6, st6⟩ := putF X4 hx hZ hown (host := "") (Or.inl (hw _ (List.mem_of_getElem? (i := 11) rfl))) Via.refl e4 fld_p0_words_4 exa_p0_4 (Or.inr ⟨(hw _ (List.mem_of_getElem? (i := 12) rfl)), rfl, hnm⟩) (hw _ (List.mem_of_getElem? (i := 2) rfl)) (ty := (.array .long)) (by decide) rfl rfl (g := (mkF m 16 #[.val (.ref p0), .val (.int p1)] [(.ref b4), (.ref p0)])) rfl rfl (hb hby d1_16)
  have Fw6 := fld_p0_words_4.same W6
  have exa_p0_6 := exa_p0_4.wr W6
  have arr_b4_6 := A4.other W6 ne_p0_b4.symm
  have K6 := K4.wr W6 (Or.inl (List.mem_of_getElem? (i := 0) rfl))
  have Z6 := Nat.le_trans Z4 (Nat.le_of_eq W6.size.symm)
  have N6 := Fr.snoc X6 N0 ge_p0
  obtain ⟨fs, hr, hrun, hended, hW, hsame⟩ := X6.leave (v := none) (fun _ => rfl)
  refine ⟨_, _, pre5 _ ?_, hrun, hended, _, _, rfl, ?_, ⟨_, rfl⟩, hW, hsame.mono (by decide) (by decide)⟩
  · show Steps p.tables e below (T4.setTop (mkF m 16 #[.val (.ref p0), .val (.int p1)] [(.ref b4), (.ref p0)])) _
    refine st6 _ ?_
    show Steps p.tables e below (T6.setTop (mkF m 19 #[.val (.ref p0), .val (.int p1)] [])) _
    exact X6.returnOut hx Bd.returns (hb hby d1_19) hr
  · show Q_1 Z p0 p1 h0 n0 _ T6.heap _
    rw [e6]
    exact ⟨b4, rfl, N6, sz_b4, K6, exa_p0_6, Fw6, arr_b4_6⟩
theorem d4_0 : decode prog_11_method_2_code 0 = .ok (.aload_n 0, 1) := by decide +kernel
theorem d4_1 : decode prog_11_method_2_code 1 = .ok (.getfield 9, 3) := by decide +kernel
theorem d4_4 : decode prog_11_method_2_code 4 = .ok (.iload_n 1, 1) := by decide +kernel
theorem d4_5 : decode prog_11_method_2_code 5 = .ok (.bipush 6, 2) := by decide +kernel
theorem d4_7 : decode prog_11_method_2_code 7 = .ok (.iushr, 1) := by decide +kernel
theorem d4_8 : decode prog_11_method_2_code 8 = .ok (.laload, 1) := by decide +kernel
theorem d4_9 : decode prog_11_method_2_code 9 = .ok (.lconst 1, 1) := by decide +kernel
theorem d4_10 : decode prog_11_method_2_code 10 = .ok (.iload_n 1, 1) := by decide +kernel
theorem d4_11 : decode prog_11_method_2_code 11 = .ok (.lshl, 1) := by decide +kernel
theorem d4_12 : decode prog_11_method_2_code 12 = .ok (.land, 1) := by decide +kernel
theorem d4_13 : decode prog_11_method_2_code 13 = .ok (.lconst 0, 1) := by decide +kernel
theorem d4_14 : decode prog_11_method_2_code 14 = .ok (.lcmp, 1) := by decide +kernel
theorem d4_15 : decode prog_11_method_2_code 15 = .ok (.ifCond .eq 7, 3) := by decide +kernel
theorem d4_18 : decode prog_11_method_2_code 18 = .ok (.iconst 1, 1) := by decide +kernel
theorem d4_19 : decode prog_11_method_2_code 19 = .ok (.goto 4, 3) := by decide +kernel
theorem d4_22 : decode prog_11_method_2_code 22 = .ok (.iconst 0, 1) := by decide +kernel
theorem d4_23 : decode prog_11_method_2_code 23 = .ok (.ireturn, 1) := by decide +kernel
theorem pn_4 : plainName "com/example/punctilio/punctilio/engine/PixelMarks" = true := by first | (simp [plainName, overriddenIn]; done) | decide +kernel
theorem ef_4 (m : MethodId) (p0 : Addr) (p1 : Int32) : entryFrame m #[(.ref p0), (.int p1)] 2 = mkF m 0 #[.val (.ref p0), .val (.int p1)] [] := by first | (simp [entryFrame, mkF, argsToLocals, Value.category]; done) | rfl
def f_4 (p1 : Int32) (n_ : Nat) (g_ : Nat → Int64) : Int32 := let ms0_23 : Int32 := (if ((g_ ((p1.toUInt32 >>> ((6 : Int32) &&& 31).toUInt32).toInt32).toNatClampNeg) &&& ((1 : Int64) <<< (p1 &&& 0x3f).toInt64)) = (0 : Int64) then (0 : Int32) else (1 : Int32)); ms0_23
def Q_4 (Z : State) (p0 : Addr) (p1 : Int32) (w : Addr) (n_ : Nat) (g_ : Nat → Int64) (h0 : Heap) (n0 : Nat) (v : Option Value) (h : Heap) (L : List Loc) : Prop := v = some (.int (f_4 p1 n_ g_)) ∧ Fr n0 L ∧ h = h0
set_option maxRecDepth 65536 in
set_option maxHeartbeats 40000000 in
theorem rm_4 (l : Launch) (Z : State) (a0 : Array Value) (hw : ∀ d ∈ tables_1, d.before a0 Z = true) (ws : List Jvm.Cond) (p0 : Addr) (p1 : Int32) (w : Addr) (n_ : Nat) (g_ : Nat → Int64) (h0 : Heap) (n0 : Nat) (Z0 : n0 ≤ h0.size) (F_p0_words : Fld Z h0 p0 "com/example/punctilio/punctilio/engine/PixelMarks" "words" "[J" (.ref w)) (A_w : own_A Z h0 w .long n_ (fun i => .long (g_ i))) (hi : ¬ ((p1.toUInt32 >>> ((6 : Int32) &&& 31).toUInt32).toInt32) < 0 ∧ ((p1.toUInt32 >>> ((6 : Int32) &&& 31).toUInt32).toInt32).toNatClampNeg < n_) :
    MetFree l (⟨"com/example/punctilio/punctilio/engine/PixelMarks", "has", "(I)Z"⟩ : MethodName) (head1 (Jvm.Cond.code (⟨"com/example/punctilio/punctilio/engine/PixelMarks", "has", "(I)Z"⟩ : MethodName) prog_11_method_2_code 2 (some .boolean) :: ws) ({ frames := 0, cells := 0, slots := 0, locals := 0 } : Room)) (fun a U => a = #[(.ref p0), (.int p1)] ∧ Z.Warmed39 U.vm ∧ U.heap = h0) (fun _ _ _ _ _ => True) (fun _ U o U' => ∃ v L, o = .returned v ∧ Q_4 Z p0 p1 w n_ g_ h0 n0 v U'.heap L ∧ FrameEnd U o U' L ({ frames := 0, cells := 0, slots := 0, locals := 0 } : Room).cells ({ frames := 0, cells := 0, slots := 0, locals := 0 } : Room).slots) := by
  refine MetFree.of_bodySF (plainFor_of_name pn_4) hisR ?_
  intro p e s m args below meth c s₁ Bd hml0 hP hK
  obtain ⟨rfl, hZ, hh⟩ := hP
  have hx := Bd.exec
  have hby := Bd.bytes
  have hml : c.maxLocals = 2 := hml0
  have hown : s.vm.findClass "com/example/punctilio/punctilio/engine/PixelMarks" = some m.cls := findClass_of_methodNamed Bd.named
  have hnm := (name_of_methodNamed Bd.named Bd.method).1
  have X0 : Stand p l e ({ frames := 0, cells := 0, slots := 0, locals := 0 } : Room) s m #[(.ref p0), (.int p1)] below meth c s₁ [] 0 0 := Stand.of_body Bd
  have e0 : s₁.heap = h0 := by rw [← hh, Bd.state]; rfl
  have N0 := Fr.nil n0
  have K0 : Keep h0 h0 [] := Keep.refl h0 _
  have pre0 : ∀ t, Steps p.tables e below (s₁.setTop (mkF m 0 #[.val (.ref p0), .val (.int p1)] [])) t → Steps p.tables e below (s₁.setTop (entryFrame m #[(.ref p0), (.int p1)] 2)) t := fun t k => castTop (ef_4 m p0 p1) k
  have pre1 : ∀ t, Steps p.tables e below (s₁.setTop (mkF m 1 #[.val (.ref p0), .val (.int p1)] [(.ref p0)])) t → Steps p.tables e below (s₁.setTop (entryFrame m #[(.ref p0), (.int p1)] 2)) t := by
    intro t k
    refine pre0 t ?_
    show Steps p.tables e below (s₁.setTop (mkF m 0 #[.val (.ref p0), .val (.int p1)] [])) _
    refine XS.aloadN X0.here hx rfl (hb hby d4_0) rfl rfl ?_
    exact k
  obtain ⟨T2, X2, e2, st2⟩ := getF X0 hx hZ hown (host := "") (Or.inl (hw _ (List.mem_of_getElem? (i := 11) rfl))) Via.refl e0 F_p0_words (g := (mkF m 1 #[.val (.ref p0), .val (.int p1)] [(.ref p0)])) rfl rfl (hb hby d4_1)
  have pre3 : ∀ t, Steps p.tables e below (T2.setTop (mkF m 15 #[.val (.ref p0), .val (.int p1)] [(.int (lcmpW ((g_ ((p1.toUInt32 >>> ((6 : Int32) &&& 31).toUInt32).toInt32).toNatClampNeg) &&& ((1 : Int64) <<< (p1 &&& 0x3f).toInt64)) (0 : Int64)))])) t → Steps p.tables e below (s₁.setTop (entryFrame m #[(.ref p0), (.int p1)] 2)) t := by
    intro t k
    refine pre1 t ?_
    show Steps p.tables e below (s₁.setTop (mkF m 1 #[.val (.ref p0), .val (.int p1)] [(.ref p0)])) _
    refine st2 _ ?_
    show Steps p.tables e below (T2.setTop (mkF m 4 #[.val (.ref p0), .val (.int p1)] [(.ref w)])) _
    refine XS.iloadN X2.here hx rfl (hb hby d4_4) rfl  ?_
    show Steps p.tables e below (T2.setTop (mkF m 5 #[.val (.ref p0), .val (.int p1)] [(.int p1), (.ref w)])) _
    refine XS.bipush X2.here hx rfl (hb hby d4_5) ?_
    show Steps p.tables e below (T2.setTop (mkF m 7 #[.val (.ref p0), .val (.int p1)] [(.int (6 : Int32)), (.int p1), (.ref w)])) _
    refine XS.iushr X2.here hx rfl (hb hby d4_7) rfl ?_
    show Steps p.tables e below (T2.setTop (mkF m 8 #[.val (.ref p0), .val (.int p1)] [(.int ((p1.toUInt32 >>> ((6 : Int32) &&& 31).toUInt32).toInt32)), (.ref w)])) _
    refine own_ldJ X2 hx hZ e2 A_w (j := ((p1.toUInt32 >>> ((6 : Int32) &&& 31).toUInt32).toInt32)) (k := ((p1.toUInt32 >>> ((6 : Int32) &&& 31).toUInt32).toInt32).toNatClampNeg) hi.1 rfl hi.2 (g := (mkF m 8 #[.val (.ref p0), .val (.int p1)] [(.int ((p1.toUInt32 >>> ((6 : Int32) &&& 31).toUInt32).toInt32)), (.ref w)])) rfl rfl (hb hby d4_8) ?_
    show Steps p.tables e below (T2.setTop (mkF m 9 #[.val (.ref p0), .val (.int p1)] [(.long (g_ ((p1.toUInt32 >>> ((6 : Int32) &&& 31).toUInt32).toInt32).toNatClampNeg))])) _
    refine XS.lconst X2.here hx rfl (hb hby d4_9) ?_
    show Steps p.tables e below (T2.setTop (mkF m 10 #[.val (.ref p0), .val (.int p1)] [(.long (1 : Int64)), (.long (g_ ((p1.toUInt32 >>> ((6 : Int32) &&& 31).toUInt32).toInt32).toNatClampNeg))])) _
    refine XS.iloadN X2.here hx rfl (hb hby d4_10) rfl  ?_
    show Steps p.tables e below (T2.setTop (mkF m 11 #[.val (.ref p0), .val (.int p1)] [(.int p1), (.long (1 : Int64)), (.long (g_ ((p1.toUInt32 >>> ((6 : Int32) &&& 31).toUInt32).toInt32).toNatClampNeg))])) _
    refine XS.lshl X2.here hx rfl (hb hby d4_11) rfl ?_
    show Steps p.tables e below (T2.setTop (mkF m 12 #[.val (.ref p0), .val (.int p1)] [(.long ((1 : Int64) <<< (p1 &&& 0x3f).toInt64)), (.long (g_ ((p1.toUInt32 >>> ((6 : Int32) &&& 31).toUInt32).toInt32).toNatClampNeg))])) _
    refine XS.land X2.here hx rfl (hb hby d4_12) rfl ?_
    show Steps p.tables e below (T2.setTop (mkF m 13 #[.val (.ref p0), .val (.int p1)] [(.long ((g_ ((p1.toUInt32 >>> ((6 : Int32) &&& 31).toUInt32).toInt32).toNatClampNeg) &&& ((1 : Int64) <<< (p1 &&& 0x3f).toInt64)))])) _
    refine XS.lconst X2.here hx rfl (hb hby d4_13) ?_
    show Steps p.tables e below (T2.setTop (mkF m 14 #[.val (.ref p0), .val (.int p1)] [(.long (0 : Int64)), (.long ((g_ ((p1.toUInt32 >>> ((6 : Int32) &&& 31).toUInt32).toInt32).toNatClampNeg) &&& ((1 : Int64) <<< (p1 &&& 0x3f).toInt64)))])) _
    refine XS.lcmp X2.here hx rfl (hb hby d4_14) rfl ?_
    exact k
  obtain ⟨ms0_23, hms0_23⟩ : ∃ z : Int32, z = (if ((g_ ((p1.toUInt32 >>> ((6 : Int32) &&& 31).toUInt32).toInt32).toNatClampNeg) &&& ((1 : Int64) <<< (p1 &&& 0x3f).toInt64)) = (0 : Int64) then (0 : Int32) else (1 : Int32)) := ⟨_, rfl⟩
  have pre4 : ∀ t, Steps p.tables e below (T2.setTop (mkF m 23 #[.val (.ref p0), .val (.int p1)] [(.int ms0_23)])) t → Steps p.tables e below (s₁.setTop (entryFrame m #[(.ref p0), (.int p1)] 2)) t := by
    intro t k
    refine pre3 t ?_
    by_cases hc15 : ((g_ ((p1.toUInt32 >>> ((6 : Int32) &&& 31).toUInt32).toInt32).toNatClampNeg) &&& ((1 : Int64) <<< (p1 &&& 0x3f).toInt64)) = (0 : Int64)
    · show Steps p.tables e below (T2.setTop (mkF m 15 #[.val (.ref p0), .val (.int p1)] [(.int (lcmpW ((g_ ((p1.toUInt32 >>> ((6 : Int32) &&& 31).toUInt32).toInt32).toNatClampNeg) &&& ((1 : Int64) <<< (p1 &&& 0x3f).toInt64)) (0 : Int64)))])) _
      refine XS.ifYes X2.here hx rfl (pc0 := 15) (pc' := 22) rfl (hb hby d4_15) rfl ((if0 _ _).trans (teq ((lw_eq _ _).mpr hc15)).1) (by decide) (by decide) ?_
      show Steps p.tables e below (T2.setTop (mkF m 22 #[.val (.ref p0), .val (.int p1)] [])) _
      refine XS.iconst X2.here hx rfl (hb hby d4_22) ?_
      have qms0_23 : ms0_23 = (0 : Int32) := by rw [hms0_23, if_pos hc15]
      rw [qms0_23] at k
      exact k
    · show Steps p.tables e below (T2.setTop (mkF m 15 #[.val (.ref p0), .val (.int p1)] [(.int (lcmpW ((g_ ((p1.toUInt32 >>> ((6 : Int32) &&& 31).toUInt32).toInt32).toNatClampNeg) &&& ((1 : Int64) <<< (p1 &&& 0x3f).toInt64)) (0 : Int64)))])) _
      refine XS.ifNo X2.here hx rfl (hb hby d4_15) rfl ((if0 _ _).trans (feq (fun q => hc15 ((lw_eq _ _).mp q))).1) ?_
      show Steps p.tables e below (T2.setTop (mkF m 18 #[.val (.ref p0), .val (.int p1)] [])) _
      refine XS.iconst X2.here hx rfl (hb hby d4_18) ?_
      show Steps p.tables e below (T2.setTop (mkF m 19 #[.val (.ref p0), .val (.int p1)] [(.int (1 : Int32))])) _
      refine XS.goto X2.here hx rfl (pc0 := 19) (pc' := 23) rfl (hb hby d4_19) (by decide) (by decide) ?_
      have qms0_23 : ms0_23 = (1 : Int32) := by rw [hms0_23, if_neg hc15]
      rw [qms0_23] at k
      exact k
  have hnar : nar .boolean ms0_23 = ms0_23 := by rw [hms0_23]; (repeat' split) <;> rfl
  obtain ⟨fs, hr, hrun, hended, hW, hsame⟩ := X2.leave (v := some (.int ms0_23)) (fun h => by rw [Bd.returns] at h; cases h)
  refine ⟨_, _, pre4 _ ?_, hrun, hended, _, _, rfl, ?_, ⟨_, rfl⟩, hW, hsame.mono (by decide) (by decide)⟩
  · show Steps p.tables e below (T2.setTop (mkF m 23 #[.val (.ref p0), .val (.int p1)] [(.int ms0_23)])) _
    exact retN X2 hx (t := .boolean) Bd.returns (by simp) (hb hby d4_23) (by rw [hnar]; exact hr)
  · show Q_4 Z p0 p1 w n_ g_ h0 n0 _ T2.heap _
    rw [e2]
    exact ⟨congrArg (fun z => some (Value.int z)) (by subst hms0_23; rfl : ms0_23 = f_4 p1 n_ g_), N0, rfl⟩
theorem d6_0 : decode prog_11_method_3_code 0 = .ok (.aload_n 0, 1) := by decide +kernel
theorem d6_1 : decode prog_11_method_3_code 1 = .ok (.getfield 9, 3) := by decide +kernel
theorem d6_4 : decode prog_11_method_3_code 4 = .ok (.iload_n 1, 1) := by decide +kernel
theorem d6_5 : decode prog_11_method_3_code 5 = .ok (.bipush 6, 2) := by decide +kernel
theorem d6_7 : decode prog_11_method_3_code 7 = .ok (.iushr, 1) := by decide +kernel
theorem d6_8 : decode prog_11_method_3_code 8 = .ok (.dup2, 1) := by decide +kernel
theorem d6_9 : decode prog_11_method_3_code 9 = .ok (.laload, 1) := by decide +kernel
theorem d6_10 : decode prog_11_method_3_code 10 = .ok (.lconst 1, 1) := by decide +kernel
theorem d6_11 : decode prog_11_method_3_code 11 = .ok (.iload_n 1, 1) := by decide +kernel
theorem d6_12 : decode prog_11_method_3_code 12 = .ok (.lshl, 1) := by decide +kernel
theorem d6_13 : decode prog_11_method_3_code 13 = .ok (.lor, 1) := by decide +kernel
theorem d6_14 : decode prog_11_method_3_code 14 = .ok (.lastore, 1) := by decide +kernel
theorem d6_15 : decode prog_11_method_3_code 15 = .ok (.return_, 1) := by decide +kernel
theorem pn_6 : plainName "com/example/punctilio/punctilio/engine/PixelMarks" = true := by first | (simp [plainName, overriddenIn]; done) | decide +kernel
theorem ef_6 (m : MethodId) (p0 : Addr) (p1 : Int32) : entryFrame m #[(.ref p0), (.int p1)] 2 = mkF m 0 #[.val (.ref p0), .val (.int p1)] [] := by first | (simp [entryFrame, mkF, argsToLocals, Value.category]; done) | rfl
def f_6_1 (p1 : Int32) (n_ : Nat) (g_ : Nat → Int64) : Nat → Int64 := let g_14 : Nat → Int64 := (own_upd g_ ((p1.toUInt32 >>> ((6 : Int32) &&& 31).toUInt32).toInt32).toNatClampNeg ((g_ ((p1.toUInt32 >>> ((6 : Int32) &&& 31).toUInt32).toInt32).toNatClampNeg) ||| ((1 : Int64) <<< (p1 &&& 0x3f).toInt64))); g_14
def Q_6 (Z : State) (p0 : Addr) (p1 : Int32) (w : Addr) (n_ : Nat) (g_ : Nat → Int64) (h0 : Heap) (n0 : Nat) (v : Option Value) (h : Heap) (L : List Loc) : Prop := v = none ∧ Fr n0 L ∧ Keep h0 h [w] ∧ own_A Z h w .long n_ (fun i => .long ((f_6_1 p1 n_ g_) i))
set_option maxRecDepth 65536 in
set_option maxHeartbeats 40000000 in
theorem rm_6 (l : Launch) (Z : State) (a0 : Array Value) (hw : ∀ d ∈ tables_1, d.before a0 Z = true) (ws : List Jvm.Cond) (p0 : Addr) (p1 : Int32) (w : Addr) (n_ : Nat) (g_ : Nat → Int64) (h0 : Heap) (n0 : Nat) (Z0 : n0 ≤ h0.size) (F_p0_words : Fld Z h0 p0 "com/example/punctilio/punctilio/engine/PixelMarks" "words" "[J" (.ref w)) (A_w : own_A Z h0 w .long n_ (fun i => .long (g_ i))) (ge_w : n0 ≤ w) (ne_p0_w : p0 ≠ w) (hi : ¬ ((p1.toUInt32 >>> ((6 : Int32) &&& 31).toUInt32).toInt32) < 0 ∧ ((p1.toUInt32 >>> ((6 : Int32) &&& 31).toUInt32).toInt32).toNatClampNeg < n_) :
    MetFree l (⟨"com/example/punctilio/punctilio/engine/PixelMarks", "mark", "(I)V"⟩ : MethodName) (head1 (Jvm.Cond.code (⟨"com/example/punctilio/punctilio/engine/PixelMarks", "mark", "(I)V"⟩ : MethodName) prog_11_method_3_code 2 none :: ws) ({ frames := 0, cells := 0, slots := 0, locals := 0 } : Room)) (fun a U => a = #[(.ref p0), (.int p1)] ∧ Z.Warmed39 U.vm ∧ U.heap = h0) (fun _ _ _ _ _ => True) (fun _ U o U' => ∃ v L, o = .returned v ∧ Q_6 Z p0 p1 w n_ g_ h0 n0 v U'.heap L ∧ FrameEnd U o U' L ({ frames := 0, cells := 0, slots := 0, locals := 0 } : Room).cells ({ frames := 0, cells := 0, slots := 0, locals := 0 } : Room).slots) := by
  refine MetFree.of_bodySF (plainFor_of_name pn_6) hisR ?_
  intro p e s m args below meth c s₁ Bd hml0 hP hK
  obtain ⟨rfl, hZ, hh⟩ := hP
  have hx := Bd.exec
  have hby := Bd.bytes
  have hml : c.maxLocals = 2 := hml0
  have hown : s.vm.findClass "com/example/punctilio/punctilio/engine/PixelMarks" = some m.cls := findClass_of_methodNamed Bd.named
  have hnm := (name_of_methodNamed Bd.named Bd.method).1
  have X0 : Stand p l e ({ frames := 0, cells := 0, slots := 0, locals := 0 } : Room) s m #[(.ref p0), (.int p1)] below meth c s₁ [] 0 0 := Stand.of_body Bd
  have e0 : s₁.heap = h0 := by rw [← hh, Bd.state]; rfl
  have N0 := Fr.nil n0
  have K0 : Keep h0 h0 [w] := Keep.refl h0 _
  have pre0 : ∀ t, Steps p.tables e below (s₁.setTop (mkF m 0 #[.val (.ref p0), .val (.int p1)] [])) t → Steps p.tables e below (s₁.setTop (entryFrame m #[(.ref p0), (.int p1)] 2)) t := fun t k => castTop (ef_6 m p0 p1) k
  have pre1 : ∀ t, Steps p.tables e below (s₁.setTop (mkF m 1 #[.val (.ref p0), .val (.int p1)] [(.ref p0)])) t → Steps p.tables e below (s₁.setTop (entryFrame m #[(.ref p0), (.int p1)] 2)) t := by
    intro t k
    refine pre0 t ?_
    show Steps p.tables e below (s₁.setTop (mkF m 0 #[.val (.ref p0), .val (.int p1)] [])) _
    refine XS.aloadN X0.here hx rfl (hb hby d6_0) rfl rfl ?_
    exact k
  obtain ⟨T2, X2, e2, st2⟩ := getF X0 hx hZ hown (host := "") (Or.inl (hw _ (List.mem_of_getElem? (i := 11) rfl))) Via.refl e0 F_p0_words (g := (mkF m 1 #[.val (.ref p0), .val (.int p1)] [(.ref p0)])) rfl rfl (hb hby d6_1)
  have pre3 : ∀ t, Steps p.tables e below (T2.setTop (mkF m 14 #[.val (.ref p0), .val (.int p1)] [(.long ((g_ ((p1.toUInt32 >>> ((6 : Int32) &&& 31).toUInt32).toInt32).toNatClampNeg) ||| ((1 : Int64) <<< (p1 &&& 0x3f).toInt64))), (.int ((p1.toUInt32 >>> ((6 : Int32) &&& 31).toUInt32).toInt32)), (.ref w)])) t → Steps p.tables e below (s₁.setTop (entryFrame m #[(.ref p0), (.int p1)] 2)) t := by
    intro t k
    refine pre1 t ?_
    show Steps p.tables e below (s₁.setTop (mkF m 1 #[.val (.ref p0), .val (.int p1)] [(.ref p0)])) _
    refine st2 _ ?_
    show Steps p.tables e below (T2.setTop (mkF m 4 #[.val (.ref p0), .val (.int p1)] [(.ref w)])) _
    refine XS.iloadN X2.here hx rfl (hb hby d6_4) rfl  ?_
    show Steps p.tables e below (T2.setTop (mkF m 5 #[.val (.ref p0), .val (.int p1)] [(.int p1), (.ref w)])) _
    refine XS.bipush X2.here hx rfl (hb hby d6_5) ?_
    show Steps p.tables e below (T2.setTop (mkF m 7 #[.val (.ref p0), .val (.int p1)] [(.int (6 : Int32)), (.int p1), (.ref w)])) _
    refine XS.iushr X2.here hx rfl (hb hby d6_7) rfl ?_
    show Steps p.tables e below (T2.setTop (mkF m 8 #[.val (.ref p0), .val (.int p1)] [(.int ((p1.toUInt32 >>> ((6 : Int32) &&& 31).toUInt32).toInt32)), (.ref w)])) _
    jvm_step X2.here [X2.here.top, hx, (hb hby d6_8), Value.category]
    show Steps p.tables e below (T2.setTop (mkF m 9 #[.val (.ref p0), .val (.int p1)] [(.int ((p1.toUInt32 >>> ((6 : Int32) &&& 31).toUInt32).toInt32)), (.ref w), (.int ((p1.toUInt32 >>> ((6 : Int32) &&& 31).toUInt32).toInt32)), (.ref w)])) _
    refine own_ldJ X2 hx hZ e2 A_w (j := ((p1.toUInt32 >>> ((6 : Int32) &&& 31).toUInt32).toInt32)) (k := ((p1.toUInt32 >>> ((6 : Int32) &&& 31).toUInt32).toInt32).toNatClampNeg) hi.1 rfl hi.2 (g := (mkF m 9 #[.val (.ref p0), .val (.int p1)] [(.int ((p1.toUInt32 >>> ((6 : Int32) &&& 31).toUInt32).toInt32)), (.ref w), (.int ((p1.toUInt32 >>> ((6 : Int32) &&& 31).toUInt32).toInt32)), (.ref w)])) rfl rfl (hb hby d6_9) ?_
    show Steps p.tables e below (T2.setTop (mkF m 10 #[.val (.ref p0), .val (.int p1)] [(.long (g_ ((p1.toUInt32 >>> ((6 : Int32) &&& 31).toUInt32).toInt32).toNatClampNeg)), (.int ((p1.toUInt32 >>> ((6 : Int32) &&& 31).toUInt32).toInt32)), (.ref w)])) _
    refine XS.lconst X2.here hx rfl (hb hby d6_10) ?_
    show Steps p.tables e below (T2.setTop (mkF m 11 #[.val (.ref p0), .val (.int p1)] [(.long (1 : Int64)), (.long (g_ ((p1.toUInt32 >>> ((6 : Int32) &&& 31).toUInt32).toInt32).toNatClampNeg)), (.int ((p1.toUInt32 >>> ((6 : Int32) &&& 31).toUInt32).toInt32)), (.ref w)])) _
    refine XS.iloadN X2.here hx rfl (hb hby d6_11) rfl  ?_
    show Steps p.tables e below (T2.setTop (mkF m 12 #[.val (.ref p0), .val (.int p1)] [(.int p1), (.long (1 : Int64)), (.long (g_ ((p1.toUInt32 >>> ((6 : Int32) &&& 31).toUInt32).toInt32).toNatClampNeg)), (.int ((p1.toUInt32 >>> ((6 : Int32) &&& 31).toUInt32).toInt32)), (.ref w)])) _
    refine XS.lshl X2.here hx rfl (hb hby d6_12) rfl ?_
    show Steps p.tables e below (T2.setTop (mkF m 13 #[.val (.ref p0), .val (.int p1)] [(.long ((1 : Int64) <<< (p1 &&& 0x3f).toInt64)), (.long (g_ ((p1.toUInt32 >>> ((6 : Int32) &&& 31).toUInt32).toInt32).toNatClampNeg)), (.int ((p1.toUInt32 >>> ((6 : Int32) &&& 31).toUInt32).toInt32)), (.ref w)])) _
    refine XS.lor X2.here hx rfl (hb hby d6_13) rfl ?_
    exact k
  obtain ⟨T4, h4, X4, e4, W4, A4, st4⟩ := own_stJ X2 hx hZ e2 A_w (j := ((p1.toUInt32 >>> ((6 : Int32) &&& 31).toUInt32).toInt32)) (x := ((g_ ((p1.toUInt32 >>> ((6 : Int32) &&& 31).toUInt32).toInt32).toNatClampNeg) ||| ((1 : Int64) <<< (p1 &&& 0x3f).toInt64))) (k := ((p1.toUInt32 >>> ((6 : Int32) &&& 31).toUInt32).toInt32).toNatClampNeg) hi.1 rfl hi.2 (g := (mkF m 14 #[.val (.ref p0), .val (.int p1)] [(.long ((g_ ((p1.toUInt32 >>> ((6 : Int32) &&& 31).toUInt32).toInt32).toNatClampNeg) ||| ((1 : Int64) <<< (p1 &&& 0x3f).toInt64))), (.int ((p1.toUInt32 >>> ((6 : Int32) &&& 31).toUInt32).toInt32)), (.ref w)])) rfl rfl (hb hby d6_14)
  obtain ⟨g_14, hg_14⟩ : ∃ z : Nat → Int64, z = (own_upd g_ ((p1.toUInt32 >>> ((6 : Int32) &&& 31).toUInt32).toInt32).toNatClampNeg ((g_ ((p1.toUInt32 >>> ((6 : Int32) &&& 31).toUInt32).toInt32).toNatClampNeg) ||| ((1 : Int64) <<< (p1 &&& 0x3f).toInt64))) := ⟨_, rfl⟩
  rw [← hg_14] at A4
  have fld_p0_words_4 := F_p0_words.other W4 (Or.inl ne_p0_w)
  have K4 := K0.wr W4 (Or.inl (List.mem_of_getElem? (i := 0) rfl))
  have Z4 := Nat.le_trans Z0 (Nat.le_of_eq W4.size.symm)
  have N4 := Fr.snoc X4 N0 ge_w
  obtain ⟨fs, hr, hrun, hended, hW, hsame⟩ := X4.leave (v := none) (fun _ => rfl)
  refine ⟨_, _, pre3 _ ?_, hrun, hended, _, _, rfl, ?_, ⟨_, rfl⟩, hW, hsame.mono (by decide) (by decide)⟩
  · show Steps p.tables e below (T2.setTop (mkF m 14 #[.val (.ref p0), .val (.int p1)] [(.long ((g_ ((p1.toUInt32 >>> ((6 : Int32) &&& 31).toUInt32).toInt32).toNatClampNeg) ||| ((1 : Int64) <<< (p1 &&& 0x3f).toInt64))), (.int ((p1.toUInt32 >>> ((6 : Int32) &&& 31).toUInt32).toInt32)), (.ref w)])) _
    refine st4 _ ?_
    show Steps p.tables e below (T4.setTop (mkF m 15 #[.val (.ref p0), .val (.int p1)] [])) _
    exact X4.returnOut hx Bd.returns (hb hby d6_15) hr
  · show Q_6 Z p0 p1 w n_ g_ h0 n0 _ T4.heap _
    rw [e4]
    have o1 := (by subst hg_14; rfl : g_14 = f_6_1 p1 n_ g_)
    have r1 := A4
    rw [o1] at r1
    exact ⟨rfl, N4, K4, r1⟩
theorem d3_0 : decode prog_11_method_4_code 0 = .ok (.aload_n 0, 1) := by decide +kernel
theorem d3_1 : decode prog_11_method_4_code 1 = .ok (.getfield 9, 3) := by decide +kernel
theorem d3_4 : decode prog_11_method_4_code 4 = .ok (.iload_n 1, 1) := by decide +kernel
theorem d3_5 : decode prog_11_method_4_code 5 = .ok (.bipush 6, 2) := by decide +kernel
theorem d3_7 : decode prog_11_method_4_code 7 = .ok (.iushr, 1) := by decide +kernel
theorem d3_8 : decode prog_11_method_4_code 8 = .ok (.dup2, 1) := by decide +kernel
theorem d3_9 : decode prog_11_method_4_code 9 = .ok (.laload, 1) := by decide +kernel
theorem d3_10 : decode prog_11_method_4_code 10 = .ok (.lconst 1, 1) := by decide +kernel
theorem d3_11 : decode prog_11_method_4_code 11 = .ok (.iload_n 1, 1) := by decide +kernel
theorem d3_12 : decode prog_11_method_4_code 12 = .ok (.lshl, 1) := by decide +kernel
theorem d3_13 : decode prog_11_method_4_code 13 = .ok (.ldc2_w 15, 3) := by decide +kernel
theorem d3_16 : decode prog_11_method_4_code 16 = .ok (.lxor, 1) := by decide +kernel
theorem d3_17 : decode prog_11_method_4_code 17 = .ok (.land, 1) := by decide +kernel
theorem d3_18 : decode prog_11_method_4_code 18 = .ok (.lastore, 1) := by decide +kernel
theorem d3_19 : decode prog_11_method_4_code 19 = .ok (.return_, 1) := by decide +kernel
theorem pn_3 : plainName "com/example/punctilio/punctilio/engine/PixelMarks" = true := by first | (simp [plainName, overriddenIn]; done) | decide +kernel
theorem ef_3 (m : MethodId) (p0 : Addr) (p1 : Int32) : entryFrame m #[(.ref p0), (.int p1)] 2 = mkF m 0 #[.val (.ref p0), .val (.int p1)] [] := by first | (simp [entryFrame, mkF, argsToLocals, Value.category]; done) | rfl
def f_3_1 (p1 : Int32) (n_ : Nat) (g_ : Nat → Int64) : Nat → Int64 := let g_18 : Nat → Int64 := (own_upd g_ ((p1.toUInt32 >>> ((6 : Int32) &&& 31).toUInt32).toInt32).toNatClampNeg ((g_ ((p1.toUInt32 >>> ((6 : Int32) &&& 31).toUInt32).toInt32).toNatClampNeg) &&& (((1 : Int64) <<< (p1 &&& 0x3f).toInt64) ^^^ (-1 : Int64)))); g_18
def Q_3 (Z : State) (p0 : Addr) (p1 : Int32) (w : Addr) (n_ : Nat) (g_ : Nat → Int64) (h0 : Heap) (n0 : Nat) (v : Option Value) (h : Heap) (L : List Loc) : Prop := v = none ∧ Fr n0 L ∧ Keep h0 h [w] ∧ own_A Z h w .long n_ (fun i => .long ((f_3_1 p1 n_ g_) i))
set_option maxRecDepth 65536 in
set_option maxHeartbeats 40000000 in
theorem rm_3 (l : Launch) (Z : State) (a0 : Array Value) (hw : ∀ d ∈ tables_1, d.before a0 Z = true) (ws : List Jvm.Cond) (p0 : Addr) (p1 : Int32) (w : Addr) (n_ : Nat) (g_ : Nat → Int64) (h0 : Heap) (n0 : Nat) (Z0 : n0 ≤ h0.size) (F_p0_words : Fld Z h0 p0 "com/example/punctilio/punctilio/engine/PixelMarks" "words" "[J" (.ref w)) (A_w : own_A Z h0 w .long n_ (fun i => .long (g_ i))) (ge_w : n0 ≤ w) (ne_p0_w : p0 ≠ w) (hi : ¬ ((p1.toUInt32 >>> ((6 : Int32) &&& 31).toUInt32).toInt32) < 0 ∧ ((p1.toUInt32 >>> ((6 : Int32) &&& 31).toUInt32).toInt32).toNatClampNeg < n_) :
    MetFree l (⟨"com/example/punctilio/punctilio/engine/PixelMarks", "unmark", "(I)V"⟩ : MethodName) (head1 (Jvm.Cond.code (⟨"com/example/punctilio/punctilio/engine/PixelMarks", "unmark", "(I)V"⟩ : MethodName) prog_11_method_4_code 2 none :: ws) ({ frames := 0, cells := 0, slots := 0, locals := 0 } : Room)) (fun a U => a = #[(.ref p0), (.int p1)] ∧ Z.Warmed39 U.vm ∧ U.heap = h0) (fun _ _ _ _ _ => True) (fun _ U o U' => ∃ v L, o = .returned v ∧ Q_3 Z p0 p1 w n_ g_ h0 n0 v U'.heap L ∧ FrameEnd U o U' L ({ frames := 0, cells := 0, slots := 0, locals := 0 } : Room).cells ({ frames := 0, cells := 0, slots := 0, locals := 0 } : Room).slots) := by
  refine MetFree.of_bodySF (plainFor_of_name pn_3) hisR ?_
  intro p e s m args below meth c s₁ Bd hml0 hP hK
  obtain ⟨rfl, hZ, hh⟩ := hP
  have hx := Bd.exec
  have hby := Bd.bytes
  have hml : c.maxLocals = 2 := hml0
  have hown : s.vm.findClass "com/example/punctilio/punctilio/engine/PixelMarks" = some m.cls := findClass_of_methodNamed Bd.named
  have hnm := (name_of_methodNamed Bd.named Bd.method).1
  have X0 : Stand p l e ({ frames := 0, cells := 0, slots := 0, locals := 0 } : Room) s m #[(.ref p0), (.int p1)] below meth c s₁ [] 0 0 := Stand.of_body Bd
  have e0 : s₁.heap = h0 := by rw [← hh, Bd.state]; rfl
  have N0 := Fr.nil n0
  have K0 : Keep h0 h0 [w] := Keep.refl h0 _
  have pre0 : ∀ t, Steps p.tables e below (s₁.setTop (mkF m 0 #[.val (.ref p0), .val (.int p1)] [])) t → Steps p.tables e below (s₁.setTop (entryFrame m #[(.ref p0), (.int p1)] 2)) t := fun t k => castTop (ef_3 m p0 p1) k
  have pre1 : ∀ t, Steps p.tables e below (s₁.setTop (mkF m 1 #[.val (.ref p0), .val (.int p1)] [(.ref p0)])) t → Steps p.tables e below (s₁.setTop (entryFrame m #[(.ref p0), (.int p1)] 2)) t := by
    intro t k
    refine pre0 t ?_
    show Steps p.tables e below (s₁.setTop (mkF m 0 #[.val (.ref p0), .val (.int p1)] [])) _
    refine XS.aloadN X0.here hx rfl (hb hby d3_0) rfl rfl ?_
    exact k
  obtain ⟨T2, X2, e2, st2⟩ := getF X0 hx hZ hown (host := "") (Or.inl (hw _ (List.mem_of_getElem? (i := 11) rfl))) Via.refl e0 F_p0_words (g := (mkF m 1 #[.val (.ref p0), .val (.int p1)] [(.ref p0)])) rfl rfl (hb hby d3_1)
  have pre3 : ∀ t, Steps p.tables e below (T2.setTop (mkF m 18 #[.val (.ref p0), .val (.int p1)] [(.long ((g_ ((p1.toUInt32 >>> ((6 : Int32) &&& 31).toUInt32).toInt32).toNatClampNeg) &&& (((1 : Int64) <<< (p1 &&& 0x3f).toInt64) ^^^ (-1 : Int64)))), (.int ((p1.toUInt32 >>> ((6 : Int32) &&& 31).toUInt32).toInt32)), (.ref w)])) t → Steps p.tables e below (s₁.setTop (entryFrame m #[(.ref p0), (.int p1)] 2)) t := by
    intro t k
    refine pre1 t ?_
    show Steps p.tables e below (s₁.setTop (mkF m 1 #[.val (.ref p0), .val (.int p1)] [(.ref p0)])) _
    refine st2 _ ?_
    show Steps p.tables e below (T2.setTop (mkF m 4 #[.val (.ref p0), .val (.int p1)] [(.ref w)])) _
    refine XS.iloadN X2.here hx rfl (hb hby d3_4) rfl  ?_
    show Steps p.tables e below (T2.setTop (mkF m 5 #[.val (.ref p0), .val (.int p1)] [(.int p1), (.ref w)])) _
    refine XS.bipush X2.here hx rfl (hb hby d3_5) ?_
    show Steps p.tables e below (T2.setTop (mkF m 7 #[.val (.ref p0), .val (.int p1)] [(.int (6 : Int32)), (.int p1), (.ref w)])) _
    refine XS.iushr X2.here hx rfl (hb hby d3_7) rfl ?_
    show Steps p.tables e below (T2.setTop (mkF m 8 #[.val (.ref p0), .val (.int p1)] [(.int ((p1.toUInt32 >>> ((6 : Int32) &&& 31).toUInt32).toInt32)), (.ref w)])) _
    jvm_step X2.here [X2.here.top, hx, (hb hby d3_8), Value.category]
    show Steps p.tables e below (T2.setTop (mkF m 9 #[.val (.ref p0), .val (.int p1)] [(.int ((p1.toUInt32 >>> ((6 : Int32) &&& 31).toUInt32).toInt32)), (.ref w), (.int ((p1.toUInt32 >>> ((6 : Int32) &&& 31).toUInt32).toInt32)), (.ref w)])) _
    refine own_ldJ X2 hx hZ e2 A_w (j := ((p1.toUInt32 >>> ((6 : Int32) &&& 31).toUInt32).toInt32)) (k := ((p1.toUInt32 >>> ((6 : Int32) &&& 31).toUInt32).toInt32).toNatClampNeg) hi.1 rfl hi.2 (g := (mkF m 9 #[.val (.ref p0), .val (.int p1)] [(.int ((p1.toUInt32 >>> ((6 : Int32) &&& 31).toUInt32).toInt32)), (.ref w), (.int ((p1.toUInt32 >>> ((6 : Int32) &&& 31).toUInt32).toInt32)), (.ref w)])) rfl rfl (hb hby d3_9) ?_
    show Steps p.tables e below (T2.setTop (mkF m 10 #[.val (.ref p0), .val (.int p1)] [(.long (g_ ((p1.toUInt32 >>> ((6 : Int32) &&& 31).toUInt32).toInt32).toNatClampNeg)), (.int ((p1.toUInt32 >>> ((6 : Int32) &&& 31).toUInt32).toInt32)), (.ref w)])) _
    refine XS.lconst X2.here hx rfl (hb hby d3_10) ?_
    show Steps p.tables e below (T2.setTop (mkF m 11 #[.val (.ref p0), .val (.int p1)] [(.long (1 : Int64)), (.long (g_ ((p1.toUInt32 >>> ((6 : Int32) &&& 31).toUInt32).toInt32).toNatClampNeg)), (.int ((p1.toUInt32 >>> ((6 : Int32) &&& 31).toUInt32).toInt32)), (.ref w)])) _
    refine XS.iloadN X2.here hx rfl (hb hby d3_11) rfl  ?_
    show Steps p.tables e below (T2.setTop (mkF m 12 #[.val (.ref p0), .val (.int p1)] [(.int p1), (.long (1 : Int64)), (.long (g_ ((p1.toUInt32 >>> ((6 : Int32) &&& 31).toUInt32).toInt32).toNatClampNeg)), (.int ((p1.toUInt32 >>> ((6 : Int32) &&& 31).toUInt32).toInt32)), (.ref w)])) _
    refine XS.lshl X2.here hx rfl (hb hby d3_12) rfl ?_
    show Steps p.tables e below (T2.setTop (mkF m 13 #[.val (.ref p0), .val (.int p1)] [(.long ((1 : Int64) <<< (p1 &&& 0x3f).toInt64)), (.long (g_ ((p1.toUInt32 >>> ((6 : Int32) &&& 31).toUInt32).toInt32).toNatClampNeg)), (.int ((p1.toUInt32 >>> ((6 : Int32) &&& 31).toUInt32).toInt32)), (.ref w)])) _
    refine X2.ldc2Long hx hown (mvT hZ (hw _ (List.mem_of_getElem? (i := 18) rfl))) (g := (mkF m 13 #[.val (.ref p0), .val (.int p1)] [(.long ((1 : Int64) <<< (p1 &&& 0x3f).toInt64)), (.long (g_ ((p1.toUInt32 >>> ((6 : Int32) &&& 31).toUInt32).toInt32).toNatClampNeg)), (.int ((p1.toUInt32 >>> ((6 : Int32) &&& 31).toUInt32).toInt32)), (.ref w)])) rfl (hb hby d3_13) _ ?_
    show Steps p.tables e below (T2.setTop (mkF m 16 #[.val (.ref p0), .val (.int p1)] [(.long (-1 : Int64)), (.long ((1 : Int64) <<< (p1 &&& 0x3f).toInt64)), (.long (g_ ((p1.toUInt32 >>> ((6 : Int32) &&& 31).toUInt32).toInt32).toNatClampNeg)), (.int ((p1.toUInt32 >>> ((6 : Int32) &&& 31).toUInt32).toInt32)), (.ref w)])) _
    refine XS.lxor X2.here hx rfl (hb hby d3_16) rfl ?_
    show Steps p.tables e below (T2.setTop (mkF m 17 #[.val (.ref p0), .val (.int p1)] [(.long (((1 : Int64) <<< (p1 &&& 0x3f).toInt64) ^^^ (-1 : Int64))), (.long (g_ ((p1.toUInt32 >>> ((6 : Int32) &&& 31).toUInt32).toInt32).toNatClampNeg)), (.int ((p1.toUInt32 >>> ((6 : Int32) &&& 31).toUInt32).toInt32)), (.ref w)])) _
    refine XS.land X2.here hx rfl (hb hby d3_17) rfl ?_
    exact k
  obtain ⟨T4, h4, X4, e4, W4, A4, st4⟩ := own_stJ X2 hx hZ e2 A_w (j := ((p1.toUInt32 >>> ((6 : Int32) &&& 31).toUInt32).toInt32)) (x := ((g_ ((p1.toUInt32 >>> ((6 : Int32) &&& 31).toUInt32).toInt32).toNatClampNeg) &&& (((1 : Int64) <<< (p1 &&& 0x3f).toInt64) ^^^ (-1 : Int64)))) (k := ((p1.toUInt32 >>> ((6 : Int32) &&& 31).toUInt32).toInt32).toNatClampNeg) hi.1 rfl hi.2 (g := (mkF m 18 #[.val (.ref p0), .val (.int p1)] [(.long ((g_ ((p1.toUInt32 >>> ((6 : Int32) &&& 31).toUInt32).toInt32).toNatClampNeg) &&& (((1 : Int64) <<< (p1 &&& 0x3f).toInt64) ^^^ (-1 : Int64)))), (.int ((p1.toUInt32 >>> ((6 : Int32) &&& 31).toUInt32).toInt32)), (.ref w)])) rfl rfl (hb hby d3_18)
  obtain ⟨g_18, hg_18⟩ : ∃ z : Nat → Int64, z = (own_upd g_ ((p1.toUInt32 >>> ((6 : Int32) &&& 31).toUInt32).toInt32).toNatClampNeg ((g_ ((p1.toUInt32 >>> ((6 : Int32) &&& 31).toUInt32).toInt32).toNatClampNeg) &&& (((1 : Int64) <<< (p1 &&& 0x3f).toInt64) ^^^ (-1 : Int64)))) := ⟨_, rfl⟩
  rw [← hg_18] at A4
  have fld_p0_words_4 := F_p0_words.other W4 (Or.inl ne_p0_w)
  have K4 := K0.wr W4 (Or.inl (List.mem_of_getElem? (i := 0) rfl))
  have Z4 := Nat.le_trans Z0 (Nat.le_of_eq W4.size.symm)
  have N4 := Fr.snoc X4 N0 ge_w
  obtain ⟨fs, hr, hrun, hended, hW, hsame⟩ := X4.leave (v := none) (fun _ => rfl)
  refine ⟨_, _, pre3 _ ?_, hrun, hended, _, _, rfl, ?_, ⟨_, rfl⟩, hW, hsame.mono (by decide) (by decide)⟩
  · show Steps p.tables e below (T2.setTop (mkF m 18 #[.val (.ref p0), .val (.int p1)] [(.long ((g_ ((p1.toUInt32 >>> ((6 : Int32) &&& 31).toUInt32).toInt32).toNatClampNeg) &&& (((1 : Int64) <<< (p1 &&& 0x3f).toInt64) ^^^ (-1 : Int64)))), (.int ((p1.toUInt32 >>> ((6 : Int32) &&& 31).toUInt32).toInt32)), (.ref w)])) _
    refine st4 _ ?_
    show Steps p.tables e below (T4.setTop (mkF m 19 #[.val (.ref p0), .val (.int p1)] [])) _
    exact X4.returnOut hx Bd.returns (hb hby d3_19) hr
  · show Q_3 Z p0 p1 w n_ g_ h0 n0 _ T4.heap _
    rw [e4]
    have o1 := (by subst hg_18; rfl : g_18 = f_3_1 p1 n_ g_)
    have r1 := A4
    rw [o1] at r1
    exact ⟨rfl, N4, K4, r1⟩
theorem d5_0 : decode method_2_code 0 = .ok (.iload_n 3, 1) := by decide +kernel
theorem d5_1 : decode method_2_code 1 = .ok (.ifCond .eq 8, 3) := by decide +kernel
theorem d5_4 : decode method_2_code 4 = .ok (.iload_n 0, 1) := by decide +kernel
theorem d5_5 : decode method_2_code 5 = .ok (.iload_n 1, 1) := by decide +kernel
theorem d5_6 : decode method_2_code 6 = .ok (.if_icmp .eq 13, 3) := by decide +kernel
theorem d5_9 : decode method_2_code 9 = .ok (.iload 4, 2) := by decide +kernel
theorem d5_11 : decode method_2_code 11 = .ok (.ifCond .eq 12, 3) := by decide +kernel
theorem d5_14 : decode method_2_code 14 = .ok (.iload_n 0, 1) := by decide +kernel
theorem d5_15 : decode method_2_code 15 = .ok (.iload_n 2, 1) := by decide +kernel
theorem d5_16 : decode method_2_code 16 = .ok (.if_icmp .ne 7, 3) := by decide +kernel
theorem d5_19 : decode method_2_code 19 = .ok (.iconst 1, 1) := by decide +kernel
theorem d5_20 : decode method_2_code 20 = .ok (.goto 4, 3) := by decide +kernel
theorem d5_23 : decode method_2_code 23 = .ok (.iconst 0, 1) := by decide +kernel
theorem d5_24 : decode method_2_code 24 = .ok (.ireturn, 1) := by decide +kernel
theorem pn_5 : plainName "com/example/punctilio/punctilio/engine/PixelMarksUnmarkPinLaw" = true := by first | (simp [plainName, overriddenIn]; done) | decide +kernel
theorem ef_5 (m : MethodId) (p0 : Int32) (p1 : Int32) (p2 : Int32) (p3 : Int32) (p4 : Int32) : entryFrame m #[(.int p0), (.int p1), (.int p2), (.int p3), (.int p4)] 5 = mkF m 0 #[.val (.int p0), .val (.int p1), .val (.int p2), .val (.int p3), .val (.int p4)] [] := by first | (simp [entryFrame, mkF, argsToLocals, Value.category]; done) | rfl
def f_5 (p0 : Int32) (p1 : Int32) (p2 : Int32) (p3 : Int32) (p4 : Int32) : Int32 := let ms0_24 : Int32 := (if p3 = (0 : Int32) then (if p4 = (0 : Int32) then (0 : Int32) else (if p0 = p2 then (1 : Int32) else (0 : Int32))) else (if p0 = p1 then (1 : Int32) else (if p4 = (0 : Int32) then (0 : Int32) else (if p0 = p2 then (1 : Int32) else (0 : Int32))))); ms0_24
def Q_5 (Z : State) (p0 : Int32) (p1 : Int32) (p2 : Int32) (p3 : Int32) (p4 : Int32)  (h0 : Heap) (n0 : Nat) (v : Option Value) (h : Heap) (L : List Loc) : Prop := v = some (.int (f_5 p0 p1 p2 p3 p4)) ∧ Fr n0 L ∧ h = h0
set_option maxRecDepth 65536 in
set_option maxHeartbeats 40000000 in
theorem rm_5 (l : Launch) (Z : State) (a0 : Array Value) (hw : ∀ d ∈ tables_1, d.before a0 Z = true) (ws : List Jvm.Cond) (p0 : Int32) (p1 : Int32) (p2 : Int32) (p3 : Int32) (p4 : Int32)  (h0 : Heap) (n0 : Nat) (Z0 : n0 ≤ h0.size)  :
    MetFree l (⟨"com/example/punctilio/punctilio/engine/PixelMarksUnmarkPinLaw", "wasMarked", "(IIIZZ)Z"⟩ : MethodName) (head1 (Jvm.Cond.code (⟨"com/example/punctilio/punctilio/engine/PixelMarksUnmarkPinLaw", "wasMarked", "(IIIZZ)Z"⟩ : MethodName) method_2_code 5 (some .boolean) :: ws) ({ frames := 0, cells := 0, slots := 0, locals := 0 } : Room)) (fun a U => a = #[(.int p0), (.int p1), (.int p2), (.int p3), (.int p4)] ∧ Z.Warmed39 U.vm ∧ U.heap = h0) (fun _ _ _ _ _ => True) (fun _ U o U' => ∃ v L, o = .returned v ∧ Q_5 Z p0 p1 p2 p3 p4 h0 n0 v U'.heap L ∧ FrameEnd U o U' L ({ frames := 0, cells := 0, slots := 0, locals := 0 } : Room).cells ({ frames := 0, cells := 0, slots := 0, locals := 0 } : Room).slots) := by
  refine MetFree.of_bodySF (plainFor_of_name pn_5) hisR ?_
  intro p e s m args below meth c s₁ Bd hml0 hP hK
  obtain ⟨rfl, hZ, hh⟩ := hP
  have hx := Bd.exec
  have hby := Bd.bytes
  have hml : c.maxLocals = 5 := hml0
  have hown : s.vm.findClass "com/example/punctilio/punctilio/engine/PixelMarksUnmarkPinLaw" = some m.cls := findClass_of_methodNamed Bd.named
  have hnm := (name_of_methodNamed Bd.named Bd.method).1
  have X0 : Stand p l e ({ frames := 0, cells := 0, slots := 0, locals := 0 } : Room) s m #[(.int p0), (.int p1), (.int p2), (.int p3), (.int p4)] below meth c s₁ [] 0 0 := Stand.of_body Bd
  have e0 : s₁.heap = h0 := by rw [← hh, Bd.state]; rfl
  have N0 := Fr.nil n0
  have K0 : Keep h0 h0 [] := Keep.refl h0 _
  have pre0 : ∀ t, Steps p.tables e below (s₁.setTop (mkF m 0 #[.val (.int p0), .val (.int p1), .val (.int p2), .val (.int p3), .val (.int p4)] [])) t → Steps p.tables e below (s₁.setTop (entryFrame m #[(.int p0), (.int p1), (.int p2), (.int p3), (.int p4)] 5)) t := fun t k => castTop (ef_5 m p0 p1 p2 p3 p4) k
  have pre1 : ∀ t, Steps p.tables e below (s₁.setTop (mkF m 1 #[.val (.int p0), .val (.int p1), .val (.int p2), .val (.int p3), .val (.int p4)] [(.int p3)])) t → Steps p.tables e below (s₁.setTop (entryFrame m #[(.int p0), (.int p1), (.int p2), (.int p3), (.int p4)] 5)) t := by
    intro t k
    refine pre0 t ?_
    show Steps p.tables e below (s₁.setTop (mkF m 0 #[.val (.int p0), .val (.int p1), .val (.int p2), .val (.int p3), .val (.int p4)] [])) _
    refine XS.iloadN X0.here hx rfl (hb hby d5_0) rfl  ?_
    exact k
  obtain ⟨ms0_24, hms0_24⟩ : ∃ z : Int32, z = (if p3 = (0 : Int32) then (if p4 = (0 : Int32) then (0 : Int32) else (if p0 = p2 then (1 : Int32) else (0 : Int32))) else (if p0 = p1 then (1 : Int32) else (if p4 = (0 : Int32) then (0 : Int32) else (if p0 = p2 then (1 : Int32) else (0 : Int32))))) := ⟨_, rfl⟩
  have pre2 : ∀ t, Steps p.tables e below (s₁.setTop (mkF m 24 #[.val (.int p0), .val (.int p1), .val (.int p2), .val (.int p3), .val (.int p4)] [(.int ms0_24)])) t → Steps p.tables e below (s₁.setTop (entryFrame m #[(.int p0), (.int p1), (.int p2), (.int p3), (.int p4)] 5)) t := by
    intro t k
    refine pre1 t ?_
    by_cases hc1 : p3 = (0 : Int32)
    · show Steps p.tables e below (s₁.setTop (mkF m 1 #[.val (.int p0), .val (.int p1), .val (.int p2), .val (.int p3), .val (.int p4)] [(.int p3)])) _
      refine XS.ifYes X0.here hx rfl (pc0 := 1) (pc' := 9) rfl (hb hby d5_1) rfl ((if0 _ _).trans (teq hc1).1) (by decide) (by decide) ?_
      show Steps p.tables e below (s₁.setTop (mkF m 9 #[.val (.int p0), .val (.int p1), .val (.int p2), .val (.int p3), .val (.int p4)] [])) _
      refine XS.iload X0.here hx rfl (hb hby d5_9) rfl  ?_
      by_cases hc11 : p4 = (0 : Int32)
      · show Steps p.tables e below (s₁.setTop (mkF m 11 #[.val (.int p0), .val (.int p1), .val (.int p2), .val (.int p3), .val (.int p4)] [(.int p4)])) _
        refine XS.ifYes X0.here hx rfl (pc0 := 11) (pc' := 23) rfl (hb hby d5_11) rfl ((if0 _ _).trans (teq hc11).1) (by decide) (by decide) ?_
        show Steps p.tables e below (s₁.setTop (mkF m 23 #[.val (.int p0), .val (.int p1), .val (.int p2), .val (.int p3), .val (.int p4)] [])) _
        refine XS.iconst X0.here hx rfl (hb hby d5_23) ?_
        have qms0_24 : ms0_24 = (0 : Int32) := by rw [hms0_24, if_pos hc1, if_pos hc11]
        rw [qms0_24] at k
        exact k
      · show Steps p.tables e below (s₁.setTop (mkF m 11 #[.val (.int p0), .val (.int p1), .val (.int p2), .val (.int p3), .val (.int p4)] [(.int p4)])) _
        refine XS.ifNo X0.here hx rfl (hb hby d5_11) rfl ((if0 _ _).trans (feq hc11).1) ?_
        show Steps p.tables e below (s₁.setTop (mkF m 14 #[.val (.int p0), .val (.int p1), .val (.int p2), .val (.int p3), .val (.int p4)] [])) _
        refine XS.iloadN X0.here hx rfl (hb hby d5_14) rfl  ?_
        show Steps p.tables e below (s₁.setTop (mkF m 15 #[.val (.int p0), .val (.int p1), .val (.int p2), .val (.int p3), .val (.int p4)] [(.int p0)])) _
        refine XS.iloadN X0.here hx rfl (hb hby d5_15) rfl  ?_
        by_cases hc16 : p0 = p2
        · show Steps p.tables e below (s₁.setTop (mkF m 16 #[.val (.int p0), .val (.int p1), .val (.int p2), .val (.int p3), .val (.int p4)] [(.int p2), (.int p0)])) _
          refine XS.icmpNo X0.here hx rfl (hb hby d5_16) rfl (teq hc16).2 ?_
          show Steps p.tables e below (s₁.setTop (mkF m 19 #[.val (.int p0), .val (.int p1), .val (.int p2), .val (.int p3), .val (.int p4)] [])) _
          refine XS.iconst X0.here hx rfl (hb hby d5_19) ?_
          show Steps p.tables e below (s₁.setTop (mkF m 20 #[.val (.int p0), .val (.int p1), .val (.int p2), .val (.int p3), .val (.int p4)] [(.int (1 : Int32))])) _
          refine XS.goto X0.here hx rfl (pc0 := 20) (pc' := 24) rfl (hb hby d5_20) (by decide) (by decide) ?_
          have qms0_24 : ms0_24 = (1 : Int32) := by rw [hms0_24, if_pos hc1, if_neg hc11, if_pos hc16]
          rw [qms0_24] at k
          exact k
        · show Steps p.tables e below (s₁.setTop (mkF m 16 #[.val (.int p0), .val (.int p1), .val (.int p2), .val (.int p3), .val (.int p4)] [(.int p2), (.int p0)])) _
          refine XS.icmpYes X0.here hx rfl (pc0 := 16) (pc' := 23) rfl (hb hby d5_16) rfl (feq hc16).2 (by decide) (by decide) ?_
          show Steps p.tables e below (s₁.setTop (mkF m 23 #[.val (.int p0), .val (.int p1), .val (.int p2), .val (.int p3), .val (.int p4)] [])) _
          refine XS.iconst X0.here hx rfl (hb hby d5_23) ?_
          have qms0_24 : ms0_24 = (0 : Int32) := by rw [hms0_24, if_pos hc1, if_neg hc11, if_neg hc16]
          rw [qms0_24] at k
          exact k
    · show Steps p.tables e below (s₁.setTop (mkF m 1 #[.val (.int p0), .val (.int p1), .val (.int p2), .val (.int p3), .val (.int p4)] [(.int p3)])) _
      refine XS.ifNo X0.here hx rfl (hb hby d5_1) rfl ((if0 _ _).trans (feq hc1).1) ?_
      show Steps p.tables e below (s₁.setTop (mkF m 4 #[.val (.int p0), .val (.int p1), .val (.int p2), .val (.int p3), .val (.int p4)] [])) _
      refine XS.iloadN X0.here hx rfl (hb hby d5_4) rfl  ?_
      show Steps p.tables e below (s₁.setTop (mkF m 5 #[.val (.int p0), .val (.int p1), .val (.int p2), .val (.int p3), .val (.int p4)] [(.int p0)])) _
      refine XS.iloadN X0.here hx rfl (hb hby d5_5) rfl  ?_
      by_cases hc6 : p0 = p1
      · show Steps p.tables e below (s₁.setTop (mkF m 6 #[.val (.int p0), .val (.int p1), .val (.int p2), .val (.int p3), .val (.int p4)] [(.int p1), (.int p0)])) _
        refine XS.icmpYes X0.here hx rfl (pc0 := 6) (pc' := 19) rfl (hb hby d5_6) rfl (teq hc6).1 (by decide) (by decide) ?_
        show Steps p.tables e below (s₁.setTop (mkF m 19 #[.val (.int p0), .val (.int p1), .val (.int p2), .val (.int p3), .val (.int p4)] [])) _
        refine XS.iconst X0.here hx rfl (hb hby d5_19) ?_
        show Steps p.tables e below (s₁.setTop (mkF m 20 #[.val (.int p0), .val (.int p1), .val (.int p2), .val (.int p3), .val (.int p4)] [(.int (1 : Int32))])) _
        refine XS.goto X0.here hx rfl (pc0 := 20) (pc' := 24) rfl (hb hby d5_20) (by decide) (by decide) ?_
        have qms0_24 : ms0_24 = (1 : Int32) := by rw [hms0_24, if_neg hc1, if_pos hc6]
        rw [qms0_24] at k
        exact k
      · show Steps p.tables e below (s₁.setTop (mkF m 6 #[.val (.int p0), .val (.int p1), .val (.int p2), .val (.int p3), .val (.int p4)] [(.int p1), (.int p0)])) _
        refine XS.icmpNo X0.here hx rfl (hb hby d5_6) rfl (feq hc6).1 ?_
        show Steps p.tables e below (s₁.setTop (mkF m 9 #[.val (.int p0), .val (.int p1), .val (.int p2), .val (.int p3), .val (.int p4)] [])) _
        refine XS.iload X0.here hx rfl (hb hby d5_9) rfl  ?_
        by_cases hc11 : p4 = (0 : Int32)
        · show Steps p.tables e below (s₁.setTop (mkF m 11 #[.val (.int p0), .val (.int p1), .val (.int p2), .val (.int p3), .val (.int p4)] [(.int p4)])) _
          refine XS.ifYes X0.here hx rfl (pc0 := 11) (pc' := 23) rfl (hb hby d5_11) rfl ((if0 _ _).trans (teq hc11).1) (by decide) (by decide) ?_
          show Steps p.tables e below (s₁.setTop (mkF m 23 #[.val (.int p0), .val (.int p1), .val (.int p2), .val (.int p3), .val (.int p4)] [])) _
          refine XS.iconst X0.here hx rfl (hb hby d5_23) ?_
          have qms0_24 : ms0_24 = (0 : Int32) := by rw [hms0_24, if_neg hc1, if_neg hc6, if_pos hc11]
          rw [qms0_24] at k
          exact k
        · show Steps p.tables e below (s₁.setTop (mkF m 11 #[.val (.int p0), .val (.int p1), .val (.int p2), .val (.int p3), .val (.int p4)] [(.int p4)])) _
          refine XS.ifNo X0.here hx rfl (hb hby d5_11) rfl ((if0 _ _).trans (feq hc11).1) ?_
          show Steps p.tables e below (s₁.setTop (mkF m 14 #[.val (.int p0), .val (.int p1), .val (.int p2), .val (.int p3), .val (.int p4)] [])) _
          refine XS.iloadN X0.here hx rfl (hb hby d5_14) rfl  ?_
          show Steps p.tables e below (s₁.setTop (mkF m 15 #[.val (.int p0), .val (.int p1), .val (.int p2), .val (.int p3), .val (.int p4)] [(.int p0)])) _
          refine XS.iloadN X0.here hx rfl (hb hby d5_15) rfl  ?_
          by_cases hc16 : p0 = p2
          · show Steps p.tables e below (s₁.setTop (mkF m 16 #[.val (.int p0), .val (.int p1), .val (.int p2), .val (.int p3), .val (.int p4)] [(.int p2), (.int p0)])) _
            refine XS.icmpNo X0.here hx rfl (hb hby d5_16) rfl (teq hc16).2 ?_
            show Steps p.tables e below (s₁.setTop (mkF m 19 #[.val (.int p0), .val (.int p1), .val (.int p2), .val (.int p3), .val (.int p4)] [])) _
            refine XS.iconst X0.here hx rfl (hb hby d5_19) ?_
            show Steps p.tables e below (s₁.setTop (mkF m 20 #[.val (.int p0), .val (.int p1), .val (.int p2), .val (.int p3), .val (.int p4)] [(.int (1 : Int32))])) _
            refine XS.goto X0.here hx rfl (pc0 := 20) (pc' := 24) rfl (hb hby d5_20) (by decide) (by decide) ?_
            have qms0_24 : ms0_24 = (1 : Int32) := by rw [hms0_24, if_neg hc1, if_neg hc6, if_neg hc11, if_pos hc16]
            rw [qms0_24] at k
            exact k
          · show Steps p.tables e below (s₁.setTop (mkF m 16 #[.val (.int p0), .val (.int p1), .val (.int p2), .val (.int p3), .val (.int p4)] [(.int p2), (.int p0)])) _
            refine XS.icmpYes X0.here hx rfl (pc0 := 16) (pc' := 23) rfl (hb hby d5_16) rfl (feq hc16).2 (by decide) (by decide) ?_
            show Steps p.tables e below (s₁.setTop (mkF m 23 #[.val (.int p0), .val (.int p1), .val (.int p2), .val (.int p3), .val (.int p4)] [])) _
            refine XS.iconst X0.here hx rfl (hb hby d5_23) ?_
            have qms0_24 : ms0_24 = (0 : Int32) := by rw [hms0_24, if_neg hc1, if_neg hc6, if_neg hc11, if_neg hc16]
            rw [qms0_24] at k
            exact k
  have hnar : nar .boolean ms0_24 = ms0_24 := by rw [hms0_24]; (repeat' split) <;> rfl
  obtain ⟨fs, hr, hrun, hended, hW, hsame⟩ := X0.leave (v := some (.int ms0_24)) (fun h => by rw [Bd.returns] at h; cases h)
  refine ⟨_, _, pre2 _ ?_, hrun, hended, _, _, rfl, ?_, ⟨_, rfl⟩, hW, hsame.mono (by decide) (by decide)⟩
  · show Steps p.tables e below (s₁.setTop (mkF m 24 #[.val (.int p0), .val (.int p1), .val (.int p2), .val (.int p3), .val (.int p4)] [(.int ms0_24)])) _
    exact retN X0 hx (t := .boolean) Bd.returns (by simp) (hb hby d5_24) (by rw [hnar]; exact hr)
  · show Q_5 Z p0 p1 p2 p3 p4 h0 n0 _ s₁.heap _
    rw [e0]
    exact ⟨congrArg (fun z => some (Value.int z)) (by subst hms0_24; rfl : ms0_24 = f_5 p0 p1 p2 p3 p4), N0, rfl⟩
theorem own_n (a : Int32) : 0 < ((a &&& (255 : Int32)) + (1 : Int32)).toInt ∧ ((a &&& (255 : Int32)) + (1 : Int32)).toInt ≤ 256 := by
  have a1 := c_mask a 255 8 (by decide) (by decide)
  have a2 := c_iadd (a &&& 255) 1
  have l1 : (1 : Int32).toInt = 1 := by decide
  have r2 := rng32 ((a &&& 255) + 1)
  omega
theorem own_np {a v : Int32} (h : v = ((a &&& (255 : Int32)) + (1 : Int32))) : 0 < v.toInt ∧ v.toInt ≤ 256 := h ▸ own_n a
theorem pd_0 : parseMethodDescriptor "(I)V" = some ⟨[.int], none⟩ := by decide +kernel
theorem pd_1 : parseMethodDescriptor "(I)Z" = some ⟨[.int], some .boolean⟩ := by decide +kernel
theorem pd_2 : parseMethodDescriptor "(IIIZZ)Z" = some ⟨[.int, .int, .int, .boolean, .boolean], some .boolean⟩ := by decide +kernel
theorem pn_0 : plainName "com/example/punctilio/punctilio/engine/PixelMarksUnmarkPinLaw" = true := by first | (simp [plainName, overriddenIn]; done) | decide +kernel
theorem ef_0 (m : MethodId) (p0 : Int32) (p1 : Int32) (p2 : Int32) (p3 : Int32) (p4 : Int32) : entryFrame m #[(.int p0), (.int p1), (.int p2), (.int p3), (.int p4)] maxLocals = mkF m 0 #[.val (.int p0), .val (.int p1), .val (.int p2), .val (.int p3), .val (.int p4), .unset, .unset, .unset, .unset, .unset, .unset, .unset, .unset, .unset, .unset, .unset] [] := by first | (simp [entryFrame, mkF, argsToLocals, Value.category, maxLocals]; done) | rfl
def f_0 (p0 : Int32) (p1 : Int32) (p2 : Int32) (p3 : Int32) (p4 : Int32) : Int32 := let v5_7 : Int32 := ((p0 &&& (255 : Int32)) + (1 : Int32)); let v6_16 : Int32 := ((p1 &&& (2147483647 : Int32)) % v5_7); let v7_25 : Int32 := ((p2 &&& (2147483647 : Int32)) % v5_7); let v8_34 : Int32 := ((p3 &&& (2147483647 : Int32)) % v5_7); let ms0_48 : Int32 := (if (p4 &&& (1 : Int32)) = (0 : Int32) then (0 : Int32) else (1 : Int32)); let ms0_62 : Int32 := (if (p4 &&& (2 : Int32)) = (0 : Int32) then (0 : Int32) else (1 : Int32)); let ms0_76 : Int32 := (if (p4 &&& (4 : Int32)) = (0 : Int32) then (0 : Int32) else (1 : Int32)); let mg_w_9_101 : Nat → Int64 := (if ms0_48 = (0 : Int32) then own_zJ else (f_6_1 v6_16 (((v5_7 + (64 : Int32)) - (1 : Int32)) / (64 : Int32)).toNatClampNeg own_zJ)); let mg_w_9_113 : Nat → Int64 := (if ms0_62 = (0 : Int32) then mg_w_9_101 else (f_6_1 v7_25 (((v5_7 + (64 : Int32)) - (1 : Int32)) / (64 : Int32)).toNatClampNeg mg_w_9_101)); let mg_w_9_125 : Nat → Int64 := (if ms0_76 = (0 : Int32) then mg_w_9_113 else (f_6_1 v8_34 (((v5_7 + (64 : Int32)) - (1 : Int32)) / (64 : Int32)).toNatClampNeg mg_w_9_113)); let ms0_147 : Int32 := (if (f_4 v6_16 (((v5_7 + (64 : Int32)) - (1 : Int32)) / (64 : Int32)).toNatClampNeg (f_3_1 v6_16 (((v5_7 + (64 : Int32)) - (1 : Int32)) / (64 : Int32)).toNatClampNeg mg_w_9_125)) = (0 : Int32) then (1 : Int32) else (0 : Int32)); let ms0_184 : Int32 := (if (f_5 v7_25 v7_25 v8_34 ms0_62 ms0_76) = (0 : Int32) then (0 : Int32) else (if v7_25 = v6_16 then (0 : Int32) else (1 : Int32))); let ms0_192 : Int32 := (if (f_4 v7_25 (((v5_7 + (64 : Int32)) - (1 : Int32)) / (64 : Int32)).toNatClampNeg (f_3_1 v6_16 (((v5_7 + (64 : Int32)) - (1 : Int32)) / (64 : Int32)).toNatClampNeg mg_w_9_125)) = ms0_184 then (1 : Int32) else (0 : Int32)); let ms0_229 : Int32 := (if (f_5 v8_34 v7_25 v8_34 ms0_62 ms0_76) = (0 : Int32) then (0 : Int32) else (if v8_34 = v6_16 then (0 : Int32) else (1 : Int32))); let ms0_237 : Int32 := (if (f_4 v8_34 (((v5_7 + (64 : Int32)) - (1 : Int32)) / (64 : Int32)).toNatClampNeg (f_3_1 v6_16 (((v5_7 + (64 : Int32)) - (1 : Int32)) / (64 : Int32)).toNatClampNeg mg_w_9_125)) = ms0_229 then (1 : Int32) else (0 : Int32)); let ms0_259 : Int32 := (if ms0_147 = (0 : Int32) then (0 : Int32) else (if ms0_192 = (0 : Int32) then (0 : Int32) else (if ms0_237 = (0 : Int32) then (0 : Int32) else (1 : Int32)))); ms0_259
def Q_0 (Z : State) (p0 : Int32) (p1 : Int32) (p2 : Int32) (p3 : Int32) (p4 : Int32)  (h0 : Heap) (n0 : Nat) (v : Option Value) (h : Heap) (L : List Loc) : Prop := v = some (.int (f_0 p0 p1 p2 p3 p4)) ∧ Fr n0 L ∧ True
set_option maxRecDepth 65536 in
set_option maxHeartbeats 40000000 in
theorem rm_0 (l : Launch) (Z : State) (a0 : Array Value) (hw : ∀ d ∈ tables_1, d.before a0 Z = true) (ws : List Jvm.Cond) (p0 : Int32) (p1 : Int32) (p2 : Int32) (p3 : Int32) (p4 : Int32)  (h0 : Heap) (n0 : Nat) (Z0 : n0 ≤ h0.size)  :
    MetFree l x (head1 (Jvm.Cond.code x code maxLocals ret :: ws) room_1) (fun a U => a = #[(.int p0), (.int p1), (.int p2), (.int p3), (.int p4)] ∧ Z.Warmed39 U.vm ∧ U.heap = h0) (fun _ _ _ _ _ => True) (fun _ U o U' => ∃ v L, o = .returned v ∧ Q_0 Z p0 p1 p2 p3 p4 h0 n0 v U'.heap L ∧ FrameEnd U o U' L 2 5) := by
  refine MetFree.of_bodySF (plainFor_of_name pn_0) hisR ?_
  intro p e s m args below meth c s₁ Bd hml0 hP hK
  obtain ⟨rfl, hZ, hh⟩ := hP
  have hx := Bd.exec
  have hby := Bd.bytes
  have hml : c.maxLocals = 16 := hml0
  have hown : s.vm.findClass "com/example/punctilio/punctilio/engine/PixelMarksUnmarkPinLaw" = some m.cls := findClass_of_methodNamed Bd.named
  have hnm := (name_of_methodNamed Bd.named Bd.method).1
  have X0 : Stand p l e room_1 s m #[(.int p0), (.int p1), (.int p2), (.int p3), (.int p4)] below meth c s₁ [] 0 0 := Stand.of_body Bd
  have e0 : s₁.heap = h0 := by rw [← hh, Bd.state]; rfl
  have N0 := Fr.nil n0
  have K0 : Keep h0 h0 [] := Keep.refl h0 _
  have pre0 : ∀ t, Steps p.tables e below (s₁.setTop (mkF m 0 #[.val (.int p0), .val (.int p1), .val (.int p2), .val (.int p3), .val (.int p4), .unset, .unset, .unset, .unset, .unset, .unset, .unset, .unset, .unset, .unset, .unset] [])) t → Steps p.tables e below (s₁.setTop (entryFrame m #[(.int p0), (.int p1), (.int p2), (.int p3), (.int p4)] maxLocals)) t := fun t k => castTop (ef_0 m p0 p1 p2 p3 p4) k
  obtain ⟨v5_7, hv5_7⟩ : ∃ z : Int32, z = ((p0 &&& (255 : Int32)) + (1 : Int32)) := ⟨_, rfl⟩
  obtain ⟨v6_16, hv6_16⟩ : ∃ z : Int32, z = ((p1 &&& (2147483647 : Int32)) % v5_7) := ⟨_, rfl⟩
  obtain ⟨v7_25, hv7_25⟩ : ∃ z : Int32, z = ((p2 &&& (2147483647 : Int32)) % v5_7) := ⟨_, rfl⟩
  obtain ⟨v8_34, hv8_34⟩ : ∃ z : Int32, z = ((p3 &&& (2147483647 : Int32)) % v5_7) := ⟨_, rfl⟩
  have pre1 : ∀ t, Steps p.tables e below (s₁.setTop (mkF m 40 #[.val (.int p0), .val (.int p1), .val (.int p2), .val (.int p3), .val (.int p4), .val (.int v5_7), .val (.int v6_16), .val (.int v7_25), .val (.int v8_34), .unset, .unset, .unset, .unset, .unset, .unset, .unset] [(.int (p4 &&& (1 : Int32)))])) t → Steps p.tables e below (s₁.setTop (entryFrame m #[(.int p0), (.int p1), (.int p2), (.int p3), (.int p4)] maxLocals)) t := by
    intro t k
    refine pre0 t ?_
    show Steps p.tables e below (s₁.setTop (mkF m 0 #[.val (.int p0), .val (.int p1), .val (.int p2), .val (.int p3), .val (.int p4), .unset, .unset, .unset, .unset, .unset, .unset, .unset, .unset, .unset, .unset, .unset] [])) _
    refine XS.iloadN X0.here hx rfl (hb hby at_0) rfl  ?_
    show Steps p.tables e below (s₁.setTop (mkF m 1 #[.val (.int p0), .val (.int p1), .val (.int p2), .val (.int p3), .val (.int p4), .unset, .unset, .unset, .unset, .unset, .unset, .unset, .unset, .unset, .unset, .unset] [(.int p0)])) _
    refine XS.sipush X0.here hx rfl (hb hby at_1) ?_
    show Steps p.tables e below (s₁.setTop (mkF m 4 #[.val (.int p0), .val (.int p1), .val (.int p2), .val (.int p3), .val (.int p4), .unset, .unset, .unset, .unset, .unset, .unset, .unset, .unset, .unset, .unset, .unset] [(.int (255 : Int32)), (.int p0)])) _
    refine XS.iand X0.here hx rfl (hb hby at_4) rfl ?_
    show Steps p.tables e below (s₁.setTop (mkF m 5 #[.val (.int p0), .val (.int p1), .val (.int p2), .val (.int p3), .val (.int p4), .unset, .unset, .unset, .unset, .unset, .unset, .unset, .unset, .unset, .unset, .unset] [(.int (p0 &&& (255 : Int32)))])) _
    refine XS.iconst X0.here hx rfl (hb hby at_5) ?_
    show Steps p.tables e below (s₁.setTop (mkF m 6 #[.val (.int p0), .val (.int p1), .val (.int p2), .val (.int p3), .val (.int p4), .unset, .unset, .unset, .unset, .unset, .unset, .unset, .unset, .unset, .unset, .unset] [(.int (1 : Int32)), (.int (p0 &&& (255 : Int32)))])) _
    refine XS.iadd X0.here hx rfl (hb hby at_6) rfl ?_
    show Steps p.tables e below (s₁.setTop (mkF m 7 #[.val (.int p0), .val (.int p1), .val (.int p2), .val (.int p3), .val (.int p4), .unset, .unset, .unset, .unset, .unset, .unset, .unset, .unset, .unset, .unset, .unset] [(.int ((p0 &&& (255 : Int32)) + (1 : Int32)))])) _
    refine XS.istore X0.here hx rfl (hb hby at_7) rfl (l' := #[.val (.int p0), .val (.int p1), .val (.int p2), .val (.int p3), .val (.int p4), .val (.int v5_7), .unset, .unset, .unset, .unset, .unset, .unset, .unset, .unset, .unset, .unset]) (by rw [hv5_7]; rfl) ?_
    show Steps p.tables e below (s₁.setTop (mkF m 9 #[.val (.int p0), .val (.int p1), .val (.int p2), .val (.int p3), .val (.int p4), .val (.int v5_7), .unset, .unset, .unset, .unset, .unset, .unset, .unset, .unset, .unset, .unset] [])) _
    refine XS.iloadN X0.here hx rfl (hb hby at_9) rfl  ?_
    show Steps p.tables e below (s₁.setTop (mkF m 10 #[.val (.int p0), .val (.int p1), .val (.int p2), .val (.int p3), .val (.int p4), .val (.int v5_7), .unset, .unset, .unset, .unset, .unset, .unset, .unset, .unset, .unset, .unset] [(.int p1)])) _
    refine X0.ldcInt hx hown (mvT hZ (hw _ (List.mem_of_getElem? (i := 0) rfl))) (g := (mkF m 10 #[.val (.int p0), .val (.int p1), .val (.int p2), .val (.int p3), .val (.int p4), .val (.int v5_7), .unset, .unset, .unset, .unset, .unset, .unset, .unset, .unset, .unset, .unset] [(.int p1)])) rfl (hb hby at_10) _ ?_
    show Steps p.tables e below (s₁.setTop (mkF m 12 #[.val (.int p0), .val (.int p1), .val (.int p2), .val (.int p3), .val (.int p4), .val (.int v5_7), .unset, .unset, .unset, .unset, .unset, .unset, .unset, .unset, .unset, .unset] [(.int (2147483647 : Int32)), (.int p1)])) _
    refine XS.iand X0.here hx rfl (hb hby at_12) rfl ?_
    show Steps p.tables e below (s₁.setTop (mkF m 13 #[.val (.int p0), .val (.int p1), .val (.int p2), .val (.int p3), .val (.int p4), .val (.int v5_7), .unset, .unset, .unset, .unset, .unset, .unset, .unset, .unset, .unset, .unset] [(.int (p1 &&& (2147483647 : Int32)))])) _
    refine XS.iload X0.here hx rfl (hb hby at_13) rfl  ?_
    show Steps p.tables e below (s₁.setTop (mkF m 15 #[.val (.int p0), .val (.int p1), .val (.int p2), .val (.int p3), .val (.int p4), .val (.int v5_7), .unset, .unset, .unset, .unset, .unset, .unset, .unset, .unset, .unset, .unset] [(.int v5_7), (.int (p1 &&& (2147483647 : Int32)))])) _
    refine iremM X0 hx rfl (hb hby at_15) rfl (by rw [hv5_7]; exact own_nz _ (own_n p0).1) ?_
    show Steps p.tables e below (s₁.setTop (mkF m 16 #[.val (.int p0), .val (.int p1), .val (.int p2), .val (.int p3), .val (.int p4), .val (.int v5_7), .unset, .unset, .unset, .unset, .unset, .unset, .unset, .unset, .unset, .unset] [(.int ((p1 &&& (2147483647 : Int32)) % v5_7))])) _
    refine XS.istore X0.here hx rfl (hb hby at_16) rfl (l' := #[.val (.int p0), .val (.int p1), .val (.int p2), .val (.int p3), .val (.int p4), .val (.int v5_7), .val (.int v6_16), .unset, .unset, .unset, .unset, .unset, .unset, .unset, .unset, .unset]) (by rw [hv6_16]; rfl) ?_
    show Steps p.tables e below (s₁.setTop (mkF m 18 #[.val (.int p0), .val (.int p1), .val (.int p2), .val (.int p3), .val (.int p4), .val (.int v5_7), .val (.int v6_16), .unset, .unset, .unset, .unset, .unset, .unset, .unset, .unset, .unset] [])) _
    refine XS.iloadN X0.here hx rfl (hb hby at_18) rfl  ?_
    show Steps p.tables e below (s₁.setTop (mkF m 19 #[.val (.int p0), .val (.int p1), .val (.int p2), .val (.int p3), .val (.int p4), .val (.int v5_7), .val (.int v6_16), .unset, .unset, .unset, .unset, .unset, .unset, .unset, .unset, .unset] [(.int p2)])) _
    refine X0.ldcInt hx hown (mvT hZ (hw _ (List.mem_of_getElem? (i := 0) rfl))) (g := (mkF m 19 #[.val (.int p0), .val (.int p1), .val (.int p2), .val (.int p3), .val (.int p4), .val (.int v5_7), .val (.int v6_16), .unset, .unset, .unset, .unset, .unset, .unset, .unset, .unset, .unset] [(.int p2)])) rfl (hb hby at_19) _ ?_
    show Steps p.tables e below (s₁.setTop (mkF m 21 #[.val (.int p0), .val (.int p1), .val (.int p2), .val (.int p3), .val (.int p4), .val (.int v5_7), .val (.int v6_16), .unset, .unset, .unset, .unset, .unset, .unset, .unset, .unset, .unset] [(.int (2147483647 : Int32)), (.int p2)])) _
    refine XS.iand X0.here hx rfl (hb hby at_21) rfl ?_
    show Steps p.tables e below (s₁.setTop (mkF m 22 #[.val (.int p0), .val (.int p1), .val (.int p2), .val (.int p3), .val (.int p4), .val (.int v5_7), .val (.int v6_16), .unset, .unset, .unset, .unset, .unset, .unset, .unset, .unset, .unset] [(.int (p2 &&& (2147483647 : Int32)))])) _
    refine XS.iload X0.here hx rfl (hb hby at_22) rfl  ?_
    show Steps p.tables e below (s₁.setTop (mkF m 24 #[.val (.int p0), .val (.int p1), .val (.int p2), .val (.int p3), .val (.int p4), .val (.int v5_7), .val (.int v6_16), .unset, .unset, .unset, .unset, .unset, .unset, .unset, .unset, .unset] [(.int v5_7), (.int (p2 &&& (2147483647 : Int32)))])) _
    refine iremM X0 hx rfl (hb hby at_24) rfl (by rw [hv5_7]; exact own_nz _ (own_n p0).1) ?_
    show Steps p.tables e below (s₁.setTop (mkF m 25 #[.val (.int p0), .val (.int p1), .val (.int p2), .val (.int p3), .val (.int p4), .val (.int v5_7), .val (.int v6_16), .unset, .unset, .unset, .unset, .unset, .unset, .unset, .unset, .unset] [(.int ((p2 &&& (2147483647 : Int32)) % v5_7))])) _
    refine XS.istore X0.here hx rfl (hb hby at_25) rfl (l' := #[.val (.int p0), .val (.int p1), .val (.int p2), .val (.int p3), .val (.int p4), .val (.int v5_7), .val (.int v6_16), .val (.int v7_25), .unset, .unset, .unset, .unset, .unset, .unset, .unset, .unset]) (by rw [hv7_25]; rfl) ?_
    show Steps p.tables e below (s₁.setTop (mkF m 27 #[.val (.int p0), .val (.int p1), .val (.int p2), .val (.int p3), .val (.int p4), .val (.int v5_7), .val (.int v6_16), .val (.int v7_25), .unset, .unset, .unset, .unset, .unset, .unset, .unset, .unset] [])) _
    refine XS.iloadN X0.here hx rfl (hb hby at_27) rfl  ?_
    show Steps p.tables e below (s₁.setTop (mkF m 28 #[.val (.int p0), .val (.int p1), .val (.int p2), .val (.int p3), .val (.int p4), .val (.int v5_7), .val (.int v6_16), .val (.int v7_25), .unset, .unset, .unset, .unset, .unset, .unset, .unset, .unset] [(.int p3)])) _
    refine X0.ldcInt hx hown (mvT hZ (hw _ (List.mem_of_getElem? (i := 0) rfl))) (g := (mkF m 28 #[.val (.int p0), .val (.int p1), .val (.int p2), .val (.int p3), .val (.int p4), .val (.int v5_7), .val (.int v6_16), .val (.int v7_25), .unset, .unset, .unset, .unset, .unset, .unset, .unset, .unset] [(.int p3)])) rfl (hb hby at_28) _ ?_
    show Steps p.tables e below (s₁.setTop (mkF m 30 #[.val (.int p0), .val (.int p1), .val (.int p2), .val (.int p3), .val (.int p4), .val (.int v5_7), .val (.int v6_16), .val (.int v7_25), .unset, .unset, .unset, .unset, .unset, .unset, .unset, .unset] [(.int (2147483647 : Int32)), (.int p3)])) _
    refine XS.iand X0.here hx rfl (hb hby at_30) rfl ?_
    show Steps p.tables e below (s₁.setTop (mkF m 31 #[.val (.int p0), .val (.int p1), .val (.int p2), .val (.int p3), .val (.int p4), .val (.int v5_7), .val (.int v6_16), .val (.int v7_25), .unset, .unset, .unset, .unset, .unset, .unset, .unset, .unset] [(.int (p3 &&& (2147483647 : Int32)))])) _
    refine XS.iload X0.here hx rfl (hb hby at_31) rfl  ?_
    show Steps p.tables e below (s₁.setTop (mkF m 33 #[.val (.int p0), .val (.int p1), .val (.int p2), .val (.int p3), .val (.int p4), .val (.int v5_7), .val (.int v6_16), .val (.int v7_25), .unset, .unset, .unset, .unset, .unset, .unset, .unset, .unset] [(.int v5_7), (.int (p3 &&& (2147483647 : Int32)))])) _
    refine iremM X0 hx rfl (hb hby at_33) rfl (by rw [hv5_7]; exact own_nz _ (own_n p0).1) ?_
    show Steps p.tables e below (s₁.setTop (mkF m 34 #[.val (.int p0), .val (.int p1), .val (.int p2), .val (.int p3), .val (.int p4), .val (.int v5_7), .val (.int v6_16), .val (.int v7_25), .unset, .unset, .unset, .unset, .unset, .unset, .unset, .unset] [(.int ((p3 &&& (2147483647 : Int32)) % v5_7))])) _
    refine XS.istore X0.here hx rfl (hb hby at_34) rfl (l' := #[.val (.int p0), .val (.int p1), .val (.int p2), .val (.int p3), .val (.int p4), .val (.int v5_7), .val (.int v6_16), .val (.int v7_25), .val (.int v8_34), .unset, .unset, .unset, .unset, .unset, .unset, .unset]) (by rw [hv8_34]; rfl) ?_
    show Steps p.tables e below (s₁.setTop (mkF m 36 #[.val (.int p0), .val (.int p1), .val (.int p2), .val (.int p3), .val (.int p4), .val (.int v5_7), .val (.int v6_16), .val (.int v7_25), .val (.int v8_34), .unset, .unset, .unset, .unset, .unset, .unset, .unset] [])) _
    refine XS.iload X0.here hx rfl (hb hby at_36) rfl  ?_
    show Steps p.tables e below (s₁.setTop (mkF m 38 #[.val (.int p0), .val (.int p1), .val (.int p2), .val (.int p3), .val (.int p4), .val (.int v5_7), .val (.int v6_16), .val (.int v7_25), .val (.int v8_34), .unset, .unset, .unset, .unset, .unset, .unset, .unset] [(.int p4)])) _
    refine XS.iconst X0.here hx rfl (hb hby at_38) ?_
    show Steps p.tables e below (s₁.setTop (mkF m 39 #[.val (.int p0), .val (.int p1), .val (.int p2), .val (.int p3), .val (.int p4), .val (.int v5_7), .val (.int v6_16), .val (.int v7_25), .val (.int v8_34), .unset, .unset, .unset, .unset, .unset, .unset, .unset] [(.int (1 : Int32)), (.int p4)])) _
    refine XS.iand X0.here hx rfl (hb hby at_39) rfl ?_
    exact k
  obtain ⟨ms0_48, hms0_48⟩ : ∃ z : Int32, z = (if (p4 &&& (1 : Int32)) = (0 : Int32) then (0 : Int32) else (1 : Int32)) := ⟨_, rfl⟩
  have pre2 : ∀ t, Steps p.tables e below (s₁.setTop (mkF m 48 #[.val (.int p0), .val (.int p1), .val (.int p2), .val (.int p3), .val (.int p4), .val (.int v5_7), .val (.int v6_16), .val (.int v7_25), .val (.int v8_34), .unset, .unset, .unset, .unset, .unset, .unset, .unset] [(.int ms0_48)])) t → Steps p.tables e below (s₁.setTop (entryFrame m #[(.int p0), (.int p1), (.int p2), (.int p3), (.int p4)] maxLocals)) t := by
    intro t k
    refine pre1 t ?_
    by_cases hc40 : (p4 &&& (1 : Int32)) = (0 : Int32)
    · show Steps p.tables e below (s₁.setTop (mkF m 40 #[.val (.int p0), .val (.int p1), .val (.int p2), .val (.int p3), .val (.int p4), .val (.int v5_7), .val (.int v6_16), .val (.int v7_25), .val (.int v8_34), .unset, .unset, .unset, .unset, .unset, .unset, .unset] [(.int (p4 &&& (1 : Int32)))])) _
      refine XS.ifYes X0.here hx rfl (pc0 := 40) (pc' := 47) rfl (hb hby at_40) rfl ((if0 _ _).trans (teq hc40).1) (by decide) (by decide) ?_
      show Steps p.tables e below (s₁.setTop (mkF m 47 #[.val (.int p0), .val (.int p1), .val (.int p2), .val (.int p3), .val (.int p4), .val (.int v5_7), .val (.int v6_16), .val (.int v7_25), .val (.int v8_34), .unset, .unset, .unset, .unset, .unset, .unset, .unset] [])) _
      refine XS.iconst X0.here hx rfl (hb hby at_47) ?_
      have qms0_48 : ms0_48 = (0 : Int32) := by rw [hms0_48, if_pos hc40]
      rw [qms0_48] at k
      exact k
    · show Steps p.tables e below (s₁.setTop (mkF m 40 #[.val (.int p0), .val (.int p1), .val (.int p2), .val (.int p3), .val (.int p4), .val (.int v5_7), .val (.int v6_16), .val (.int v7_25), .val (.int v8_34), .unset, .unset, .unset, .unset, .unset, .unset, .unset] [(.int (p4 &&& (1 : Int32)))])) _
      refine XS.ifNo X0.here hx rfl (hb hby at_40) rfl ((if0 _ _).trans (feq hc40).1) ?_
      show Steps p.tables e below (s₁.setTop (mkF m 43 #[.val (.int p0), .val (.int p1), .val (.int p2), .val (.int p3), .val (.int p4), .val (.int v5_7), .val (.int v6_16), .val (.int v7_25), .val (.int v8_34), .unset, .unset, .unset, .unset, .unset, .unset, .unset] [])) _
      refine XS.iconst X0.here hx rfl (hb hby at_43) ?_
      show Steps p.tables e below (s₁.setTop (mkF m 44 #[.val (.int p0), .val (.int p1), .val (.int p2), .val (.int p3), .val (.int p4), .val (.int v5_7), .val (.int v6_16), .val (.int v7_25), .val (.int v8_34), .unset, .unset, .unset, .unset, .unset, .unset, .unset] [(.int (1 : Int32))])) _
      refine XS.goto X0.here hx rfl (pc0 := 44) (pc' := 48) rfl (hb hby at_44) (by decide) (by decide) ?_
      have qms0_48 : ms0_48 = (1 : Int32) := by rw [hms0_48, if_neg hc40]
      rw [qms0_48] at k
      exact k
  have pre3 : ∀ t, Steps p.tables e below (s₁.setTop (mkF m 54 #[.val (.int p0), .val (.int p1), .val (.int p2), .val (.int p3), .val (.int p4), .val (.int v5_7), .val (.int v6_16), .val (.int v7_25), .val (.int v8_34), .val (.int ms0_48), .unset, .unset, .unset, .unset, .unset, .unset] [(.int (p4 &&& (2 : Int32)))])) t → Steps p.tables e below (s₁.setTop (entryFrame m #[(.int p0), (.int p1), (.int p2), (.int p3), (.int p4)] maxLocals)) t := by
    intro t k
    refine pre2 t ?_
    show Steps p.tables e below (s₁.setTop (mkF m 48 #[.val (.int p0), .val (.int p1), .val (.int p2), .val (.int p3), .val (.int p4), .val (.int v5_7), .val (.int v6_16), .val (.int v7_25), .val (.int v8_34), .unset, .unset, .unset, .unset, .unset, .unset, .unset] [(.int ms0_48)])) _
    refine XS.istore X0.here hx rfl (hb hby at_48) rfl (l' := #[.val (.int p0), .val (.int p1), .val (.int p2), .val (.int p3), .val (.int p4), .val (.int v5_7), .val (.int v6_16), .val (.int v7_25), .val (.int v8_34), .val (.int ms0_48), .unset, .unset, .unset, .unset, .unset, .unset]) rfl ?_
    show Steps p.tables e below (s₁.setTop (mkF m 50 #[.val (.int p0), .val (.int p1), .val (.int p2), .val (.int p3), .val (.int p4), .val (.int v5_7), .val (.int v6_16), .val (.int v7_25), .val (.int v8_34), .val (.int ms0_48), .unset, .unset, .unset, .unset, .unset, .unset] [])) _
    refine XS.iload X0.here hx rfl (hb hby at_50) rfl  ?_
    show Steps p.tables e below (s₁.setTop (mkF m 52 #[.val (.int p0), .val (.int p1), .val (.int p2), .val (.int p3), .val (.int p4), .val (.int v5_7), .val (.int v6_16), .val (.int v7_25), .val (.int v8_34), .val (.int ms0_48), .unset, .unset, .unset, .unset, .unset, .unset] [(.int p4)])) _
    refine XS.iconst X0.here hx rfl (hb hby at_52) ?_
    show Steps p.tables e below (s₁.setTop (mkF m 53 #[.val (.int p0), .val (.int p1), .val (.int p2), .val (.int p3), .val (.int p4), .val (.int v5_7), .val (.int v6_16), .val (.int v7_25), .val (.int v8_34), .val (.int ms0_48), .unset, .unset, .unset, .unset, .unset, .unset] [(.int (2 : Int32)), (.int p4)])) _
    refine XS.iand X0.here hx rfl (hb hby at_53) rfl ?_
    exact k
  obtain ⟨ms0_62, hms0_62⟩ : ∃ z : Int32, z = (if (p4 &&& (2 : Int32)) = (0 : Int32) then (0 : Int32) else (1 : Int32)) := ⟨_, rfl⟩
  have pre4 : ∀ t, Steps p.tables e below (s₁.setTop (mkF m 62 #[.val (.int p0), .val (.int p1), .val (.int p2), .val (.int p3), .val (.int p4), .val (.int v5_7), .val (.int v6_16), .val (.int v7_25), .val (.int v8_34), .val (.int ms0_48), .unset, .unset, .unset, .unset, .unset, .unset] [(.int ms0_62)])) t → Steps p.tables e below (s₁.setTop (entryFrame m #[(.int p0), (.int p1), (.int p2), (.int p3), (.int p4)] maxLocals)) t := by
    intro t k
    refine pre3 t ?_
    by_cases hc54 : (p4 &&& (2 : Int32)) = (0 : Int32)
    · show Steps p.tables e below (s₁.setTop (mkF m 54 #[.val (.int p0), .val (.int p1), .val (.int p2), .val (.int p3), .val (.int p4), .val (.int v5_7), .val (.int v6_16), .val (.int v7_25), .val (.int v8_34), .val (.int ms0_48), .unset, .unset, .unset, .unset, .unset, .unset] [(.int (p4 &&& (2 : Int32)))])) _
      refine XS.ifYes X0.here hx rfl (pc0 := 54) (pc' := 61) rfl (hb hby at_54) rfl ((if0 _ _).trans (teq hc54).1) (by decide) (by decide) ?_
      show Steps p.tables e below (s₁.setTop (mkF m 61 #[.val (.int p0), .val (.int p1), .val (.int p2), .val (.int p3), .val (.int p4), .val (.int v5_7), .val (.int v6_16), .val (.int v7_25), .val (.int v8_34), .val (.int ms0_48), .unset, .unset, .unset, .unset, .unset, .unset] [])) _
      refine XS.iconst X0.here hx rfl (hb hby at_61) ?_
      have qms0_62 : ms0_62 = (0 : Int32) := by rw [hms0_62, if_pos hc54]
      rw [qms0_62] at k
      exact k
    · show Steps p.tables e below (s₁.setTop (mkF m 54 #[.val (.int p0), .val (.int p1), .val (.int p2), .val (.int p3), .val (.int p4), .val (.int v5_7), .val (.int v6_16), .val (.int v7_25), .val (.int v8_34), .val (.int ms0_48), .unset, .unset, .unset, .unset, .unset, .unset] [(.int (p4 &&& (2 : Int32)))])) _
      refine XS.ifNo X0.here hx rfl (hb hby at_54) rfl ((if0 _ _).trans (feq hc54).1) ?_
      show Steps p.tables e below (s₁.setTop (mkF m 57 #[.val (.int p0), .val (.int p1), .val (.int p2), .val (.int p3), .val (.int p4), .val (.int v5_7), .val (.int v6_16), .val (.int v7_25), .val (.int v8_34), .val (.int ms0_48), .unset, .unset, .unset, .unset, .unset, .unset] [])) _
      refine XS.iconst X0.here hx rfl (hb hby at_57) ?_
      show Steps p.tables e below (s₁.setTop (mkF m 58 #[.val (.int p0), .val (.int p1), .val (.int p2), .val (.int p3), .val (.int p4), .val (.int v5_7), .val (.int v6_16), .val (.int v7_25), .val (.int v8_34), .val (.int ms0_48), .unset, .unset, .unset, .unset, .unset, .unset] [(.int (1 : Int32))])) _
      refine XS.goto X0.here hx rfl (pc0 := 58) (pc' := 62) rfl (hb hby at_58) (by decide) (by decide) ?_
      have qms0_62 : ms0_62 = (1 : Int32) := by rw [hms0_62, if_neg hc54]
      rw [qms0_62] at k
      exact k
  have pre5 : ∀ t, Steps p.tables e below (s₁.setTop (mkF m 68 #[.val (.int p0), .val (.int p1), .val (.int p2), .val (.int p3), .val (.int p4), .val (.int v5_7), .val (.int v6_16), .val (.int v7_25), .val (.int v8_34), .val (.int ms0_48), .val (.int ms0_62), .unset, .unset, .unset, .unset, .unset] [(.int (p4 &&& (4 : Int32)))])) t → Steps p.tables e below (s₁.setTop (entryFrame m #[(.int p0), (.int p1), (.int p2), (.int p3), (.int p4)] maxLocals)) t := by
    intro t k
    refine pre4 t ?_
    show Steps p.tables e below (s₁.setTop (mkF m 62 #[.val (.int p0), .val (.int p1), .val (.int p2), .val (.int p3), .val (.int p4), .val (.int v5_7), .val (.int v6_16), .val (.int v7_25), .val (.int v8_34), .val (.int ms0_48), .unset, .unset, .unset, .unset, .unset, .unset] [(.int ms0_62)])) _
    refine XS.istore X0.here hx rfl (hb hby at_62) rfl (l' := #[.val (.int p0), .val (.int p1), .val (.int p2), .val (.int p3), .val (.int p4), .val (.int v5_7), .val (.int v6_16), .val (.int v7_25), .val (.int v8_34), .val (.int ms0_48), .val (.int ms0_62), .unset, .unset, .unset, .unset, .unset]) rfl ?_
    show Steps p.tables e below (s₁.setTop (mkF m 64 #[.val (.int p0), .val (.int p1), .val (.int p2), .val (.int p3), .val (.int p4), .val (.int v5_7), .val (.int v6_16), .val (.int v7_25), .val (.int v8_34), .val (.int ms0_48), .val (.int ms0_62), .unset, .unset, .unset, .unset, .unset] [])) _
    refine XS.iload X0.here hx rfl (hb hby at_64) rfl  ?_
    show Steps p.tables e below (s₁.setTop (mkF m 66 #[.val (.int p0), .val (.int p1), .val (.int p2), .val (.int p3), .val (.int p4), .val (.int v5_7), .val (.int v6_16), .val (.int v7_25), .val (.int v8_34), .val (.int ms0_48), .val (.int ms0_62), .unset, .unset, .unset, .unset, .unset] [(.int p4)])) _
    refine XS.iconst X0.here hx rfl (hb hby at_66) ?_
    show Steps p.tables e below (s₁.setTop (mkF m 67 #[.val (.int p0), .val (.int p1), .val (.int p2), .val (.int p3), .val (.int p4), .val (.int v5_7), .val (.int v6_16), .val (.int v7_25), .val (.int v8_34), .val (.int ms0_48), .val (.int ms0_62), .unset, .unset, .unset, .unset, .unset] [(.int (4 : Int32)), (.int p4)])) _
    refine XS.iand X0.here hx rfl (hb hby at_67) rfl ?_
    exact k
  obtain ⟨ms0_76, hms0_76⟩ : ∃ z : Int32, z = (if (p4 &&& (4 : Int32)) = (0 : Int32) then (0 : Int32) else (1 : Int32)) := ⟨_, rfl⟩
  have pre6 : ∀ t, Steps p.tables e below (s₁.setTop (mkF m 76 #[.val (.int p0), .val (.int p1), .val (.int p2), .val (.int p3), .val (.int p4), .val (.int v5_7), .val (.int v6_16), .val (.int v7_25), .val (.int v8_34), .val (.int ms0_48), .val (.int ms0_62), .unset, .unset, .unset, .unset, .unset] [(.int ms0_76)])) t → Steps p.tables e below (s₁.setTop (entryFrame m #[(.int p0), (.int p1), (.int p2), (.int p3), (.int p4)] maxLocals)) t := by
    intro t k
    refine pre5 t ?_
    by_cases hc68 : (p4 &&& (4 : Int32)) = (0 : Int32)
    · show Steps p.tables e below (s₁.setTop (mkF m 68 #[.val (.int p0), .val (.int p1), .val (.int p2), .val (.int p3), .val (.int p4), .val (.int v5_7), .val (.int v6_16), .val (.int v7_25), .val (.int v8_34), .val (.int ms0_48), .val (.int ms0_62), .unset, .unset, .unset, .unset, .unset] [(.int (p4 &&& (4 : Int32)))])) _
      refine XS.ifYes X0.here hx rfl (pc0 := 68) (pc' := 75) rfl (hb hby at_68) rfl ((if0 _ _).trans (teq hc68).1) (by decide) (by decide) ?_
      show Steps p.tables e below (s₁.setTop (mkF m 75 #[.val (.int p0), .val (.int p1), .val (.int p2), .val (.int p3), .val (.int p4), .val (.int v5_7), .val (.int v6_16), .val (.int v7_25), .val (.int v8_34), .val (.int ms0_48), .val (.int ms0_62), .unset, .unset, .unset, .unset, .unset] [])) _
      refine XS.iconst X0.here hx rfl (hb hby at_75) ?_
      have qms0_76 : ms0_76 = (0 : Int32) := by rw [hms0_76, if_pos hc68]
      rw [qms0_76] at k
      exact k
    · show Steps p.tables e below (s₁.setTop (mkF m 68 #[.val (.int p0), .val (.int p1), .val (.int p2), .val (.int p3), .val (.int p4), .val (.int v5_7), .val (.int v6_16), .val (.int v7_25), .val (.int v8_34), .val (.int ms0_48), .val (.int ms0_62), .unset, .unset, .unset, .unset, .unset] [(.int (p4 &&& (4 : Int32)))])) _
      refine XS.ifNo X0.here hx rfl (hb hby at_68) rfl ((if0 _ _).trans (feq hc68).1) ?_
      show Steps p.tables e below (s₁.setTop (mkF m 71 #[.val (.int p0), .val (.int p1), .val (.int p2), .val (.int p3), .val (.int p4), .val (.int v5_7), .val (.int v6_16), .val (.int v7_25), .val (.int v8_34), .val (.int ms0_48), .val (.int ms0_62), .unset, .unset, .unset, .unset, .unset] [])) _
      refine XS.iconst X0.here hx rfl (hb hby at_71) ?_
      show Steps p.tables e below (s₁.setTop (mkF m 72 #[.val (.int p0), .val (.int p1), .val (.int p2), .val (.int p3), .val (.int p4), .val (.int v5_7), .val (.int v6_16), .val (.int v7_25), .val (.int v8_34), .val (.int ms0_48), .val (.int ms0_62), .unset, .unset, .unset, .unset, .unset] [(.int (1 : Int32))])) _
      refine XS.goto X0.here hx rfl (pc0 := 72) (pc' := 76) rfl (hb hby at_72) (by decide) (by decide) ?_
      have qms0_76 : ms0_76 = (1 : Int32) := by rw [hms0_76, if_neg hc68]
      rw [qms0_76] at k
      exact k
  have pre7 : ∀ t, Steps p.tables e below (s₁.setTop (mkF m 78 #[.val (.int p0), .val (.int p1), .val (.int p2), .val (.int p3), .val (.int p4), .val (.int v5_7), .val (.int v6_16), .val (.int v7_25), .val (.int v8_34), .val (.int ms0_48), .val (.int ms0_62), .val (.int ms0_76), .unset, .unset, .unset, .unset] [])) t → Steps p.tables e below (s₁.setTop (entryFrame m #[(.int p0), (.int p1), (.int p2), (.int p3), (.int p4)] maxLocals)) t := by
    intro t k
    refine pre6 t ?_
    show Steps p.tables e below (s₁.setTop (mkF m 76 #[.val (.int p0), .val (.int p1), .val (.int p2), .val (.int p3), .val (.int p4), .val (.int v5_7), .val (.int v6_16), .val (.int v7_25), .val (.int v8_34), .val (.int ms0_48), .val (.int ms0_62), .unset, .unset, .unset, .unset, .unset] [(.int ms0_76)])) _
    refine XS.istore X0.here hx rfl (hb hby at_76) rfl (l' := #[.val (.int p0), .val (.int p1), .val (.int p2), .val (.int p3), .val (.int p4), .val (.int v5_7), .val (.int v6_16), .val (.int v7_25), .val (.int v8_34), .val (.int ms0_48), .val (.int ms0_62), .val (.int ms0_76), .unset, .unset, .unset, .unset]) rfl ?_
    exact k
  obtain ⟨T8, h8, X8, e8, E8, A8, D8, -, st8⟩ := newO X0 hx hZ hown (hw _ (List.mem_of_getElem? (i := 1) rfl)) (hw _ (List.mem_of_getElem? (i := 2) rfl)) (hw _ (List.mem_of_getElem? (i := 3) rfl)) e0 (g := (mkF m 78 #[.val (.int p0), .val (.int p1), .val (.int p2), .val (.int p3), .val (.int p4), .val (.int v5_7), .val (.int v6_16), .val (.int v7_25), .val (.int v8_34), .val (.int ms0_48), .val (.int ms0_62), .val (.int ms0_76), .unset, .unset, .unset, .unset] [])) rfl (hb hby at_78) (by decide) (by decide)
  obtain ⟨b8, gb8⟩ : ∃ z, z = h0.size := ⟨_, rfl⟩
  rw [← gb8] at A8 D8 st8
  have sz_b8 : h0.size ≤ b8 := Nat.le_trans K0.1 (Nat.le_of_eq gb8.symm)
  have ge_b8 : n0 ≤ b8 := Nat.le_trans Z0 (Nat.le_of_eq gb8.symm)
  have K8 := K0.ext E8
  have Z8 := Nat.le_trans Z0 E8.1
  have F8_words : Fld Z h8 b8 "com/example/punctilio/punctilio/engine/PixelMarks" "words" "[J" .null := D8 (Or.inr (hw _ (List.mem_of_getElem? (i := 12) rfl))) (ty := (.array .long)) (by decide)
  have pre10 : ∀ t, Steps p.tables e below (T8.setTop (mkF m 84 #[.val (.int p0), .val (.int p1), .val (.int p2), .val (.int p3), .val (.int p4), .val (.int v5_7), .val (.int v6_16), .val (.int v7_25), .val (.int v8_34), .val (.int ms0_48), .val (.int ms0_62), .val (.int ms0_76), .unset, .unset, .unset, .unset] [(.int v5_7), (.ref b8), (.ref b8)])) t → Steps p.tables e below (s₁.setTop (entryFrame m #[(.int p0), (.int p1), (.int p2), (.int p3), (.int p4)] maxLocals)) t := by
    intro t k
    refine pre7 t ?_
    show Steps p.tables e below (s₁.setTop (mkF m 78 #[.val (.int p0), .val (.int p1), .val (.int p2), .val (.int p3), .val (.int p4), .val (.int v5_7), .val (.int v6_16), .val (.int v7_25), .val (.int v8_34), .val (.int ms0_48), .val (.int ms0_62), .val (.int ms0_76), .unset, .unset, .unset, .unset] [])) _
    refine st8 _ ?_
    show Steps p.tables e below (T8.setTop (mkF m 81 #[.val (.int p0), .val (.int p1), .val (.int p2), .val (.int p3), .val (.int p4), .val (.int v5_7), .val (.int v6_16), .val (.int v7_25), .val (.int v8_34), .val (.int ms0_48), .val (.int ms0_62), .val (.int ms0_76), .unset, .unset, .unset, .unset] [(.ref b8)])) _
    refine XS.dup X8.here hx rfl (hb hby at_81) rfl rfl ?_
    show Steps p.tables e below (T8.setTop (mkF m 82 #[.val (.int p0), .val (.int p1), .val (.int p2), .val (.int p3), .val (.int p4), .val (.int v5_7), .val (.int v6_16), .val (.int v7_25), .val (.int v8_34), .val (.int ms0_48), .val (.int ms0_62), .val (.int ms0_76), .unset, .unset, .unset, .unset] [(.ref b8), (.ref b8)])) _
    refine XS.iload X8.here hx rfl (hb hby at_82) rfl  ?_
    exact k
  obtain ⟨_, _, ⟨T9, L9, k9, n9⟩, -, X9, ⟨Lc9, hQ9, l9, y9, z9⟩, st9⟩ := X8.specialBack hx (y := (⟨"com/example/punctilio/punctilio/engine/PixelMarks", "<init>", "(I)V"⟩ : MethodName)) rfl hown (mvT hZ (hw _ (List.mem_of_getElem? (i := 4) rfl))) (mvT hZ (hw _ (List.mem_of_getElem? (i := 5) rfl))) (mvT hZ (hw _ (List.mem_of_getElem? (i := 6) rfl))) (by decide) (backOf (W := 1) (rm_1 l Z a0 hw [] b8 v5_7 h8 n0 Z8 A8 F8_words ge_b8 (own_np hv5_7)) hZ (hw _ (List.mem_of_getElem? (i := 6) rfl)) (hw _ (List.mem_of_getElem? (i := 3) rfl)) (by decide) (by decide)) (g := (mkF m 84 #[.val (.int p0), .val (.int p1), .val (.int p2), .val (.int p3), .val (.int p4), .val (.int v5_7), .val (.int v6_16), .val (.int v7_25), .val (.int v8_34), .val (.int ms0_48), .val (.int ms0_62), .val (.int ms0_76), .unset, .unset, .unset, .unset] [(.int v5_7), (.ref b8), (.ref b8)])) rfl (by rw [hml]; rfl) (Steps.refl _) (a := b8) (argsL := [(.int v5_7)]) (rest := [(.ref b8)]) (lenOf pd_0 rfl) rfl (by show 2 * 0 + _ ≤ _; exact Nat.le_of_eq rfl) (hb hby at_84) (fun _ _ => ⟨rfl, e8, (by decide : 1 + 1 ≤ _), (by decide : 1 + 4 ≤ _)⟩)
  dsimp only [Pt.U, Pt.locs, Pt.cells, Pt.slots] at X9 l9 y9 z9 st9 hQ9
  subst l9 y9 z9
  obtain ⟨w_9, rfl, N9q, sz0_w_9, Kc9, Q9_0, Q9_1, Q9_2⟩ := hQ9
  have Kd9 : Keep h8 T9.heap [b8] := Kc9
  have ne_b8_w_9 : b8 ≠ w_9 := Nat.ne_of_lt (Nat.lt_of_lt_of_le A8.lt sz0_w_9)
  have sz_w_9 : h0.size ≤ w_9 := Nat.le_trans K8.1 sz0_w_9
  have ge_w_9 : n0 ≤ w_9 := Nat.le_trans Z8 sz0_w_9
  have exa_b8_9 := A8.keep Kd9
  have K9 := K8.trans Kd9 (allS (Or.inr sz_b8) all0)
  have Z9 := Nat.le_trans Z8 Kd9.1
  have N9 := Fr.app N0 N9q
  have pre11 : ∀ t, Steps p.tables e below (T9.setTop (mkF m 91 #[.val (.int p0), .val (.int p1), .val (.int p2), .val (.int p3), .val (.int p4), .val (.int v5_7), .val (.int v6_16), .val (.int v7_25), .val (.int v8_34), .val (.int ms0_48), .val (.int ms0_62), .val (.int ms0_76), .val (.ref b8), .unset, .unset, .unset] [(.int ms0_48)])) t → Steps p.tables e below (s₁.setTop (entryFrame m #[(.int p0), (.int p1), (.int p2), (.int p3), (.int p4)] maxLocals)) t := by
    intro t k
    refine pre10 t ?_
    show Steps p.tables e below (T8.setTop (mkF m 84 #[.val (.int p0), .val (.int p1), .val (.int p2), .val (.int p3), .val (.int p4), .val (.int v5_7), .val (.int v6_16), .val (.int v7_25), .val (.int v8_34), .val (.int ms0_48), .val (.int ms0_62), .val (.int ms0_76), .unset, .unset, .unset, .unset] [(.int v5_7), (.ref b8), (.ref b8)])) _
    refine st9.trans ?_
    show Steps p.tables e below (T9.setTop (mkF m 87 #[.val (.int p0), .val (.int p1), .val (.int p2), .val (.int p3), .val (.int p4), .val (.int v5_7), .val (.int v6_16), .val (.int v7_25), .val (.int v8_34), .val (.int ms0_48), .val (.int ms0_62), .val (.int ms0_76), .unset, .unset, .unset, .unset] [(.ref b8)])) _
    refine XS.astore X9.here hx rfl (hb hby at_87) rfl rfl (l' := #[.val (.int p0), .val (.int p1), .val (.int p2), .val (.int p3), .val (.int p4), .val (.int v5_7), .val (.int v6_16), .val (.int v7_25), .val (.int v8_34), .val (.int ms0_48), .val (.int ms0_62), .val (.int ms0_76), .val (.ref b8), .unset, .unset, .unset]) rfl ?_
    show Steps p.tables e below (T9.setTop (mkF m 89 #[.val (.int p0), .val (.int p1), .val (.int p2), .val (.int p3), .val (.int p4), .val (.int v5_7), .val (.int v6_16), .val (.int v7_25), .val (.int v8_34), .val (.int ms0_48), .val (.int ms0_62), .val (.int ms0_76), .val (.ref b8), .unset, .unset, .unset] [])) _
    refine XS.iload X9.here hx rfl (hb hby at_89) rfl  ?_
    exact k
  obtain ⟨mg_w_9_101, hmg_w_9_101⟩ : ∃ z : Nat → Int64, z = (if ms0_48 = (0 : Int32) then own_zJ else (f_6_1 v6_16 (((v5_7 + (64 : Int32)) - (1 : Int32)) / (64 : Int32)).toNatClampNeg own_zJ)) := ⟨_, rfl⟩
  obtain ⟨T12, h12, lc12, X12, e12, N12, K12, Z12, exa_b8_12, fld_b8_words_12, arr_w_9_12, pre12⟩ : ∃ (T' : State) (h' : Heap) (lc : List Loc), Stand p l e room_1 s m #[(.int p0), (.int p1), (.int p2), (.int p3), (.int p4)] below meth c T' lc 2 5 ∧ T'.heap = h' ∧ Fr n0 lc ∧ Keep h0 h' [] ∧ n0 ≤ h'.size ∧ Exa Z h' b8 "com/example/punctilio/punctilio/engine/PixelMarks" ∧ Fld Z h' b8 "com/example/punctilio/punctilio/engine/PixelMarks" "words" "[J" (.ref w_9) ∧ own_A Z h' w_9 .long (((v5_7 + (64 : Int32)) - (1 : Int32)) / (64 : Int32)).toNatClampNeg (fun i => .long (mg_w_9_101 i)) ∧ (∀ t, Steps p.tables e below (T'.setTop (mkF m 101 #[.val (.int p0), .val (.int p1), .val (.int p2), .val (.int p3), .val (.int p4), .val (.int v5_7), .val (.int v6_16), .val (.int v7_25), .val (.int v8_34), .val (.int ms0_48), .val (.int ms0_62), .val (.int ms0_76), .val (.ref b8), .unset, .unset, .unset] [])) t → Steps p.tables e below (s₁.setTop (entryFrame m #[(.int p0), (.int p1), (.int p2), (.int p3), (.int p4)] maxLocals)) t) := by
    by_cases hc91 : ms0_48 = (0 : Int32)
    · have pre13 : ∀ t, Steps p.tables e below (T9.setTop (mkF m 101 #[.val (.int p0), .val (.int p1), .val (.int p2), .val (.int p3), .val (.int p4), .val (.int v5_7), .val (.int v6_16), .val (.int v7_25), .val (.int v8_34), .val (.int ms0_48), .val (.int ms0_62), .val (.int ms0_76), .val (.ref b8), .unset, .unset, .unset] [])) t → Steps p.tables e below (s₁.setTop (entryFrame m #[(.int p0), (.int p1), (.int p2), (.int p3), (.int p4)] maxLocals)) t := by
        intro t k
        refine pre11 t ?_
        show Steps p.tables e below (T9.setTop (mkF m 91 #[.val (.int p0), .val (.int p1), .val (.int p2), .val (.int p3), .val (.int p4), .val (.int v5_7), .val (.int v6_16), .val (.int v7_25), .val (.int v8_34), .val (.int ms0_48), .val (.int ms0_62), .val (.int ms0_76), .val (.ref b8), .unset, .unset, .unset] [(.int ms0_48)])) _
        refine XS.ifYes X9.here hx rfl (pc0 := 91) (pc' := 101) rfl (hb hby at_91) rfl ((if0 _ _).trans (teq hc91).1) (by decide) (by decide) ?_
        exact k
      have qmg_w_9_101 : mg_w_9_101 = own_zJ := by rw [hmg_w_9_101, if_pos hc91]
      exact ⟨T9, T9.heap, _, X9, rfl, N9, K9, Z9, (by (try rw [qmg_w_9_101]); exact Q9_0), (by (try rw [qmg_w_9_101]); exact Q9_1), (by (try rw [qmg_w_9_101]); exact Q9_2), (by (try rw [qmg_w_9_101]); exact pre13)⟩
    · have pre15 : ∀ t, Steps p.tables e below (T9.setTop (mkF m 98 #[.val (.int p0), .val (.int p1), .val (.int p2), .val (.int p3), .val (.int p4), .val (.int v5_7), .val (.int v6_16), .val (.int v7_25), .val (.int v8_34), .val (.int ms0_48), .val (.int ms0_62), .val (.int ms0_76), .val (.ref b8), .unset, .unset, .unset] [(.int v6_16), (.ref b8)])) t → Steps p.tables e below (s₁.setTop (entryFrame m #[(.int p0), (.int p1), (.int p2), (.int p3), (.int p4)] maxLocals)) t := by
        intro t k
        refine pre11 t ?_
        show Steps p.tables e below (T9.setTop (mkF m 91 #[.val (.int p0), .val (.int p1), .val (.int p2), .val (.int p3), .val (.int p4), .val (.int v5_7), .val (.int v6_16), .val (.int v7_25), .val (.int v8_34), .val (.int ms0_48), .val (.int ms0_62), .val (.int ms0_76), .val (.ref b8), .unset, .unset, .unset] [(.int ms0_48)])) _
        refine XS.ifNo X9.here hx rfl (hb hby at_91) rfl ((if0 _ _).trans (feq hc91).1) ?_
        show Steps p.tables e below (T9.setTop (mkF m 94 #[.val (.int p0), .val (.int p1), .val (.int p2), .val (.int p3), .val (.int p4), .val (.int v5_7), .val (.int v6_16), .val (.int v7_25), .val (.int v8_34), .val (.int ms0_48), .val (.int ms0_62), .val (.int ms0_76), .val (.ref b8), .unset, .unset, .unset] [])) _
        refine XS.aload X9.here hx rfl (hb hby at_94) rfl rfl ?_
        show Steps p.tables e below (T9.setTop (mkF m 96 #[.val (.int p0), .val (.int p1), .val (.int p2), .val (.int p3), .val (.int p4), .val (.int v5_7), .val (.int v6_16), .val (.int v7_25), .val (.int v8_34), .val (.int ms0_48), .val (.int ms0_62), .val (.int ms0_76), .val (.ref b8), .unset, .unset, .unset] [(.ref b8)])) _
        refine XS.iload X9.here hx rfl (hb hby at_96) rfl  ?_
        exact k
      obtain ⟨cq14, kq14, q14a, q14b, q14c⟩ := isOf hZ rfl Q9_0
      obtain ⟨_, _, ⟨T14, L14, k14, n14⟩, -, X14, ⟨Lc14, hQ14, l14, y14, z14⟩, st14⟩ := X9.virtualBack hx (y := (⟨"com/example/punctilio/punctilio/engine/PixelMarks", "mark", "(I)V"⟩ : MethodName)) (z := (⟨"com/example/punctilio/punctilio/engine/PixelMarks", "mark", "(I)V"⟩ : MethodName)) hown (mvT hZ (hw _ (List.mem_of_getElem? (i := 28) rfl))) (mvT hZ (hw _ (List.mem_of_getElem? (i := 29) rfl))) (notFace_of_selects (args := #[]) (mvT hZ (hw _ (List.mem_of_getElem? (i := 31) rfl)))) (mvT hZ (hw _ (List.mem_of_getElem? (i := 31) rfl))) (mvT hZ (hw _ (List.mem_of_getElem? (i := 30) rfl))) (by decide) (backOf (W := 0) (rm_6 l Z a0 hw [] b8 v6_16 w_9 (((v5_7 + (64 : Int32)) - (1 : Int32)) / (64 : Int32)).toNatClampNeg own_zJ T9.heap n0 Z9 Q9_1 Q9_2 ge_w_9 ne_b8_w_9 (own_idx v5_7 v6_16 (own_np hv5_7) (by rw [hv6_16]; exact (own_rem _ _ (own_np hv5_7).1).1) (by rw [hv6_16]; exact (own_rem _ _ (own_np hv5_7).1).2))) hZ (hw _ (List.mem_of_getElem? (i := 32) rfl)) (hw _ (List.mem_of_getElem? (i := 3) rfl)) (by decide) (by decide)) q14a q14c (g := (mkF m 98 #[.val (.int p0), .val (.int p1), .val (.int p2), .val (.int p3), .val (.int p4), .val (.int v5_7), .val (.int v6_16), .val (.int v7_25), .val (.int v8_34), .val (.int ms0_48), .val (.int ms0_62), .val (.int ms0_76), .val (.ref b8), .unset, .unset, .unset] [(.int v6_16), (.ref b8)])) rfl (by rw [hml]; rfl) (Steps.refl _) (argsL := [(.int v6_16)]) (rest := []) (lenOf pd_0 rfl) rfl (by show 2 * 0 + _ ≤ _; exact Nat.le_of_eq rfl) (hb hby at_98) (fun _ _ => ⟨rfl, rfl, (by decide : 2 + 0 ≤ _), (by decide : 5 + 0 ≤ _)⟩)
      dsimp only [Pt.U, Pt.locs, Pt.cells, Pt.slots] at X14 l14 y14 z14 st14 hQ14
      subst l14 y14 z14
      obtain ⟨rfl, N14q, Kc14, Q14_0⟩ := hQ14
      have Kd14 : Keep T9.heap T14.heap [w_9] := Kc14
      have exa_b8_14 := Q9_0.keep Kd14
      have fld_b8_words_14 := Q9_1.keep Kd14 (ninS ne_b8_w_9 nin0)
      have K14 := K9.trans Kd14 (allS (Or.inr sz_w_9) all0)
      have Z14 := Nat.le_trans Z9 Kd14.1
      have N14 := Fr.app N9 N14q
      have pre16 : ∀ t, Steps p.tables e below (T14.setTop (mkF m 101 #[.val (.int p0), .val (.int p1), .val (.int p2), .val (.int p3), .val (.int p4), .val (.int v5_7), .val (.int v6_16), .val (.int v7_25), .val (.int v8_34), .val (.int ms0_48), .val (.int ms0_62), .val (.int ms0_76), .val (.ref b8), .unset, .unset, .unset] [])) t → Steps p.tables e below (s₁.setTop (entryFrame m #[(.int p0), (.int p1), (.int p2), (.int p3), (.int p4)] maxLocals)) t := by
        intro t k
        refine pre15 t ?_
        show Steps p.tables e below (T9.setTop (mkF m 98 #[.val (.int p0), .val (.int p1), .val (.int p2), .val (.int p3), .val (.int p4), .val (.int v5_7), .val (.int v6_16), .val (.int v7_25), .val (.int v8_34), .val (.int ms0_48), .val (.int ms0_62), .val (.int ms0_76), .val (.ref b8), .unset, .unset, .unset] [(.int v6_16), (.ref b8)])) _
        refine st14.trans ?_
        exact k
      have qmg_w_9_101 : mg_w_9_101 = (f_6_1 v6_16 (((v5_7 + (64 : Int32)) - (1 : Int32)) / (64 : Int32)).toNatClampNeg own_zJ) := by rw [hmg_w_9_101, if_neg hc91]
      exact ⟨T14, T14.heap, _, X14, rfl, N14, K14, Z14, (by (try rw [qmg_w_9_101]); exact exa_b8_14), (by (try rw [qmg_w_9_101]); exact fld_b8_words_14), (by (try rw [qmg_w_9_101]); exact Q14_0), (by (try rw [qmg_w_9_101]); exact pre16)⟩
  have pre17 : ∀ t, Steps p.tables e below (T12.setTop (mkF m 103 #[.val (.int p0), .val (.int p1), .val (.int p2), .val (.int p3), .val (.int p4), .val (.int v5_7), .val (.int v6_16), .val (.int v7_25), .val (.int v8_34), .val (.int ms0_48), .val (.int ms0_62), .val (.int ms0_76), .val (.ref b8), .unset, .unset, .unset] [(.int ms0_62)])) t → Steps p.tables e below (s₁.setTop (entryFrame m #[(.int p0), (.int p1), (.int p2), (.int p3), (.int p4)] maxLocals)) t := by
    intro t k
    refine pre12 t ?_
    show Steps p.tables e below (T12.setTop (mkF m 101 #[.val (.int p0), .val (.int p1), .val (.int p2), .val (.int p3), .val (.int p4), .val (.int v5_7), .val (.int v6_16), .val (.int v7_25), .val (.int v8_34), .val (.int ms0_48), .val (.int ms0_62), .val (.int ms0_76), .val (.ref b8), .unset, .unset, .unset] [])) _
    refine XS.iload X12.here hx rfl (hb hby at_101) rfl  ?_
    exact k
  obtain ⟨mg_w_9_113, hmg_w_9_113⟩ : ∃ z : Nat → Int64, z = (if ms0_62 = (0 : Int32) then mg_w_9_101 else (f_6_1 v7_25 (((v5_7 + (64 : Int32)) - (1 : Int32)) / (64 : Int32)).toNatClampNeg mg_w_9_101)) := ⟨_, rfl⟩
  obtain ⟨T18, h18, lc18, X18, e18, N18, K18, Z18, exa_b8_18, fld_b8_words_18, arr_w_9_18, pre18⟩ : ∃ (T' : State) (h' : Heap) (lc : List Loc), Stand p l e room_1 s m #[(.int p0), (.int p1), (.int p2), (.int p3), (.int p4)] below meth c T' lc 2 5 ∧ T'.heap = h' ∧ Fr n0 lc ∧ Keep h0 h' [] ∧ n0 ≤ h'.size ∧ Exa Z h' b8 "com/example/punctilio/punctilio/engine/PixelMarks" ∧ Fld Z h' b8 "com/example/punctilio/punctilio/engine/PixelMarks" "words" "[J" (.ref w_9) ∧ own_A Z h' w_9 .long (((v5_7 + (64 : Int32)) - (1 : Int32)) / (64 : Int32)).toNatClampNeg (fun i => .long (mg_w_9_113 i)) ∧ (∀ t, Steps p.tables e below (T'.setTop (mkF m 113 #[.val (.int p0), .val (.int p1), .val (.int p2), .val (.int p3), .val (.int p4), .val (.int v5_7), .val (.int v6_16), .val (.int v7_25), .val (.int v8_34), .val (.int ms0_48), .val (.int ms0_62), .val (.int ms0_76), .val (.ref b8), .unset, .unset, .unset] [])) t → Steps p.tables e below (s₁.setTop (entryFrame m #[(.int p0), (.int p1), (.int p2), (.int p3), (.int p4)] maxLocals)) t) := by
    by_cases hc103 : ms0_62 = (0 : Int32)
    · have pre19 : ∀ t, Steps p.tables e below (T12.setTop (mkF m 113 #[.val (.int p0), .val (.int p1), .val (.int p2), .val (.int p3), .val (.int p4), .val (.int v5_7), .val (.int v6_16), .val (.int v7_25), .val (.int v8_34), .val (.int ms0_48), .val (.int ms0_62), .val (.int ms0_76), .val (.ref b8), .unset, .unset, .unset] [])) t → Steps p.tables e below (s₁.setTop (entryFrame m #[(.int p0), (.int p1), (.int p2), (.int p3), (.int p4)] maxLocals)) t := by
        intro t k
        refine pre17 t ?_
        show Steps p.tables e below (T12.setTop (mkF m 103 #[.val (.int p0), .val (.int p1), .val (.int p2), .val (.int p3), .val (.int p4), .val (.int v5_7), .val (.int v6_16), .val (.int v7_25), .val (.int v8_34), .val (.int ms0_48), .val (.int ms0_62), .val (.int ms0_76), .val (.ref b8), .unset, .unset, .unset] [(.int ms0_62)])) _
        refine XS.ifYes X12.here hx rfl (pc0 := 103) (pc' := 113) rfl (hb hby at_103) rfl ((if0 _ _).trans (teq hc103).1) (by decide) (by decide) ?_
        exact k
      have qmg_w_9_113 : mg_w_9_113 = mg_w_9_101 := by rw [hmg_w_9_113, if_pos hc103]
      exact ⟨T12, h12, _, X12, e12, N12, K12, Z12, (by (try rw [qmg_w_9_113]); exact exa_b8_12), (by (try rw [qmg_w_9_113]); exact fld_b8_words_12), (by (try rw [qmg_w_9_113]); exact arr_w_9_12), (by (try rw [qmg_w_9_113]); exact pre19)⟩
    · have pre21 : ∀ t, Steps p.tables e below (T12.setTop (mkF m 110 #[.val (.int p0), .val (.int p1), .val (.int p2), .val (.int p3), .val (.int p4), .val (.int v5_7), .val (.int v6_16), .val (.int v7_25), .val (.int v8_34), .val (.int ms0_48), .val (.int ms0_62), .val (.int ms0_76), .val (.ref b8), .unset, .unset, .unset] [(.int v7_25), (.ref b8)])) t → Steps p.tables e below (s₁.setTop (entryFrame m #[(.int p0), (.int p1), (.int p2), (.int p3), (.int p4)] maxLocals)) t := by
        intro t k
        refine pre17 t ?_
        show Steps p.tables e below (T12.setTop (mkF m 103 #[.val (.int p0), .val (.int p1), .val (.int p2), .val (.int p3), .val (.int p4), .val (.int v5_7), .val (.int v6_16), .val (.int v7_25), .val (.int v8_34), .val (.int ms0_48), .val (.int ms0_62), .val (.int ms0_76), .val (.ref b8), .unset, .unset, .unset] [(.int ms0_62)])) _
        refine XS.ifNo X12.here hx rfl (hb hby at_103) rfl ((if0 _ _).trans (feq hc103).1) ?_
        show Steps p.tables e below (T12.setTop (mkF m 106 #[.val (.int p0), .val (.int p1), .val (.int p2), .val (.int p3), .val (.int p4), .val (.int v5_7), .val (.int v6_16), .val (.int v7_25), .val (.int v8_34), .val (.int ms0_48), .val (.int ms0_62), .val (.int ms0_76), .val (.ref b8), .unset, .unset, .unset] [])) _
        refine XS.aload X12.here hx rfl (hb hby at_106) rfl rfl ?_
        show Steps p.tables e below (T12.setTop (mkF m 108 #[.val (.int p0), .val (.int p1), .val (.int p2), .val (.int p3), .val (.int p4), .val (.int v5_7), .val (.int v6_16), .val (.int v7_25), .val (.int v8_34), .val (.int ms0_48), .val (.int ms0_62), .val (.int ms0_76), .val (.ref b8), .unset, .unset, .unset] [(.ref b8)])) _
        refine XS.iload X12.here hx rfl (hb hby at_108) rfl  ?_
        exact k
      obtain ⟨cq20, kq20, q20a, q20b, q20c⟩ := isOf hZ e12 exa_b8_12
      obtain ⟨_, _, ⟨T20, L20, k20, n20⟩, -, X20, ⟨Lc20, hQ20, l20, y20, z20⟩, st20⟩ := X12.virtualBack hx (y := (⟨"com/example/punctilio/punctilio/engine/PixelMarks", "mark", "(I)V"⟩ : MethodName)) (z := (⟨"com/example/punctilio/punctilio/engine/PixelMarks", "mark", "(I)V"⟩ : MethodName)) hown (mvT hZ (hw _ (List.mem_of_getElem? (i := 28) rfl))) (mvT hZ (hw _ (List.mem_of_getElem? (i := 29) rfl))) (notFace_of_selects (args := #[]) (mvT hZ (hw _ (List.mem_of_getElem? (i := 31) rfl)))) (mvT hZ (hw _ (List.mem_of_getElem? (i := 31) rfl))) (mvT hZ (hw _ (List.mem_of_getElem? (i := 30) rfl))) (by decide) (backOf (W := 0) (rm_6 l Z a0 hw [] b8 v7_25 w_9 (((v5_7 + (64 : Int32)) - (1 : Int32)) / (64 : Int32)).toNatClampNeg mg_w_9_101 h12 n0 Z12 fld_b8_words_12 arr_w_9_12 ge_w_9 ne_b8_w_9 (own_idx v5_7 v7_25 (own_np hv5_7) (by rw [hv7_25]; exact (own_rem _ _ (own_np hv5_7).1).1) (by rw [hv7_25]; exact (own_rem _ _ (own_np hv5_7).1).2))) hZ (hw _ (List.mem_of_getElem? (i := 32) rfl)) (hw _ (List.mem_of_getElem? (i := 3) rfl)) (by decide) (by decide)) q20a q20c (g := (mkF m 110 #[.val (.int p0), .val (.int p1), .val (.int p2), .val (.int p3), .val (.int p4), .val (.int v5_7), .val (.int v6_16), .val (.int v7_25), .val (.int v8_34), .val (.int ms0_48), .val (.int ms0_62), .val (.int ms0_76), .val (.ref b8), .unset, .unset, .unset] [(.int v7_25), (.ref b8)])) rfl (by rw [hml]; rfl) (Steps.refl _) (argsL := [(.int v7_25)]) (rest := []) (lenOf pd_0 rfl) rfl (by show 2 * 0 + _ ≤ _; exact Nat.le_of_eq rfl) (hb hby at_110) (fun _ _ => ⟨rfl, e12, (by decide : 2 + 0 ≤ _), (by decide : 5 + 0 ≤ _)⟩)
      dsimp only [Pt.U, Pt.locs, Pt.cells, Pt.slots] at X20 l20 y20 z20 st20 hQ20
      subst l20 y20 z20
      obtain ⟨rfl, N20q, Kc20, Q20_0⟩ := hQ20
      have Kd20 : Keep h12 T20.heap [w_9] := Kc20
      have exa_b8_20 := exa_b8_12.keep Kd20
      have fld_b8_words_20 := fld_b8_words_12.keep Kd20 (ninS ne_b8_w_9 nin0)
      have K20 := K12.trans Kd20 (allS (Or.inr sz_w_9) all0)
      have Z20 := Nat.le_trans Z12 Kd20.1
      have N20 := Fr.app N12 N20q
      have pre22 : ∀ t, Steps p.tables e below (T20.setTop (mkF m 113 #[.val (.int p0), .val (.int p1), .val (.int p2), .val (.int p3), .val (.int p4), .val (.int v5_7), .val (.int v6_16), .val (.int v7_25), .val (.int v8_34), .val (.int ms0_48), .val (.int ms0_62), .val (.int ms0_76), .val (.ref b8), .unset, .unset, .unset] [])) t → Steps p.tables e below (s₁.setTop (entryFrame m #[(.int p0), (.int p1), (.int p2), (.int p3), (.int p4)] maxLocals)) t := by
        intro t k
        refine pre21 t ?_
        show Steps p.tables e below (T12.setTop (mkF m 110 #[.val (.int p0), .val (.int p1), .val (.int p2), .val (.int p3), .val (.int p4), .val (.int v5_7), .val (.int v6_16), .val (.int v7_25), .val (.int v8_34), .val (.int ms0_48), .val (.int ms0_62), .val (.int ms0_76), .val (.ref b8), .unset, .unset, .unset] [(.int v7_25), (.ref b8)])) _
        refine st20.trans ?_
        exact k
      have qmg_w_9_113 : mg_w_9_113 = (f_6_1 v7_25 (((v5_7 + (64 : Int32)) - (1 : Int32)) / (64 : Int32)).toNatClampNeg mg_w_9_101) := by rw [hmg_w_9_113, if_neg hc103]
      exact ⟨T20, T20.heap, _, X20, rfl, N20, K20, Z20, (by (try rw [qmg_w_9_113]); exact exa_b8_20), (by (try rw [qmg_w_9_113]); exact fld_b8_words_20), (by (try rw [qmg_w_9_113]); exact Q20_0), (by (try rw [qmg_w_9_113]); exact pre22)⟩
  have pre23 : ∀ t, Steps p.tables e below (T18.setTop (mkF m 115 #[.val (.int p0), .val (.int p1), .val (.int p2), .val (.int p3), .val (.int p4), .val (.int v5_7), .val (.int v6_16), .val (.int v7_25), .val (.int v8_34), .val (.int ms0_48), .val (.int ms0_62), .val (.int ms0_76), .val (.ref b8), .unset, .unset, .unset] [(.int ms0_76)])) t → Steps p.tables e below (s₁.setTop (entryFrame m #[(.int p0), (.int p1), (.int p2), (.int p3), (.int p4)] maxLocals)) t := by
    intro t k
    refine pre18 t ?_
    show Steps p.tables e below (T18.setTop (mkF m 113 #[.val (.int p0), .val (.int p1), .val (.int p2), .val (.int p3), .val (.int p4), .val (.int v5_7), .val (.int v6_16), .val (.int v7_25), .val (.int v8_34), .val (.int ms0_48), .val (.int ms0_62), .val (.int ms0_76), .val (.ref b8), .unset, .unset, .unset] [])) _
    refine XS.iload X18.here hx rfl (hb hby at_113) rfl  ?_
    exact k
  obtain ⟨mg_w_9_125, hmg_w_9_125⟩ : ∃ z : Nat → Int64, z = (if ms0_76 = (0 : Int32) then mg_w_9_113 else (f_6_1 v8_34 (((v5_7 + (64 : Int32)) - (1 : Int32)) / (64 : Int32)).toNatClampNeg mg_w_9_113)) := ⟨_, rfl⟩
  obtain ⟨T24, h24, lc24, X24, e24, N24, K24, Z24, exa_b8_24, fld_b8_words_24, arr_w_9_24, pre24⟩ : ∃ (T' : State) (h' : Heap) (lc : List Loc), Stand p l e room_1 s m #[(.int p0), (.int p1), (.int p2), (.int p3), (.int p4)] below meth c T' lc 2 5 ∧ T'.heap = h' ∧ Fr n0 lc ∧ Keep h0 h' [] ∧ n0 ≤ h'.size ∧ Exa Z h' b8 "com/example/punctilio/punctilio/engine/PixelMarks" ∧ Fld Z h' b8 "com/example/punctilio/punctilio/engine/PixelMarks" "words" "[J" (.ref w_9) ∧ own_A Z h' w_9 .long (((v5_7 + (64 : Int32)) - (1 : Int32)) / (64 : Int32)).toNatClampNeg (fun i => .long (mg_w_9_125 i)) ∧ (∀ t, Steps p.tables e below (T'.setTop (mkF m 125 #[.val (.int p0), .val (.int p1), .val (.int p2), .val (.int p3), .val (.int p4), .val (.int v5_7), .val (.int v6_16), .val (.int v7_25), .val (.int v8_34), .val (.int ms0_48), .val (.int ms0_62), .val (.int ms0_76), .val (.ref b8), .unset, .unset, .unset] [])) t → Steps p.tables e below (s₁.setTop (entryFrame m #[(.int p0), (.int p1), (.int p2), (.int p3), (.int p4)] maxLocals)) t) := by
    by_cases hc115 : ms0_76 = (0 : Int32)
    · have pre25 : ∀ t, Steps p.tables e below (T18.setTop (mkF m 125 #[.val (.int p0), .val (.int p1), .val (.int p2), .val (.int p3), .val (.int p4), .val (.int v5_7), .val (.int v6_16), .val (.int v7_25), .val (.int v8_34), .val (.int ms0_48), .val (.int ms0_62), .val (.int ms0_76), .val (.ref b8), .unset, .unset, .unset] [])) t → Steps p.tables e below (s₁.setTop (entryFrame m #[(.int p0), (.int p1), (.int p2), (.int p3), (.int p4)] maxLocals)) t := by
        intro t k
        refine pre23 t ?_
        show Steps p.tables e below (T18.setTop (mkF m 115 #[.val (.int p0), .val (.int p1), .val (.int p2), .val (.int p3), .val (.int p4), .val (.int v5_7), .val (.int v6_16), .val (.int v7_25), .val (.int v8_34), .val (.int ms0_48), .val (.int ms0_62), .val (.int ms0_76), .val (.ref b8), .unset, .unset, .unset] [(.int ms0_76)])) _
        refine XS.ifYes X18.here hx rfl (pc0 := 115) (pc' := 125) rfl (hb hby at_115) rfl ((if0 _ _).trans (teq hc115).1) (by decide) (by decide) ?_
        exact k
      have qmg_w_9_125 : mg_w_9_125 = mg_w_9_113 := by rw [hmg_w_9_125, if_pos hc115]
      exact ⟨T18, h18, _, X18, e18, N18, K18, Z18, (by (try rw [qmg_w_9_125]); exact exa_b8_18), (by (try rw [qmg_w_9_125]); exact fld_b8_words_18), (by (try rw [qmg_w_9_125]); exact arr_w_9_18), (by (try rw [qmg_w_9_125]); exact pre25)⟩
    · have pre27 : ∀ t, Steps p.tables e below (T18.setTop (mkF m 122 #[.val (.int p0), .val (.int p1), .val (.int p2), .val (.int p3), .val (.int p4), .val (.int v5_7), .val (.int v6_16), .val (.int v7_25), .val (.int v8_34), .val (.int ms0_48), .val (.int ms0_62), .val (.int ms0_76), .val (.ref b8), .unset, .unset, .unset] [(.int v8_34), (.ref b8)])) t → Steps p.tables e below (s₁.setTop (entryFrame m #[(.int p0), (.int p1), (.int p2), (.int p3), (.int p4)] maxLocals)) t := by
        intro t k
        refine pre23 t ?_
        show Steps p.tables e below (T18.setTop (mkF m 115 #[.val (.int p0), .val (.int p1), .val (.int p2), .val (.int p3), .val (.int p4), .val (.int v5_7), .val (.int v6_16), .val (.int v7_25), .val (.int v8_34), .val (.int ms0_48), .val (.int ms0_62), .val (.int ms0_76), .val (.ref b8), .unset, .unset, .unset] [(.int ms0_76)])) _
        refine XS.ifNo X18.here hx rfl (hb hby at_115) rfl ((if0 _ _).trans (feq hc115).1) ?_
        show Steps p.tables e below (T18.setTop (mkF m 118 #[.val (.int p0), .val (.int p1), .val (.int p2), .val (.int p3), .val (.int p4), .val (.int v5_7), .val (.int v6_16), .val (.int v7_25), .val (.int v8_34), .val (.int ms0_48), .val (.int ms0_62), .val (.int ms0_76), .val (.ref b8), .unset, .unset, .unset] [])) _
        refine XS.aload X18.here hx rfl (hb hby at_118) rfl rfl ?_
        show Steps p.tables e below (T18.setTop (mkF m 120 #[.val (.int p0), .val (.int p1), .val (.int p2), .val (.int p3), .val (.int p4), .val (.int v5_7), .val (.int v6_16), .val (.int v7_25), .val (.int v8_34), .val (.int ms0_48), .val (.int ms0_62), .val (.int ms0_76), .val (.ref b8), .unset, .unset, .unset] [(.ref b8)])) _
        refine XS.iload X18.here hx rfl (hb hby at_120) rfl  ?_
        exact k
      obtain ⟨cq26, kq26, q26a, q26b, q26c⟩ := isOf hZ e18 exa_b8_18
      obtain ⟨_, _, ⟨T26, L26, k26, n26⟩, -, X26, ⟨Lc26, hQ26, l26, y26, z26⟩, st26⟩ := X18.virtualBack hx (y := (⟨"com/example/punctilio/punctilio/engine/PixelMarks", "mark", "(I)V"⟩ : MethodName)) (z := (⟨"com/example/punctilio/punctilio/engine/PixelMarks", "mark", "(I)V"⟩ : MethodName)) hown (mvT hZ (hw _ (List.mem_of_getElem? (i := 28) rfl))) (mvT hZ (hw _ (List.mem_of_getElem? (i := 29) rfl))) (notFace_of_selects (args := #[]) (mvT hZ (hw _ (List.mem_of_getElem? (i := 31) rfl)))) (mvT hZ (hw _ (List.mem_of_getElem? (i := 31) rfl))) (mvT hZ (hw _ (List.mem_of_getElem? (i := 30) rfl))) (by decide) (backOf (W := 0) (rm_6 l Z a0 hw [] b8 v8_34 w_9 (((v5_7 + (64 : Int32)) - (1 : Int32)) / (64 : Int32)).toNatClampNeg mg_w_9_113 h18 n0 Z18 fld_b8_words_18 arr_w_9_18 ge_w_9 ne_b8_w_9 (own_idx v5_7 v8_34 (own_np hv5_7) (by rw [hv8_34]; exact (own_rem _ _ (own_np hv5_7).1).1) (by rw [hv8_34]; exact (own_rem _ _ (own_np hv5_7).1).2))) hZ (hw _ (List.mem_of_getElem? (i := 32) rfl)) (hw _ (List.mem_of_getElem? (i := 3) rfl)) (by decide) (by decide)) q26a q26c (g := (mkF m 122 #[.val (.int p0), .val (.int p1), .val (.int p2), .val (.int p3), .val (.int p4), .val (.int v5_7), .val (.int v6_16), .val (.int v7_25), .val (.int v8_34), .val (.int ms0_48), .val (.int ms0_62), .val (.int ms0_76), .val (.ref b8), .unset, .unset, .unset] [(.int v8_34), (.ref b8)])) rfl (by rw [hml]; rfl) (Steps.refl _) (argsL := [(.int v8_34)]) (rest := []) (lenOf pd_0 rfl) rfl (by show 2 * 0 + _ ≤ _; exact Nat.le_of_eq rfl) (hb hby at_122) (fun _ _ => ⟨rfl, e18, (by decide : 2 + 0 ≤ _), (by decide : 5 + 0 ≤ _)⟩)
      dsimp only [Pt.U, Pt.locs, Pt.cells, Pt.slots] at X26 l26 y26 z26 st26 hQ26
      subst l26 y26 z26
      obtain ⟨rfl, N26q, Kc26, Q26_0⟩ := hQ26
      have Kd26 : Keep h18 T26.heap [w_9] := Kc26
      have exa_b8_26 := exa_b8_18.keep Kd26
      have fld_b8_words_26 := fld_b8_words_18.keep Kd26 (ninS ne_b8_w_9 nin0)
      have K26 := K18.trans Kd26 (allS (Or.inr sz_w_9) all0)
      have Z26 := Nat.le_trans Z18 Kd26.1
      have N26 := Fr.app N18 N26q
      have pre28 : ∀ t, Steps p.tables e below (T26.setTop (mkF m 125 #[.val (.int p0), .val (.int p1), .val (.int p2), .val (.int p3), .val (.int p4), .val (.int v5_7), .val (.int v6_16), .val (.int v7_25), .val (.int v8_34), .val (.int ms0_48), .val (.int ms0_62), .val (.int ms0_76), .val (.ref b8), .unset, .unset, .unset] [])) t → Steps p.tables e below (s₁.setTop (entryFrame m #[(.int p0), (.int p1), (.int p2), (.int p3), (.int p4)] maxLocals)) t := by
        intro t k
        refine pre27 t ?_
        show Steps p.tables e below (T18.setTop (mkF m 122 #[.val (.int p0), .val (.int p1), .val (.int p2), .val (.int p3), .val (.int p4), .val (.int v5_7), .val (.int v6_16), .val (.int v7_25), .val (.int v8_34), .val (.int ms0_48), .val (.int ms0_62), .val (.int ms0_76), .val (.ref b8), .unset, .unset, .unset] [(.int v8_34), (.ref b8)])) _
        refine st26.trans ?_
        exact k
      have qmg_w_9_125 : mg_w_9_125 = (f_6_1 v8_34 (((v5_7 + (64 : Int32)) - (1 : Int32)) / (64 : Int32)).toNatClampNeg mg_w_9_113) := by rw [hmg_w_9_125, if_neg hc115]
      exact ⟨T26, T26.heap, _, X26, rfl, N26, K26, Z26, (by (try rw [qmg_w_9_125]); exact exa_b8_26), (by (try rw [qmg_w_9_125]); exact fld_b8_words_26), (by (try rw [qmg_w_9_125]); exact Q26_0), (by (try rw [qmg_w_9_125]); exact pre28)⟩
  have pre30 : ∀ t, Steps p.tables e below (T24.setTop (mkF m 129 #[.val (.int p0), .val (.int p1), .val (.int p2), .val (.int p3), .val (.int p4), .val (.int v5_7), .val (.int v6_16), .val (.int v7_25), .val (.int v8_34), .val (.int ms0_48), .val (.int ms0_62), .val (.int ms0_76), .val (.ref b8), .unset, .unset, .unset] [(.int v6_16), (.ref b8)])) t → Steps p.tables e below (s₁.setTop (entryFrame m #[(.int p0), (.int p1), (.int p2), (.int p3), (.int p4)] maxLocals)) t := by
    intro t k
    refine pre24 t ?_
    show Steps p.tables e below (T24.setTop (mkF m 125 #[.val (.int p0), .val (.int p1), .val (.int p2), .val (.int p3), .val (.int p4), .val (.int v5_7), .val (.int v6_16), .val (.int v7_25), .val (.int v8_34), .val (.int ms0_48), .val (.int ms0_62), .val (.int ms0_76), .val (.ref b8), .unset, .unset, .unset] [])) _
    refine XS.aload X24.here hx rfl (hb hby at_125) rfl rfl ?_
    show Steps p.tables e below (T24.setTop (mkF m 127 #[.val (.int p0), .val (.int p1), .val (.int p2), .val (.int p3), .val (.int p4), .val (.int v5_7), .val (.int v6_16), .val (.int v7_25), .val (.int v8_34), .val (.int ms0_48), .val (.int ms0_62), .val (.int ms0_76), .val (.ref b8), .unset, .unset, .unset] [(.ref b8)])) _
    refine XS.iload X24.here hx rfl (hb hby at_127) rfl  ?_
    exact k
  obtain ⟨cq29, kq29, q29a, q29b, q29c⟩ := isOf hZ e24 exa_b8_24
  obtain ⟨_, _, ⟨T29, L29, k29, n29⟩, -, X29, ⟨Lc29, hQ29, l29, y29, z29⟩, st29⟩ := X24.virtualBack hx (y := (⟨"com/example/punctilio/punctilio/engine/PixelMarks", "unmark", "(I)V"⟩ : MethodName)) (z := (⟨"com/example/punctilio/punctilio/engine/PixelMarks", "unmark", "(I)V"⟩ : MethodName)) hown (mvT hZ (hw _ (List.mem_of_getElem? (i := 13) rfl))) (mvT hZ (hw _ (List.mem_of_getElem? (i := 14) rfl))) (notFace_of_selects (args := #[]) (mvT hZ (hw _ (List.mem_of_getElem? (i := 16) rfl)))) (mvT hZ (hw _ (List.mem_of_getElem? (i := 16) rfl))) (mvT hZ (hw _ (List.mem_of_getElem? (i := 15) rfl))) (by decide) (backOf (W := 0) (rm_3 l Z a0 hw [] b8 v6_16 w_9 (((v5_7 + (64 : Int32)) - (1 : Int32)) / (64 : Int32)).toNatClampNeg mg_w_9_125 h24 n0 Z24 fld_b8_words_24 arr_w_9_24 ge_w_9 ne_b8_w_9 (own_idx v5_7 v6_16 (own_np hv5_7) (by rw [hv6_16]; exact (own_rem _ _ (own_np hv5_7).1).1) (by rw [hv6_16]; exact (own_rem _ _ (own_np hv5_7).1).2))) hZ (hw _ (List.mem_of_getElem? (i := 17) rfl)) (hw _ (List.mem_of_getElem? (i := 3) rfl)) (by decide) (by decide)) q29a q29c (g := (mkF m 129 #[.val (.int p0), .val (.int p1), .val (.int p2), .val (.int p3), .val (.int p4), .val (.int v5_7), .val (.int v6_16), .val (.int v7_25), .val (.int v8_34), .val (.int ms0_48), .val (.int ms0_62), .val (.int ms0_76), .val (.ref b8), .unset, .unset, .unset] [(.int v6_16), (.ref b8)])) rfl (by rw [hml]; rfl) (Steps.refl _) (argsL := [(.int v6_16)]) (rest := []) (lenOf pd_0 rfl) rfl (by show 2 * 0 + _ ≤ _; exact Nat.le_of_eq rfl) (hb hby at_129) (fun _ _ => ⟨rfl, e24, (by decide : 2 + 0 ≤ _), (by decide : 5 + 0 ≤ _)⟩)
  dsimp only [Pt.U, Pt.locs, Pt.cells, Pt.slots] at X29 l29 y29 z29 st29 hQ29
  subst l29 y29 z29
  obtain ⟨rfl, N29q, Kc29, Q29_0⟩ := hQ29
  have Kd29 : Keep h24 T29.heap [w_9] := Kc29
  have exa_b8_29 := exa_b8_24.keep Kd29
  have fld_b8_words_29 := fld_b8_words_24.keep Kd29 (ninS ne_b8_w_9 nin0)
  have K29 := K24.trans Kd29 (allS (Or.inr sz_w_9) all0)
  have Z29 := Nat.le_trans Z24 Kd29.1
  have N29 := Fr.app N24 N29q
  have pre32 : ∀ t, Steps p.tables e below (T29.setTop (mkF m 136 #[.val (.int p0), .val (.int p1), .val (.int p2), .val (.int p3), .val (.int p4), .val (.int v5_7), .val (.int v6_16), .val (.int v7_25), .val (.int v8_34), .val (.int ms0_48), .val (.int ms0_62), .val (.int ms0_76), .val (.ref b8), .unset, .unset, .unset] [(.int v6_16), (.ref b8)])) t → Steps p.tables e below (s₁.setTop (entryFrame m #[(.int p0), (.int p1), (.int p2), (.int p3), (.int p4)] maxLocals)) t := by
    intro t k
    refine pre30 t ?_
    show Steps p.tables e below (T24.setTop (mkF m 129 #[.val (.int p0), .val (.int p1), .val (.int p2), .val (.int p3), .val (.int p4), .val (.int v5_7), .val (.int v6_16), .val (.int v7_25), .val (.int v8_34), .val (.int ms0_48), .val (.int ms0_62), .val (.int ms0_76), .val (.ref b8), .unset, .unset, .unset] [(.int v6_16), (.ref b8)])) _
    refine st29.trans ?_
    show Steps p.tables e below (T29.setTop (mkF m 132 #[.val (.int p0), .val (.int p1), .val (.int p2), .val (.int p3), .val (.int p4), .val (.int v5_7), .val (.int v6_16), .val (.int v7_25), .val (.int v8_34), .val (.int ms0_48), .val (.int ms0_62), .val (.int ms0_76), .val (.ref b8), .unset, .unset, .unset] [])) _
    refine XS.aload X29.here hx rfl (hb hby at_132) rfl rfl ?_
    show Steps p.tables e below (T29.setTop (mkF m 134 #[.val (.int p0), .val (.int p1), .val (.int p2), .val (.int p3), .val (.int p4), .val (.int v5_7), .val (.int v6_16), .val (.int v7_25), .val (.int v8_34), .val (.int ms0_48), .val (.int ms0_62), .val (.int ms0_76), .val (.ref b8), .unset, .unset, .unset] [(.ref b8)])) _
    refine XS.iload X29.here hx rfl (hb hby at_134) rfl  ?_
    exact k
  obtain ⟨cq31, kq31, q31a, q31b, q31c⟩ := isOf hZ rfl exa_b8_29
  obtain ⟨_, _, ⟨T31, L31, k31, n31⟩, -, X31, ⟨Lc31, hQ31, l31, y31, z31⟩, st31⟩ := X29.virtualBack hx (y := (⟨"com/example/punctilio/punctilio/engine/PixelMarks", "has", "(I)Z"⟩ : MethodName)) (z := (⟨"com/example/punctilio/punctilio/engine/PixelMarks", "has", "(I)Z"⟩ : MethodName)) hown (mvT hZ (hw _ (List.mem_of_getElem? (i := 19) rfl))) (mvT hZ (hw _ (List.mem_of_getElem? (i := 20) rfl))) (notFace_of_selects (args := #[]) (mvT hZ (hw _ (List.mem_of_getElem? (i := 22) rfl)))) (mvT hZ (hw _ (List.mem_of_getElem? (i := 22) rfl))) (mvT hZ (hw _ (List.mem_of_getElem? (i := 21) rfl))) (by decide) (backOf (W := 0) (rm_4 l Z a0 hw [] b8 v6_16 w_9 (((v5_7 + (64 : Int32)) - (1 : Int32)) / (64 : Int32)).toNatClampNeg (f_3_1 v6_16 (((v5_7 + (64 : Int32)) - (1 : Int32)) / (64 : Int32)).toNatClampNeg mg_w_9_125) T29.heap n0 Z29 fld_b8_words_29 Q29_0 (own_idx v5_7 v6_16 (own_np hv5_7) (by rw [hv6_16]; exact (own_rem _ _ (own_np hv5_7).1).1) (by rw [hv6_16]; exact (own_rem _ _ (own_np hv5_7).1).2))) hZ (hw _ (List.mem_of_getElem? (i := 23) rfl)) (hw _ (List.mem_of_getElem? (i := 3) rfl)) (by decide) (by decide)) q31a q31c (g := (mkF m 136 #[.val (.int p0), .val (.int p1), .val (.int p2), .val (.int p3), .val (.int p4), .val (.int v5_7), .val (.int v6_16), .val (.int v7_25), .val (.int v8_34), .val (.int ms0_48), .val (.int ms0_62), .val (.int ms0_76), .val (.ref b8), .unset, .unset, .unset] [(.int v6_16), (.ref b8)])) rfl (by rw [hml]; rfl) (Steps.refl _) (argsL := [(.int v6_16)]) (rest := []) (lenOf pd_1 rfl) rfl (by show 2 * 0 + _ ≤ _; exact Nat.le_of_eq rfl) (hb hby at_136) (fun _ _ => ⟨rfl, rfl, (by decide : 2 + 0 ≤ _), (by decide : 5 + 0 ≤ _)⟩)
  dsimp only [Pt.U, Pt.locs, Pt.cells, Pt.slots] at X31 l31 y31 z31 st31 hQ31
  subst l31 y31 z31
  obtain ⟨rfl, N31q, e31⟩ := hQ31
  have N31 := Fr.app N29 N31q
  have pre33 : ∀ t, Steps p.tables e below (T31.setTop (mkF m 139 #[.val (.int p0), .val (.int p1), .val (.int p2), .val (.int p3), .val (.int p4), .val (.int v5_7), .val (.int v6_16), .val (.int v7_25), .val (.int v8_34), .val (.int ms0_48), .val (.int ms0_62), .val (.int ms0_76), .val (.ref b8), .unset, .unset, .unset] [(.int (f_4 v6_16 (((v5_7 + (64 : Int32)) - (1 : Int32)) / (64 : Int32)).toNatClampNeg (f_3_1 v6_16 (((v5_7 + (64 : Int32)) - (1 : Int32)) / (64 : Int32)).toNatClampNeg mg_w_9_125)))])) t → Steps p.tables e below (s₁.setTop (entryFrame m #[(.int p0), (.int p1), (.int p2), (.int p3), (.int p4)] maxLocals)) t := by
    intro t k
    refine pre32 t ?_
    show Steps p.tables e below (T29.setTop (mkF m 136 #[.val (.int p0), .val (.int p1), .val (.int p2), .val (.int p3), .val (.int p4), .val (.int v5_7), .val (.int v6_16), .val (.int v7_25), .val (.int v8_34), .val (.int ms0_48), .val (.int ms0_62), .val (.int ms0_76), .val (.ref b8), .unset, .unset, .unset] [(.int v6_16), (.ref b8)])) _
    refine st31.trans ?_
    exact k
  obtain ⟨ms0_147, hms0_147⟩ : ∃ z : Int32, z = (if (f_4 v6_16 (((v5_7 + (64 : Int32)) - (1 : Int32)) / (64 : Int32)).toNatClampNeg (f_3_1 v6_16 (((v5_7 + (64 : Int32)) - (1 : Int32)) / (64 : Int32)).toNatClampNeg mg_w_9_125)) = (0 : Int32) then (1 : Int32) else (0 : Int32)) := ⟨_, rfl⟩
  have pre34 : ∀ t, Steps p.tables e below (T31.setTop (mkF m 147 #[.val (.int p0), .val (.int p1), .val (.int p2), .val (.int p3), .val (.int p4), .val (.int v5_7), .val (.int v6_16), .val (.int v7_25), .val (.int v8_34), .val (.int ms0_48), .val (.int ms0_62), .val (.int ms0_76), .val (.ref b8), .unset, .unset, .unset] [(.int ms0_147)])) t → Steps p.tables e below (s₁.setTop (entryFrame m #[(.int p0), (.int p1), (.int p2), (.int p3), (.int p4)] maxLocals)) t := by
    intro t k
    refine pre33 t ?_
    by_cases hc139 : (f_4 v6_16 (((v5_7 + (64 : Int32)) - (1 : Int32)) / (64 : Int32)).toNatClampNeg (f_3_1 v6_16 (((v5_7 + (64 : Int32)) - (1 : Int32)) / (64 : Int32)).toNatClampNeg mg_w_9_125)) = (0 : Int32)
    · show Steps p.tables e below (T31.setTop (mkF m 139 #[.val (.int p0), .val (.int p1), .val (.int p2), .val (.int p3), .val (.int p4), .val (.int v5_7), .val (.int v6_16), .val (.int v7_25), .val (.int v8_34), .val (.int ms0_48), .val (.int ms0_62), .val (.int ms0_76), .val (.ref b8), .unset, .unset, .unset] [(.int (f_4 v6_16 (((v5_7 + (64 : Int32)) - (1 : Int32)) / (64 : Int32)).toNatClampNeg (f_3_1 v6_16 (((v5_7 + (64 : Int32)) - (1 : Int32)) / (64 : Int32)).toNatClampNeg mg_w_9_125)))])) _
      refine XS.ifNo X31.here hx rfl (hb hby at_139) rfl ((if0 _ _).trans (teq hc139).2) ?_
      show Steps p.tables e below (T31.setTop (mkF m 142 #[.val (.int p0), .val (.int p1), .val (.int p2), .val (.int p3), .val (.int p4), .val (.int v5_7), .val (.int v6_16), .val (.int v7_25), .val (.int v8_34), .val (.int ms0_48), .val (.int ms0_62), .val (.int ms0_76), .val (.ref b8), .unset, .unset, .unset] [])) _
      refine XS.iconst X31.here hx rfl (hb hby at_142) ?_
      show Steps p.tables e below (T31.setTop (mkF m 143 #[.val (.int p0), .val (.int p1), .val (.int p2), .val (.int p3), .val (.int p4), .val (.int v5_7), .val (.int v6_16), .val (.int v7_25), .val (.int v8_34), .val (.int ms0_48), .val (.int ms0_62), .val (.int ms0_76), .val (.ref b8), .unset, .unset, .unset] [(.int (1 : Int32))])) _
      refine XS.goto X31.here hx rfl (pc0 := 143) (pc' := 147) rfl (hb hby at_143) (by decide) (by decide) ?_
      have qms0_147 : ms0_147 = (1 : Int32) := by rw [hms0_147, if_pos hc139]
      rw [qms0_147] at k
      exact k
    · show Steps p.tables e below (T31.setTop (mkF m 139 #[.val (.int p0), .val (.int p1), .val (.int p2), .val (.int p3), .val (.int p4), .val (.int v5_7), .val (.int v6_16), .val (.int v7_25), .val (.int v8_34), .val (.int ms0_48), .val (.int ms0_62), .val (.int ms0_76), .val (.ref b8), .unset, .unset, .unset] [(.int (f_4 v6_16 (((v5_7 + (64 : Int32)) - (1 : Int32)) / (64 : Int32)).toNatClampNeg (f_3_1 v6_16 (((v5_7 + (64 : Int32)) - (1 : Int32)) / (64 : Int32)).toNatClampNeg mg_w_9_125)))])) _
      refine XS.ifYes X31.here hx rfl (pc0 := 139) (pc' := 146) rfl (hb hby at_139) rfl ((if0 _ _).trans (feq hc139).2) (by decide) (by decide) ?_
      show Steps p.tables e below (T31.setTop (mkF m 146 #[.val (.int p0), .val (.int p1), .val (.int p2), .val (.int p3), .val (.int p4), .val (.int v5_7), .val (.int v6_16), .val (.int v7_25), .val (.int v8_34), .val (.int ms0_48), .val (.int ms0_62), .val (.int ms0_76), .val (.ref b8), .unset, .unset, .unset] [])) _
      refine XS.iconst X31.here hx rfl (hb hby at_146) ?_
      have qms0_147 : ms0_147 = (0 : Int32) := by rw [hms0_147, if_neg hc139]
      rw [qms0_147] at k
      exact k
  have pre36 : ∀ t, Steps p.tables e below (T31.setTop (mkF m 153 #[.val (.int p0), .val (.int p1), .val (.int p2), .val (.int p3), .val (.int p4), .val (.int v5_7), .val (.int v6_16), .val (.int v7_25), .val (.int v8_34), .val (.int ms0_48), .val (.int ms0_62), .val (.int ms0_76), .val (.ref b8), .val (.int ms0_147), .unset, .unset] [(.int v7_25), (.ref b8)])) t → Steps p.tables e below (s₁.setTop (entryFrame m #[(.int p0), (.int p1), (.int p2), (.int p3), (.int p4)] maxLocals)) t := by
    intro t k
    refine pre34 t ?_
    show Steps p.tables e below (T31.setTop (mkF m 147 #[.val (.int p0), .val (.int p1), .val (.int p2), .val (.int p3), .val (.int p4), .val (.int v5_7), .val (.int v6_16), .val (.int v7_25), .val (.int v8_34), .val (.int ms0_48), .val (.int ms0_62), .val (.int ms0_76), .val (.ref b8), .unset, .unset, .unset] [(.int ms0_147)])) _
    refine XS.istore X31.here hx rfl (hb hby at_147) rfl (l' := #[.val (.int p0), .val (.int p1), .val (.int p2), .val (.int p3), .val (.int p4), .val (.int v5_7), .val (.int v6_16), .val (.int v7_25), .val (.int v8_34), .val (.int ms0_48), .val (.int ms0_62), .val (.int ms0_76), .val (.ref b8), .val (.int ms0_147), .unset, .unset]) rfl ?_
    show Steps p.tables e below (T31.setTop (mkF m 149 #[.val (.int p0), .val (.int p1), .val (.int p2), .val (.int p3), .val (.int p4), .val (.int v5_7), .val (.int v6_16), .val (.int v7_25), .val (.int v8_34), .val (.int ms0_48), .val (.int ms0_62), .val (.int ms0_76), .val (.ref b8), .val (.int ms0_147), .unset, .unset] [])) _
    refine XS.aload X31.here hx rfl (hb hby at_149) rfl rfl ?_
    show Steps p.tables e below (T31.setTop (mkF m 151 #[.val (.int p0), .val (.int p1), .val (.int p2), .val (.int p3), .val (.int p4), .val (.int v5_7), .val (.int v6_16), .val (.int v7_25), .val (.int v8_34), .val (.int ms0_48), .val (.int ms0_62), .val (.int ms0_76), .val (.ref b8), .val (.int ms0_147), .unset, .unset] [(.ref b8)])) _
    refine XS.iload X31.here hx rfl (hb hby at_151) rfl  ?_
    exact k
  obtain ⟨cq35, kq35, q35a, q35b, q35c⟩ := isOf hZ e31 exa_b8_29
  obtain ⟨_, _, ⟨T35, L35, k35, n35⟩, -, X35, ⟨Lc35, hQ35, l35, y35, z35⟩, st35⟩ := X31.virtualBack hx (y := (⟨"com/example/punctilio/punctilio/engine/PixelMarks", "has", "(I)Z"⟩ : MethodName)) (z := (⟨"com/example/punctilio/punctilio/engine/PixelMarks", "has", "(I)Z"⟩ : MethodName)) hown (mvT hZ (hw _ (List.mem_of_getElem? (i := 19) rfl))) (mvT hZ (hw _ (List.mem_of_getElem? (i := 20) rfl))) (notFace_of_selects (args := #[]) (mvT hZ (hw _ (List.mem_of_getElem? (i := 22) rfl)))) (mvT hZ (hw _ (List.mem_of_getElem? (i := 22) rfl))) (mvT hZ (hw _ (List.mem_of_getElem? (i := 21) rfl))) (by decide) (backOf (W := 0) (rm_4 l Z a0 hw [] b8 v7_25 w_9 (((v5_7 + (64 : Int32)) - (1 : Int32)) / (64 : Int32)).toNatClampNeg (f_3_1 v6_16 (((v5_7 + (64 : Int32)) - (1 : Int32)) / (64 : Int32)).toNatClampNeg mg_w_9_125) T29.heap n0 Z29 fld_b8_words_29 Q29_0 (own_idx v5_7 v7_25 (own_np hv5_7) (by rw [hv7_25]; exact (own_rem _ _ (own_np hv5_7).1).1) (by rw [hv7_25]; exact (own_rem _ _ (own_np hv5_7).1).2))) hZ (hw _ (List.mem_of_getElem? (i := 23) rfl)) (hw _ (List.mem_of_getElem? (i := 3) rfl)) (by decide) (by decide)) q35a q35c (g := (mkF m 153 #[.val (.int p0), .val (.int p1), .val (.int p2), .val (.int p3), .val (.int p4), .val (.int v5_7), .val (.int v6_16), .val (.int v7_25), .val (.int v8_34), .val (.int ms0_48), .val (.int ms0_62), .val (.int ms0_76), .val (.ref b8), .val (.int ms0_147), .unset, .unset] [(.int v7_25), (.ref b8)])) rfl (by rw [hml]; rfl) (Steps.refl _) (argsL := [(.int v7_25)]) (rest := []) (lenOf pd_1 rfl) rfl (by show 2 * 0 + _ ≤ _; exact Nat.le_of_eq rfl) (hb hby at_153) (fun _ _ => ⟨rfl, e31, (by decide : 2 + 0 ≤ _), (by decide : 5 + 0 ≤ _)⟩)
  dsimp only [Pt.U, Pt.locs, Pt.cells, Pt.slots] at X35 l35 y35 z35 st35 hQ35
  subst l35 y35 z35
  obtain ⟨rfl, N35q, e35⟩ := hQ35
  have N35 := Fr.app N31 N35q
  have pre38 : ∀ t, Steps p.tables e below (T35.setTop (mkF m 166 #[.val (.int p0), .val (.int p1), .val (.int p2), .val (.int p3), .val (.int p4), .val (.int v5_7), .val (.int v6_16), .val (.int v7_25), .val (.int v8_34), .val (.int ms0_48), .val (.int ms0_62), .val (.int ms0_76), .val (.ref b8), .val (.int ms0_147), .unset, .unset] [(.int ms0_76), (.int ms0_62), (.int v8_34), (.int v7_25), (.int v7_25), (.int (f_4 v7_25 (((v5_7 + (64 : Int32)) - (1 : Int32)) / (64 : Int32)).toNatClampNeg (f_3_1 v6_16 (((v5_7 + (64 : Int32)) - (1 : Int32)) / (64 : Int32)).toNatClampNeg mg_w_9_125)))])) t → Steps p.tables e below (s₁.setTop (entryFrame m #[(.int p0), (.int p1), (.int p2), (.int p3), (.int p4)] maxLocals)) t := by
    intro t k
    refine pre36 t ?_
    show Steps p.tables e below (T31.setTop (mkF m 153 #[.val (.int p0), .val (.int p1), .val (.int p2), .val (.int p3), .val (.int p4), .val (.int v5_7), .val (.int v6_16), .val (.int v7_25), .val (.int v8_34), .val (.int ms0_48), .val (.int ms0_62), .val (.int ms0_76), .val (.ref b8), .val (.int ms0_147), .unset, .unset] [(.int v7_25), (.ref b8)])) _
    refine st35.trans ?_
    show Steps p.tables e below (T35.setTop (mkF m 156 #[.val (.int p0), .val (.int p1), .val (.int p2), .val (.int p3), .val (.int p4), .val (.int v5_7), .val (.int v6_16), .val (.int v7_25), .val (.int v8_34), .val (.int ms0_48), .val (.int ms0_62), .val (.int ms0_76), .val (.ref b8), .val (.int ms0_147), .unset, .unset] [(.int (f_4 v7_25 (((v5_7 + (64 : Int32)) - (1 : Int32)) / (64 : Int32)).toNatClampNeg (f_3_1 v6_16 (((v5_7 + (64 : Int32)) - (1 : Int32)) / (64 : Int32)).toNatClampNeg mg_w_9_125)))])) _
    refine XS.iload X35.here hx rfl (hb hby at_156) rfl  ?_
    show Steps p.tables e below (T35.setTop (mkF m 158 #[.val (.int p0), .val (.int p1), .val (.int p2), .val (.int p3), .val (.int p4), .val (.int v5_7), .val (.int v6_16), .val (.int v7_25), .val (.int v8_34), .val (.int ms0_48), .val (.int ms0_62), .val (.int ms0_76), .val (.ref b8), .val (.int ms0_147), .unset, .unset] [(.int v7_25), (.int (f_4 v7_25 (((v5_7 + (64 : Int32)) - (1 : Int32)) / (64 : Int32)).toNatClampNeg (f_3_1 v6_16 (((v5_7 + (64 : Int32)) - (1 : Int32)) / (64 : Int32)).toNatClampNeg mg_w_9_125)))])) _
    refine XS.iload X35.here hx rfl (hb hby at_158) rfl  ?_
    show Steps p.tables e below (T35.setTop (mkF m 160 #[.val (.int p0), .val (.int p1), .val (.int p2), .val (.int p3), .val (.int p4), .val (.int v5_7), .val (.int v6_16), .val (.int v7_25), .val (.int v8_34), .val (.int ms0_48), .val (.int ms0_62), .val (.int ms0_76), .val (.ref b8), .val (.int ms0_147), .unset, .unset] [(.int v7_25), (.int v7_25), (.int (f_4 v7_25 (((v5_7 + (64 : Int32)) - (1 : Int32)) / (64 : Int32)).toNatClampNeg (f_3_1 v6_16 (((v5_7 + (64 : Int32)) - (1 : Int32)) / (64 : Int32)).toNatClampNeg mg_w_9_125)))])) _
    refine XS.iload X35.here hx rfl (hb hby at_160) rfl  ?_
    show Steps p.tables e below (T35.setTop (mkF m 162 #[.val (.int p0), .val (.int p1), .val (.int p2), .val (.int p3), .val (.int p4), .val (.int v5_7), .val (.int v6_16), .val (.int v7_25), .val (.int v8_34), .val (.int ms0_48), .val (.int ms0_62), .val (.int ms0_76), .val (.ref b8), .val (.int ms0_147), .unset, .unset] [(.int v8_34), (.int v7_25), (.int v7_25), (.int (f_4 v7_25 (((v5_7 + (64 : Int32)) - (1 : Int32)) / (64 : Int32)).toNatClampNeg (f_3_1 v6_16 (((v5_7 + (64 : Int32)) - (1 : Int32)) / (64 : Int32)).toNatClampNeg mg_w_9_125)))])) _
    refine XS.iload X35.here hx rfl (hb hby at_162) rfl  ?_
    show Steps p.tables e below (T35.setTop (mkF m 164 #[.val (.int p0), .val (.int p1), .val (.int p2), .val (.int p3), .val (.int p4), .val (.int v5_7), .val (.int v6_16), .val (.int v7_25), .val (.int v8_34), .val (.int ms0_48), .val (.int ms0_62), .val (.int ms0_76), .val (.ref b8), .val (.int ms0_147), .unset, .unset] [(.int ms0_62), (.int v8_34), (.int v7_25), (.int v7_25), (.int (f_4 v7_25 (((v5_7 + (64 : Int32)) - (1 : Int32)) / (64 : Int32)).toNatClampNeg (f_3_1 v6_16 (((v5_7 + (64 : Int32)) - (1 : Int32)) / (64 : Int32)).toNatClampNeg mg_w_9_125)))])) _
    refine XS.iload X35.here hx rfl (hb hby at_164) rfl  ?_
    exact k
  obtain ⟨_, _, ⟨T37, L37, k37, n37⟩, -, X37, ⟨Lc37, hQ37, l37, y37, z37⟩, st37⟩ := Jvm.LawKit.callS X35 hx (y := (⟨"com/example/punctilio/punctilio/engine/PixelMarksUnmarkPinLaw", "wasMarked", "(IIIZZ)Z"⟩ : MethodName)) hown (mvT hZ (hw _ (List.mem_of_getElem? (i := 24) rfl))) (mvT hZ (hw _ (List.mem_of_getElem? (i := 25) rfl))) (mvT hZ (hw _ (List.mem_of_getElem? (i := 26) rfl))) (mvT hZ (hw _ (List.mem_of_getElem? (i := 27) rfl))) (by decide) (backOf (W := 1) (rm_5 l Z a0 hw [] v7_25 v7_25 v8_34 ms0_62 ms0_76 T29.heap n0 Z29 ) hZ (hw _ (List.mem_of_getElem? (i := 27) rfl)) (hw _ (List.mem_of_getElem? (i := 26) rfl)) (by decide) (by decide)) (g := (mkF m 166 #[.val (.int p0), .val (.int p1), .val (.int p2), .val (.int p3), .val (.int p4), .val (.int v5_7), .val (.int v6_16), .val (.int v7_25), .val (.int v8_34), .val (.int ms0_48), .val (.int ms0_62), .val (.int ms0_76), .val (.ref b8), .val (.int ms0_147), .unset, .unset] [(.int ms0_76), (.int ms0_62), (.int v8_34), (.int v7_25), (.int v7_25), (.int (f_4 v7_25 (((v5_7 + (64 : Int32)) - (1 : Int32)) / (64 : Int32)).toNatClampNeg (f_3_1 v6_16 (((v5_7 + (64 : Int32)) - (1 : Int32)) / (64 : Int32)).toNatClampNeg mg_w_9_125)))])) rfl (by rw [hml]; rfl) (argsL := [(.int v7_25), (.int v7_25), (.int v8_34), (.int ms0_62), (.int ms0_76)]) (rest := [(.int (f_4 v7_25 (((v5_7 + (64 : Int32)) - (1 : Int32)) / (64 : Int32)).toNatClampNeg (f_3_1 v6_16 (((v5_7 + (64 : Int32)) - (1 : Int32)) / (64 : Int32)).toNatClampNeg mg_w_9_125)))]) (lenOf pd_2 rfl) rfl (by show 2 * 0 + _ ≤ _; exact Nat.le_of_eq rfl) (hb hby at_166) (fun _ _ => ⟨rfl, e35, (by decide : 2 + 0 ≤ _), (by decide : 5 + 0 ≤ _)⟩)
  dsimp only [Pt.U, Pt.locs, Pt.cells, Pt.slots] at X37 l37 y37 z37 st37 hQ37
  subst l37 y37 z37
  obtain ⟨rfl, N37q, e37⟩ := hQ37
  have N37 := Fr.app N35 N37q
  have pre39 : ∀ t, Steps p.tables e below (T37.setTop (mkF m 169 #[.val (.int p0), .val (.int p1), .val (.int p2), .val (.int p3), .val (.int p4), .val (.int v5_7), .val (.int v6_16), .val (.int v7_25), .val (.int v8_34), .val (.int ms0_48), .val (.int ms0_62), .val (.int ms0_76), .val (.ref b8), .val (.int ms0_147), .unset, .unset] [(.int (f_5 v7_25 v7_25 v8_34 ms0_62 ms0_76)), (.int (f_4 v7_25 (((v5_7 + (64 : Int32)) - (1 : Int32)) / (64 : Int32)).toNatClampNeg (f_3_1 v6_16 (((v5_7 + (64 : Int32)) - (1 : Int32)) / (64 : Int32)).toNatClampNeg mg_w_9_125)))])) t → Steps p.tables e below (s₁.setTop (entryFrame m #[(.int p0), (.int p1), (.int p2), (.int p3), (.int p4)] maxLocals)) t := by
    intro t k
    refine pre38 t ?_
    show Steps p.tables e below (T35.setTop (mkF m 166 #[.val (.int p0), .val (.int p1), .val (.int p2), .val (.int p3), .val (.int p4), .val (.int v5_7), .val (.int v6_16), .val (.int v7_25), .val (.int v8_34), .val (.int ms0_48), .val (.int ms0_62), .val (.int ms0_76), .val (.ref b8), .val (.int ms0_147), .unset, .unset] [(.int ms0_76), (.int ms0_62), (.int v8_34), (.int v7_25), (.int v7_25), (.int (f_4 v7_25 (((v5_7 + (64 : Int32)) - (1 : Int32)) / (64 : Int32)).toNatClampNeg (f_3_1 v6_16 (((v5_7 + (64 : Int32)) - (1 : Int32)) / (64 : Int32)).toNatClampNeg mg_w_9_125)))])) _
    refine st37 _ ?_
    exact k
  obtain ⟨ms0_184, hms0_184⟩ : ∃ z : Int32, z = (if (f_5 v7_25 v7_25 v8_34 ms0_62 ms0_76) = (0 : Int32) then (0 : Int32) else (if v7_25 = v6_16 then (0 : Int32) else (1 : Int32))) := ⟨_, rfl⟩
  have pre40 : ∀ t, Steps p.tables e below (T37.setTop (mkF m 184 #[.val (.int p0), .val (.int p1), .val (.int p2), .val (.int p3), .val (.int p4), .val (.int v5_7), .val (.int v6_16), .val (.int v7_25), .val (.int v8_34), .val (.int ms0_48), .val (.int ms0_62), .val (.int ms0_76), .val (.ref b8), .val (.int ms0_147), .unset, .unset] [(.int ms0_184), (.int (f_4 v7_25 (((v5_7 + (64 : Int32)) - (1 : Int32)) / (64 : Int32)).toNatClampNeg (f_3_1 v6_16 (((v5_7 + (64 : Int32)) - (1 : Int32)) / (64 : Int32)).toNatClampNeg mg_w_9_125)))])) t → Steps p.tables e below (s₁.setTop (entryFrame m #[(.int p0), (.int p1), (.int p2), (.int p3), (.int p4)] maxLocals)) t := by
    intro t k
    refine pre39 t ?_
    by_cases hc169 : (f_5 v7_25 v7_25 v8_34 ms0_62 ms0_76) = (0 : Int32)
    · show Steps p.tables e below (T37.setTop (mkF m 169 #[.val (.int p0), .val (.int p1), .val (.int p2), .val (.int p3), .val (.int p4), .val (.int v5_7), .val (.int v6_16), .val (.int v7_25), .val (.int v8_34), .val (.int ms0_48), .val (.int ms0_62), .val (.int ms0_76), .val (.ref b8), .val (.int ms0_147), .unset, .unset] [(.int (f_5 v7_25 v7_25 v8_34 ms0_62 ms0_76)), (.int (f_4 v7_25 (((v5_7 + (64 : Int32)) - (1 : Int32)) / (64 : Int32)).toNatClampNeg (f_3_1 v6_16 (((v5_7 + (64 : Int32)) - (1 : Int32)) / (64 : Int32)).toNatClampNeg mg_w_9_125)))])) _
      refine XS.ifYes X37.here hx rfl (pc0 := 169) (pc' := 183) rfl (hb hby at_169) rfl ((if0 _ _).trans (teq hc169).1) (by decide) (by decide) ?_
      show Steps p.tables e below (T37.setTop (mkF m 183 #[.val (.int p0), .val (.int p1), .val (.int p2), .val (.int p3), .val (.int p4), .val (.int v5_7), .val (.int v6_16), .val (.int v7_25), .val (.int v8_34), .val (.int ms0_48), .val (.int ms0_62), .val (.int ms0_76), .val (.ref b8), .val (.int ms0_147), .unset, .unset] [(.int (f_4 v7_25 (((v5_7 + (64 : Int32)) - (1 : Int32)) / (64 : Int32)).toNatClampNeg (f_3_1 v6_16 (((v5_7 + (64 : Int32)) - (1 : Int32)) / (64 : Int32)).toNatClampNeg mg_w_9_125)))])) _
      refine XS.iconst X37.here hx rfl (hb hby at_183) ?_
      have qms0_184 : ms0_184 = (0 : Int32) := by rw [hms0_184, if_pos hc169]
      rw [qms0_184] at k
      exact k
    · show Steps p.tables e below (T37.setTop (mkF m 169 #[.val (.int p0), .val (.int p1), .val (.int p2), .val (.int p3), .val (.int p4), .val (.int v5_7), .val (.int v6_16), .val (.int v7_25), .val (.int v8_34), .val (.int ms0_48), .val (.int ms0_62), .val (.int ms0_76), .val (.ref b8), .val (.int ms0_147), .unset, .unset] [(.int (f_5 v7_25 v7_25 v8_34 ms0_62 ms0_76)), (.int (f_4 v7_25 (((v5_7 + (64 : Int32)) - (1 : Int32)) / (64 : Int32)).toNatClampNeg (f_3_1 v6_16 (((v5_7 + (64 : Int32)) - (1 : Int32)) / (64 : Int32)).toNatClampNeg mg_w_9_125)))])) _
      refine XS.ifNo X37.here hx rfl (hb hby at_169) rfl ((if0 _ _).trans (feq hc169).1) ?_
      show Steps p.tables e below (T37.setTop (mkF m 172 #[.val (.int p0), .val (.int p1), .val (.int p2), .val (.int p3), .val (.int p4), .val (.int v5_7), .val (.int v6_16), .val (.int v7_25), .val (.int v8_34), .val (.int ms0_48), .val (.int ms0_62), .val (.int ms0_76), .val (.ref b8), .val (.int ms0_147), .unset, .unset] [(.int (f_4 v7_25 (((v5_7 + (64 : Int32)) - (1 : Int32)) / (64 : Int32)).toNatClampNeg (f_3_1 v6_16 (((v5_7 + (64 : Int32)) - (1 : Int32)) / (64 : Int32)).toNatClampNeg mg_w_9_125)))])) _
      refine XS.iload X37.here hx rfl (hb hby at_172) rfl  ?_
      show Steps p.tables e below (T37.setTop (mkF m 174 #[.val (.int p0), .val (.int p1), .val (.int p2), .val (.int p3), .val (.int p4), .val (.int v5_7), .val (.int v6_16), .val (.int v7_25), .val (.int v8_34), .val (.int ms0_48), .val (.int ms0_62), .val (.int ms0_76), .val (.ref b8), .val (.int ms0_147), .unset, .unset] [(.int v7_25), (.int (f_4 v7_25 (((v5_7 + (64 : Int32)) - (1 : Int32)) / (64 : Int32)).toNatClampNeg (f_3_1 v6_16 (((v5_7 + (64 : Int32)) - (1 : Int32)) / (64 : Int32)).toNatClampNeg mg_w_9_125)))])) _
      refine XS.iload X37.here hx rfl (hb hby at_174) rfl  ?_
      by_cases hc176 : v7_25 = v6_16
      · show Steps p.tables e below (T37.setTop (mkF m 176 #[.val (.int p0), .val (.int p1), .val (.int p2), .val (.int p3), .val (.int p4), .val (.int v5_7), .val (.int v6_16), .val (.int v7_25), .val (.int v8_34), .val (.int ms0_48), .val (.int ms0_62), .val (.int ms0_76), .val (.ref b8), .val (.int ms0_147), .unset, .unset] [(.int v6_16), (.int v7_25), (.int (f_4 v7_25 (((v5_7 + (64 : Int32)) - (1 : Int32)) / (64 : Int32)).toNatClampNeg (f_3_1 v6_16 (((v5_7 + (64 : Int32)) - (1 : Int32)) / (64 : Int32)).toNatClampNeg mg_w_9_125)))])) _
        refine XS.icmpYes X37.here hx rfl (pc0 := 176) (pc' := 183) rfl (hb hby at_176) rfl (teq hc176).1 (by decide) (by decide) ?_
        show Steps p.tables e below (T37.setTop (mkF m 183 #[.val (.int p0), .val (.int p1), .val (.int p2), .val (.int p3), .val (.int p4), .val (.int v5_7), .val (.int v6_16), .val (.int v7_25), .val (.int v8_34), .val (.int ms0_48), .val (.int ms0_62), .val (.int ms0_76), .val (.ref b8), .val (.int ms0_147), .unset, .unset] [(.int (f_4 v7_25 (((v5_7 + (64 : Int32)) - (1 : Int32)) / (64 : Int32)).toNatClampNeg (f_3_1 v6_16 (((v5_7 + (64 : Int32)) - (1 : Int32)) / (64 : Int32)).toNatClampNeg mg_w_9_125)))])) _
        refine XS.iconst X37.here hx rfl (hb hby at_183) ?_
        have qms0_184 : ms0_184 = (0 : Int32) := by rw [hms0_184, if_neg hc169, if_pos hc176]
        rw [qms0_184] at k
        exact k
      · show Steps p.tables e below (T37.setTop (mkF m 176 #[.val (.int p0), .val (.int p1), .val (.int p2), .val (.int p3), .val (.int p4), .val (.int v5_7), .val (.int v6_16), .val (.int v7_25), .val (.int v8_34), .val (.int ms0_48), .val (.int ms0_62), .val (.int ms0_76), .val (.ref b8), .val (.int ms0_147), .unset, .unset] [(.int v6_16), (.int v7_25), (.int (f_4 v7_25 (((v5_7 + (64 : Int32)) - (1 : Int32)) / (64 : Int32)).toNatClampNeg (f_3_1 v6_16 (((v5_7 + (64 : Int32)) - (1 : Int32)) / (64 : Int32)).toNatClampNeg mg_w_9_125)))])) _
        refine XS.icmpNo X37.here hx rfl (hb hby at_176) rfl (feq hc176).1 ?_
        show Steps p.tables e below (T37.setTop (mkF m 179 #[.val (.int p0), .val (.int p1), .val (.int p2), .val (.int p3), .val (.int p4), .val (.int v5_7), .val (.int v6_16), .val (.int v7_25), .val (.int v8_34), .val (.int ms0_48), .val (.int ms0_62), .val (.int ms0_76), .val (.ref b8), .val (.int ms0_147), .unset, .unset] [(.int (f_4 v7_25 (((v5_7 + (64 : Int32)) - (1 : Int32)) / (64 : Int32)).toNatClampNeg (f_3_1 v6_16 (((v5_7 + (64 : Int32)) - (1 : Int32)) / (64 : Int32)).toNatClampNeg mg_w_9_125)))])) _
        refine XS.iconst X37.here hx rfl (hb hby at_179) ?_
        show Steps p.tables e below (T37.setTop (mkF m 180 #[.val (.int p0), .val (.int p1), .val (.int p2), .val (.int p3), .val (.int p4), .val (.int v5_7), .val (.int v6_16), .val (.int v7_25), .val (.int v8_34), .val (.int ms0_48), .val (.int ms0_62), .val (.int ms0_76), .val (.ref b8), .val (.int ms0_147), .unset, .unset] [(.int (1 : Int32)), (.int (f_4 v7_25 (((v5_7 + (64 : Int32)) - (1 : Int32)) / (64 : Int32)).toNatClampNeg (f_3_1 v6_16 (((v5_7 + (64 : Int32)) - (1 : Int32)) / (64 : Int32)).toNatClampNeg mg_w_9_125)))])) _
        refine XS.goto X37.here hx rfl (pc0 := 180) (pc' := 184) rfl (hb hby at_180) (by decide) (by decide) ?_
        have qms0_184 : ms0_184 = (1 : Int32) := by rw [hms0_184, if_neg hc169, if_neg hc176]
        rw [qms0_184] at k
        exact k
  obtain ⟨ms0_192, hms0_192⟩ : ∃ z : Int32, z = (if (f_4 v7_25 (((v5_7 + (64 : Int32)) - (1 : Int32)) / (64 : Int32)).toNatClampNeg (f_3_1 v6_16 (((v5_7 + (64 : Int32)) - (1 : Int32)) / (64 : Int32)).toNatClampNeg mg_w_9_125)) = ms0_184 then (1 : Int32) else (0 : Int32)) := ⟨_, rfl⟩
  have pre41 : ∀ t, Steps p.tables e below (T37.setTop (mkF m 192 #[.val (.int p0), .val (.int p1), .val (.int p2), .val (.int p3), .val (.int p4), .val (.int v5_7), .val (.int v6_16), .val (.int v7_25), .val (.int v8_34), .val (.int ms0_48), .val (.int ms0_62), .val (.int ms0_76), .val (.ref b8), .val (.int ms0_147), .unset, .unset] [(.int ms0_192)])) t → Steps p.tables e below (s₁.setTop (entryFrame m #[(.int p0), (.int p1), (.int p2), (.int p3), (.int p4)] maxLocals)) t := by
    intro t k
    refine pre40 t ?_
    by_cases hc184 : (f_4 v7_25 (((v5_7 + (64 : Int32)) - (1 : Int32)) / (64 : Int32)).toNatClampNeg (f_3_1 v6_16 (((v5_7 + (64 : Int32)) - (1 : Int32)) / (64 : Int32)).toNatClampNeg mg_w_9_125)) = ms0_184
    · show Steps p.tables e below (T37.setTop (mkF m 184 #[.val (.int p0), .val (.int p1), .val (.int p2), .val (.int p3), .val (.int p4), .val (.int v5_7), .val (.int v6_16), .val (.int v7_25), .val (.int v8_34), .val (.int ms0_48), .val (.int ms0_62), .val (.int ms0_76), .val (.ref b8), .val (.int ms0_147), .unset, .unset] [(.int ms0_184), (.int (f_4 v7_25 (((v5_7 + (64 : Int32)) - (1 : Int32)) / (64 : Int32)).toNatClampNeg (f_3_1 v6_16 (((v5_7 + (64 : Int32)) - (1 : Int32)) / (64 : Int32)).toNatClampNeg mg_w_9_125)))])) _
      refine XS.icmpNo X37.here hx rfl (hb hby at_184) rfl (teq hc184).2 ?_
      show Steps p.tables e below (T37.setTop (mkF m 187 #[.val (.int p0), .val (.int p1), .val (.int p2), .val (.int p3), .val (.int p4), .val (.int v5_7), .val (.int v6_16), .val (.int v7_25), .val (.int v8_34), .val (.int ms0_48), .val (.int ms0_62), .val (.int ms0_76), .val (.ref b8), .val (.int ms0_147), .unset, .unset] [])) _
      refine XS.iconst X37.here hx rfl (hb hby at_187) ?_
      show Steps p.tables e below (T37.setTop (mkF m 188 #[.val (.int p0), .val (.int p1), .val (.int p2), .val (.int p3), .val (.int p4), .val (.int v5_7), .val (.int v6_16), .val (.int v7_25), .val (.int v8_34), .val (.int ms0_48), .val (.int ms0_62), .val (.int ms0_76), .val (.ref b8), .val (.int ms0_147), .unset, .unset] [(.int (1 : Int32))])) _
      refine XS.goto X37.here hx rfl (pc0 := 188) (pc' := 192) rfl (hb hby at_188) (by decide) (by decide) ?_
      have qms0_192 : ms0_192 = (1 : Int32) := by rw [hms0_192, if_pos hc184]
      rw [qms0_192] at k
      exact k
    · show Steps p.tables e below (T37.setTop (mkF m 184 #[.val (.int p0), .val (.int p1), .val (.int p2), .val (.int p3), .val (.int p4), .val (.int v5_7), .val (.int v6_16), .val (.int v7_25), .val (.int v8_34), .val (.int ms0_48), .val (.int ms0_62), .val (.int ms0_76), .val (.ref b8), .val (.int ms0_147), .unset, .unset] [(.int ms0_184), (.int (f_4 v7_25 (((v5_7 + (64 : Int32)) - (1 : Int32)) / (64 : Int32)).toNatClampNeg (f_3_1 v6_16 (((v5_7 + (64 : Int32)) - (1 : Int32)) / (64 : Int32)).toNatClampNeg mg_w_9_125)))])) _
      refine XS.icmpYes X37.here hx rfl (pc0 := 184) (pc' := 191) rfl (hb hby at_184) rfl (feq hc184).2 (by decide) (by decide) ?_
      show Steps p.tables e below (T37.setTop (mkF m 191 #[.val (.int p0), .val (.int p1), .val (.int p2), .val (.int p3), .val (.int p4), .val (.int v5_7), .val (.int v6_16), .val (.int v7_25), .val (.int v8_34), .val (.int ms0_48), .val (.int ms0_62), .val (.int ms0_76), .val (.ref b8), .val (.int ms0_147), .unset, .unset] [])) _
      refine XS.iconst X37.here hx rfl (hb hby at_191) ?_
      have qms0_192 : ms0_192 = (0 : Int32) := by rw [hms0_192, if_neg hc184]
      rw [qms0_192] at k
      exact k
  have pre43 : ∀ t, Steps p.tables e below (T37.setTop (mkF m 198 #[.val (.int p0), .val (.int p1), .val (.int p2), .val (.int p3), .val (.int p4), .val (.int v5_7), .val (.int v6_16), .val (.int v7_25), .val (.int v8_34), .val (.int ms0_48), .val (.int ms0_62), .val (.int ms0_76), .val (.ref b8), .val (.int ms0_147), .val (.int ms0_192), .unset] [(.int v8_34), (.ref b8)])) t → Steps p.tables e below (s₁.setTop (entryFrame m #[(.int p0), (.int p1), (.int p2), (.int p3), (.int p4)] maxLocals)) t := by
    intro t k
    refine pre41 t ?_
    show Steps p.tables e below (T37.setTop (mkF m 192 #[.val (.int p0), .val (.int p1), .val (.int p2), .val (.int p3), .val (.int p4), .val (.int v5_7), .val (.int v6_16), .val (.int v7_25), .val (.int v8_34), .val (.int ms0_48), .val (.int ms0_62), .val (.int ms0_76), .val (.ref b8), .val (.int ms0_147), .unset, .unset] [(.int ms0_192)])) _
    refine XS.istore X37.here hx rfl (hb hby at_192) rfl (l' := #[.val (.int p0), .val (.int p1), .val (.int p2), .val (.int p3), .val (.int p4), .val (.int v5_7), .val (.int v6_16), .val (.int v7_25), .val (.int v8_34), .val (.int ms0_48), .val (.int ms0_62), .val (.int ms0_76), .val (.ref b8), .val (.int ms0_147), .val (.int ms0_192), .unset]) rfl ?_
    show Steps p.tables e below (T37.setTop (mkF m 194 #[.val (.int p0), .val (.int p1), .val (.int p2), .val (.int p3), .val (.int p4), .val (.int v5_7), .val (.int v6_16), .val (.int v7_25), .val (.int v8_34), .val (.int ms0_48), .val (.int ms0_62), .val (.int ms0_76), .val (.ref b8), .val (.int ms0_147), .val (.int ms0_192), .unset] [])) _
    refine XS.aload X37.here hx rfl (hb hby at_194) rfl rfl ?_
    show Steps p.tables e below (T37.setTop (mkF m 196 #[.val (.int p0), .val (.int p1), .val (.int p2), .val (.int p3), .val (.int p4), .val (.int v5_7), .val (.int v6_16), .val (.int v7_25), .val (.int v8_34), .val (.int ms0_48), .val (.int ms0_62), .val (.int ms0_76), .val (.ref b8), .val (.int ms0_147), .val (.int ms0_192), .unset] [(.ref b8)])) _
    refine XS.iload X37.here hx rfl (hb hby at_196) rfl  ?_
    exact k
  obtain ⟨cq42, kq42, q42a, q42b, q42c⟩ := isOf hZ e37 exa_b8_29
  obtain ⟨_, _, ⟨T42, L42, k42, n42⟩, -, X42, ⟨Lc42, hQ42, l42, y42, z42⟩, st42⟩ := X37.virtualBack hx (y := (⟨"com/example/punctilio/punctilio/engine/PixelMarks", "has", "(I)Z"⟩ : MethodName)) (z := (⟨"com/example/punctilio/punctilio/engine/PixelMarks", "has", "(I)Z"⟩ : MethodName)) hown (mvT hZ (hw _ (List.mem_of_getElem? (i := 19) rfl))) (mvT hZ (hw _ (List.mem_of_getElem? (i := 20) rfl))) (notFace_of_selects (args := #[]) (mvT hZ (hw _ (List.mem_of_getElem? (i := 22) rfl)))) (mvT hZ (hw _ (List.mem_of_getElem? (i := 22) rfl))) (mvT hZ (hw _ (List.mem_of_getElem? (i := 21) rfl))) (by decide) (backOf (W := 0) (rm_4 l Z a0 hw [] b8 v8_34 w_9 (((v5_7 + (64 : Int32)) - (1 : Int32)) / (64 : Int32)).toNatClampNeg (f_3_1 v6_16 (((v5_7 + (64 : Int32)) - (1 : Int32)) / (64 : Int32)).toNatClampNeg mg_w_9_125) T29.heap n0 Z29 fld_b8_words_29 Q29_0 (own_idx v5_7 v8_34 (own_np hv5_7) (by rw [hv8_34]; exact (own_rem _ _ (own_np hv5_7).1).1) (by rw [hv8_34]; exact (own_rem _ _ (own_np hv5_7).1).2))) hZ (hw _ (List.mem_of_getElem? (i := 23) rfl)) (hw _ (List.mem_of_getElem? (i := 3) rfl)) (by decide) (by decide)) q42a q42c (g := (mkF m 198 #[.val (.int p0), .val (.int p1), .val (.int p2), .val (.int p3), .val (.int p4), .val (.int v5_7), .val (.int v6_16), .val (.int v7_25), .val (.int v8_34), .val (.int ms0_48), .val (.int ms0_62), .val (.int ms0_76), .val (.ref b8), .val (.int ms0_147), .val (.int ms0_192), .unset] [(.int v8_34), (.ref b8)])) rfl (by rw [hml]; rfl) (Steps.refl _) (argsL := [(.int v8_34)]) (rest := []) (lenOf pd_1 rfl) rfl (by show 2 * 0 + _ ≤ _; exact Nat.le_of_eq rfl) (hb hby at_198) (fun _ _ => ⟨rfl, e37, (by decide : 2 + 0 ≤ _), (by decide : 5 + 0 ≤ _)⟩)
  dsimp only [Pt.U, Pt.locs, Pt.cells, Pt.slots] at X42 l42 y42 z42 st42 hQ42
  subst l42 y42 z42
  obtain ⟨rfl, N42q, e42⟩ := hQ42
  have N42 := Fr.app N37 N42q
  have pre45 : ∀ t, Steps p.tables e below (T42.setTop (mkF m 211 #[.val (.int p0), .val (.int p1), .val (.int p2), .val (.int p3), .val (.int p4), .val (.int v5_7), .val (.int v6_16), .val (.int v7_25), .val (.int v8_34), .val (.int ms0_48), .val (.int ms0_62), .val (.int ms0_76), .val (.ref b8), .val (.int ms0_147), .val (.int ms0_192), .unset] [(.int ms0_76), (.int ms0_62), (.int v8_34), (.int v7_25), (.int v8_34), (.int (f_4 v8_34 (((v5_7 + (64 : Int32)) - (1 : Int32)) / (64 : Int32)).toNatClampNeg (f_3_1 v6_16 (((v5_7 + (64 : Int32)) - (1 : Int32)) / (64 : Int32)).toNatClampNeg mg_w_9_125)))])) t → Steps p.tables e below (s₁.setTop (entryFrame m #[(.int p0), (.int p1), (.int p2), (.int p3), (.int p4)] maxLocals)) t := by
    intro t k
    refine pre43 t ?_
    show Steps p.tables e below (T37.setTop (mkF m 198 #[.val (.int p0), .val (.int p1), .val (.int p2), .val (.int p3), .val (.int p4), .val (.int v5_7), .val (.int v6_16), .val (.int v7_25), .val (.int v8_34), .val (.int ms0_48), .val (.int ms0_62), .val (.int ms0_76), .val (.ref b8), .val (.int ms0_147), .val (.int ms0_192), .unset] [(.int v8_34), (.ref b8)])) _
    refine st42.trans ?_
    show Steps p.tables e below (T42.setTop (mkF m 201 #[.val (.int p0), .val (.int p1), .val (.int p2), .val (.int p3), .val (.int p4), .val (.int v5_7), .val (.int v6_16), .val (.int v7_25), .val (.int v8_34), .val (.int ms0_48), .val (.int ms0_62), .val (.int ms0_76), .val (.ref b8), .val (.int ms0_147), .val (.int ms0_192), .unset] [(.int (f_4 v8_34 (((v5_7 + (64 : Int32)) - (1 : Int32)) / (64 : Int32)).toNatClampNeg (f_3_1 v6_16 (((v5_7 + (64 : Int32)) - (1 : Int32)) / (64 : Int32)).toNatClampNeg mg_w_9_125)))])) _
    refine XS.iload X42.here hx rfl (hb hby at_201) rfl  ?_
    show Steps p.tables e below (T42.setTop (mkF m 203 #[.val (.int p0), .val (.int p1), .val (.int p2), .val (.int p3), .val (.int p4), .val (.int v5_7), .val (.int v6_16), .val (.int v7_25), .val (.int v8_34), .val (.int ms0_48), .val (.int ms0_62), .val (.int ms0_76), .val (.ref b8), .val (.int ms0_147), .val (.int ms0_192), .unset] [(.int v8_34), (.int (f_4 v8_34 (((v5_7 + (64 : Int32)) - (1 : Int32)) / (64 : Int32)).toNatClampNeg (f_3_1 v6_16 (((v5_7 + (64 : Int32)) - (1 : Int32)) / (64 : Int32)).toNatClampNeg mg_w_9_125)))])) _
    refine XS.iload X42.here hx rfl (hb hby at_203) rfl  ?_
    show Steps p.tables e below (T42.setTop (mkF m 205 #[.val (.int p0), .val (.int p1), .val (.int p2), .val (.int p3), .val (.int p4), .val (.int v5_7), .val (.int v6_16), .val (.int v7_25), .val (.int v8_34), .val (.int ms0_48), .val (.int ms0_62), .val (.int ms0_76), .val (.ref b8), .val (.int ms0_147), .val (.int ms0_192), .unset] [(.int v7_25), (.int v8_34), (.int (f_4 v8_34 (((v5_7 + (64 : Int32)) - (1 : Int32)) / (64 : Int32)).toNatClampNeg (f_3_1 v6_16 (((v5_7 + (64 : Int32)) - (1 : Int32)) / (64 : Int32)).toNatClampNeg mg_w_9_125)))])) _
    refine XS.iload X42.here hx rfl (hb hby at_205) rfl  ?_
    show Steps p.tables e below (T42.setTop (mkF m 207 #[.val (.int p0), .val (.int p1), .val (.int p2), .val (.int p3), .val (.int p4), .val (.int v5_7), .val (.int v6_16), .val (.int v7_25), .val (.int v8_34), .val (.int ms0_48), .val (.int ms0_62), .val (.int ms0_76), .val (.ref b8), .val (.int ms0_147), .val (.int ms0_192), .unset] [(.int v8_34), (.int v7_25), (.int v8_34), (.int (f_4 v8_34 (((v5_7 + (64 : Int32)) - (1 : Int32)) / (64 : Int32)).toNatClampNeg (f_3_1 v6_16 (((v5_7 + (64 : Int32)) - (1 : Int32)) / (64 : Int32)).toNatClampNeg mg_w_9_125)))])) _
    refine XS.iload X42.here hx rfl (hb hby at_207) rfl  ?_
    show Steps p.tables e below (T42.setTop (mkF m 209 #[.val (.int p0), .val (.int p1), .val (.int p2), .val (.int p3), .val (.int p4), .val (.int v5_7), .val (.int v6_16), .val (.int v7_25), .val (.int v8_34), .val (.int ms0_48), .val (.int ms0_62), .val (.int ms0_76), .val (.ref b8), .val (.int ms0_147), .val (.int ms0_192), .unset] [(.int ms0_62), (.int v8_34), (.int v7_25), (.int v8_34), (.int (f_4 v8_34 (((v5_7 + (64 : Int32)) - (1 : Int32)) / (64 : Int32)).toNatClampNeg (f_3_1 v6_16 (((v5_7 + (64 : Int32)) - (1 : Int32)) / (64 : Int32)).toNatClampNeg mg_w_9_125)))])) _
    refine XS.iload X42.here hx rfl (hb hby at_209) rfl  ?_
    exact k
  obtain ⟨_, _, ⟨T44, L44, k44, n44⟩, -, X44, ⟨Lc44, hQ44, l44, y44, z44⟩, st44⟩ := Jvm.LawKit.callS X42 hx (y := (⟨"com/example/punctilio/punctilio/engine/PixelMarksUnmarkPinLaw", "wasMarked", "(IIIZZ)Z"⟩ : MethodName)) hown (mvT hZ (hw _ (List.mem_of_getElem? (i := 24) rfl))) (mvT hZ (hw _ (List.mem_of_getElem? (i := 25) rfl))) (mvT hZ (hw _ (List.mem_of_getElem? (i := 26) rfl))) (mvT hZ (hw _ (List.mem_of_getElem? (i := 27) rfl))) (by decide) (backOf (W := 1) (rm_5 l Z a0 hw [] v8_34 v7_25 v8_34 ms0_62 ms0_76 T29.heap n0 Z29 ) hZ (hw _ (List.mem_of_getElem? (i := 27) rfl)) (hw _ (List.mem_of_getElem? (i := 26) rfl)) (by decide) (by decide)) (g := (mkF m 211 #[.val (.int p0), .val (.int p1), .val (.int p2), .val (.int p3), .val (.int p4), .val (.int v5_7), .val (.int v6_16), .val (.int v7_25), .val (.int v8_34), .val (.int ms0_48), .val (.int ms0_62), .val (.int ms0_76), .val (.ref b8), .val (.int ms0_147), .val (.int ms0_192), .unset] [(.int ms0_76), (.int ms0_62), (.int v8_34), (.int v7_25), (.int v8_34), (.int (f_4 v8_34 (((v5_7 + (64 : Int32)) - (1 : Int32)) / (64 : Int32)).toNatClampNeg (f_3_1 v6_16 (((v5_7 + (64 : Int32)) - (1 : Int32)) / (64 : Int32)).toNatClampNeg mg_w_9_125)))])) rfl (by rw [hml]; rfl) (argsL := [(.int v8_34), (.int v7_25), (.int v8_34), (.int ms0_62), (.int ms0_76)]) (rest := [(.int (f_4 v8_34 (((v5_7 + (64 : Int32)) - (1 : Int32)) / (64 : Int32)).toNatClampNeg (f_3_1 v6_16 (((v5_7 + (64 : Int32)) - (1 : Int32)) / (64 : Int32)).toNatClampNeg mg_w_9_125)))]) (lenOf pd_2 rfl) rfl (by show 2 * 0 + _ ≤ _; exact Nat.le_of_eq rfl) (hb hby at_211) (fun _ _ => ⟨rfl, e42, (by decide : 2 + 0 ≤ _), (by decide : 5 + 0 ≤ _)⟩)
  dsimp only [Pt.U, Pt.locs, Pt.cells, Pt.slots] at X44 l44 y44 z44 st44 hQ44
  subst l44 y44 z44
  obtain ⟨rfl, N44q, e44⟩ := hQ44
  have N44 := Fr.app N42 N44q
  have pre46 : ∀ t, Steps p.tables e below (T44.setTop (mkF m 214 #[.val (.int p0), .val (.int p1), .val (.int p2), .val (.int p3), .val (.int p4), .val (.int v5_7), .val (.int v6_16), .val (.int v7_25), .val (.int v8_34), .val (.int ms0_48), .val (.int ms0_62), .val (.int ms0_76), .val (.ref b8), .val (.int ms0_147), .val (.int ms0_192), .unset] [(.int (f_5 v8_34 v7_25 v8_34 ms0_62 ms0_76)), (.int (f_4 v8_34 (((v5_7 + (64 : Int32)) - (1 : Int32)) / (64 : Int32)).toNatClampNeg (f_3_1 v6_16 (((v5_7 + (64 : Int32)) - (1 : Int32)) / (64 : Int32)).toNatClampNeg mg_w_9_125)))])) t → Steps p.tables e below (s₁.setTop (entryFrame m #[(.int p0), (.int p1), (.int p2), (.int p3), (.int p4)] maxLocals)) t := by
    intro t k
    refine pre45 t ?_
    show Steps p.tables e below (T42.setTop (mkF m 211 #[.val (.int p0), .val (.int p1), .val (.int p2), .val (.int p3), .val (.int p4), .val (.int v5_7), .val (.int v6_16), .val (.int v7_25), .val (.int v8_34), .val (.int ms0_48), .val (.int ms0_62), .val (.int ms0_76), .val (.ref b8), .val (.int ms0_147), .val (.int ms0_192), .unset] [(.int ms0_76), (.int ms0_62), (.int v8_34), (.int v7_25), (.int v8_34), (.int (f_4 v8_34 (((v5_7 + (64 : Int32)) - (1 : Int32)) / (64 : Int32)).toNatClampNeg (f_3_1 v6_16 (((v5_7 + (64 : Int32)) - (1 : Int32)) / (64 : Int32)).toNatClampNeg mg_w_9_125)))])) _
    refine st44 _ ?_
    exact k
  obtain ⟨ms0_229, hms0_229⟩ : ∃ z : Int32, z = (if (f_5 v8_34 v7_25 v8_34 ms0_62 ms0_76) = (0 : Int32) then (0 : Int32) else (if v8_34 = v6_16 then (0 : Int32) else (1 : Int32))) := ⟨_, rfl⟩
  have pre47 : ∀ t, Steps p.tables e below (T44.setTop (mkF m 229 #[.val (.int p0), .val (.int p1), .val (.int p2), .val (.int p3), .val (.int p4), .val (.int v5_7), .val (.int v6_16), .val (.int v7_25), .val (.int v8_34), .val (.int ms0_48), .val (.int ms0_62), .val (.int ms0_76), .val (.ref b8), .val (.int ms0_147), .val (.int ms0_192), .unset] [(.int ms0_229), (.int (f_4 v8_34 (((v5_7 + (64 : Int32)) - (1 : Int32)) / (64 : Int32)).toNatClampNeg (f_3_1 v6_16 (((v5_7 + (64 : Int32)) - (1 : Int32)) / (64 : Int32)).toNatClampNeg mg_w_9_125)))])) t → Steps p.tables e below (s₁.setTop (entryFrame m #[(.int p0), (.int p1), (.int p2), (.int p3), (.int p4)] maxLocals)) t := by
    intro t k
    refine pre46 t ?_
    by_cases hc214 : (f_5 v8_34 v7_25 v8_34 ms0_62 ms0_76) = (0 : Int32)
    · show Steps p.tables e below (T44.setTop (mkF m 214 #[.val (.int p0), .val (.int p1), .val (.int p2), .val (.int p3), .val (.int p4), .val (.int v5_7), .val (.int v6_16), .val (.int v7_25), .val (.int v8_34), .val (.int ms0_48), .val (.int ms0_62), .val (.int ms0_76), .val (.ref b8), .val (.int ms0_147), .val (.int ms0_192), .unset] [(.int (f_5 v8_34 v7_25 v8_34 ms0_62 ms0_76)), (.int (f_4 v8_34 (((v5_7 + (64 : Int32)) - (1 : Int32)) / (64 : Int32)).toNatClampNeg (f_3_1 v6_16 (((v5_7 + (64 : Int32)) - (1 : Int32)) / (64 : Int32)).toNatClampNeg mg_w_9_125)))])) _
      refine XS.ifYes X44.here hx rfl (pc0 := 214) (pc' := 228) rfl (hb hby at_214) rfl ((if0 _ _).trans (teq hc214).1) (by decide) (by decide) ?_
      show Steps p.tables e below (T44.setTop (mkF m 228 #[.val (.int p0), .val (.int p1), .val (.int p2), .val (.int p3), .val (.int p4), .val (.int v5_7), .val (.int v6_16), .val (.int v7_25), .val (.int v8_34), .val (.int ms0_48), .val (.int ms0_62), .val (.int ms0_76), .val (.ref b8), .val (.int ms0_147), .val (.int ms0_192), .unset] [(.int (f_4 v8_34 (((v5_7 + (64 : Int32)) - (1 : Int32)) / (64 : Int32)).toNatClampNeg (f_3_1 v6_16 (((v5_7 + (64 : Int32)) - (1 : Int32)) / (64 : Int32)).toNatClampNeg mg_w_9_125)))])) _
      refine XS.iconst X44.here hx rfl (hb hby at_228) ?_
      have qms0_229 : ms0_229 = (0 : Int32) := by rw [hms0_229, if_pos hc214]
      rw [qms0_229] at k
      exact k
    · show Steps p.tables e below (T44.setTop (mkF m 214 #[.val (.int p0), .val (.int p1), .val (.int p2), .val (.int p3), .val (.int p4), .val (.int v5_7), .val (.int v6_16), .val (.int v7_25), .val (.int v8_34), .val (.int ms0_48), .val (.int ms0_62), .val (.int ms0_76), .val (.ref b8), .val (.int ms0_147), .val (.int ms0_192), .unset] [(.int (f_5 v8_34 v7_25 v8_34 ms0_62 ms0_76)), (.int (f_4 v8_34 (((v5_7 + (64 : Int32)) - (1 : Int32)) / (64 : Int32)).toNatClampNeg (f_3_1 v6_16 (((v5_7 + (64 : Int32)) - (1 : Int32)) / (64 : Int32)).toNatClampNeg mg_w_9_125)))])) _
      refine XS.ifNo X44.here hx rfl (hb hby at_214) rfl ((if0 _ _).trans (feq hc214).1) ?_
      show Steps p.tables e below (T44.setTop (mkF m 217 #[.val (.int p0), .val (.int p1), .val (.int p2), .val (.int p3), .val (.int p4), .val (.int v5_7), .val (.int v6_16), .val (.int v7_25), .val (.int v8_34), .val (.int ms0_48), .val (.int ms0_62), .val (.int ms0_76), .val (.ref b8), .val (.int ms0_147), .val (.int ms0_192), .unset] [(.int (f_4 v8_34 (((v5_7 + (64 : Int32)) - (1 : Int32)) / (64 : Int32)).toNatClampNeg (f_3_1 v6_16 (((v5_7 + (64 : Int32)) - (1 : Int32)) / (64 : Int32)).toNatClampNeg mg_w_9_125)))])) _
      refine XS.iload X44.here hx rfl (hb hby at_217) rfl  ?_
      show Steps p.tables e below (T44.setTop (mkF m 219 #[.val (.int p0), .val (.int p1), .val (.int p2), .val (.int p3), .val (.int p4), .val (.int v5_7), .val (.int v6_16), .val (.int v7_25), .val (.int v8_34), .val (.int ms0_48), .val (.int ms0_62), .val (.int ms0_76), .val (.ref b8), .val (.int ms0_147), .val (.int ms0_192), .unset] [(.int v8_34), (.int (f_4 v8_34 (((v5_7 + (64 : Int32)) - (1 : Int32)) / (64 : Int32)).toNatClampNeg (f_3_1 v6_16 (((v5_7 + (64 : Int32)) - (1 : Int32)) / (64 : Int32)).toNatClampNeg mg_w_9_125)))])) _
      refine XS.iload X44.here hx rfl (hb hby at_219) rfl  ?_
      by_cases hc221 : v8_34 = v6_16
      · show Steps p.tables e below (T44.setTop (mkF m 221 #[.val (.int p0), .val (.int p1), .val (.int p2), .val (.int p3), .val (.int p4), .val (.int v5_7), .val (.int v6_16), .val (.int v7_25), .val (.int v8_34), .val (.int ms0_48), .val (.int ms0_62), .val (.int ms0_76), .val (.ref b8), .val (.int ms0_147), .val (.int ms0_192), .unset] [(.int v6_16), (.int v8_34), (.int (f_4 v8_34 (((v5_7 + (64 : Int32)) - (1 : Int32)) / (64 : Int32)).toNatClampNeg (f_3_1 v6_16 (((v5_7 + (64 : Int32)) - (1 : Int32)) / (64 : Int32)).toNatClampNeg mg_w_9_125)))])) _
        refine XS.icmpYes X44.here hx rfl (pc0 := 221) (pc' := 228) rfl (hb hby at_221) rfl (teq hc221).1 (by decide) (by decide) ?_
        show Steps p.tables e below (T44.setTop (mkF m 228 #[.val (.int p0), .val (.int p1), .val (.int p2), .val (.int p3), .val (.int p4), .val (.int v5_7), .val (.int v6_16), .val (.int v7_25), .val (.int v8_34), .val (.int ms0_48), .val (.int ms0_62), .val (.int ms0_76), .val (.ref b8), .val (.int ms0_147), .val (.int ms0_192), .unset] [(.int (f_4 v8_34 (((v5_7 + (64 : Int32)) - (1 : Int32)) / (64 : Int32)).toNatClampNeg (f_3_1 v6_16 (((v5_7 + (64 : Int32)) - (1 : Int32)) / (64 : Int32)).toNatClampNeg mg_w_9_125)))])) _
        refine XS.iconst X44.here hx rfl (hb hby at_228) ?_
        have qms0_229 : ms0_229 = (0 : Int32) := by rw [hms0_229, if_neg hc214, if_pos hc221]
        rw [qms0_229] at k
        exact k
      · show Steps p.tables e below (T44.setTop (mkF m 221 #[.val (.int p0), .val (.int p1), .val (.int p2), .val (.int p3), .val (.int p4), .val (.int v5_7), .val (.int v6_16), .val (.int v7_25), .val (.int v8_34), .val (.int ms0_48), .val (.int ms0_62), .val (.int ms0_76), .val (.ref b8), .val (.int ms0_147), .val (.int ms0_192), .unset] [(.int v6_16), (.int v8_34), (.int (f_4 v8_34 (((v5_7 + (64 : Int32)) - (1 : Int32)) / (64 : Int32)).toNatClampNeg (f_3_1 v6_16 (((v5_7 + (64 : Int32)) - (1 : Int32)) / (64 : Int32)).toNatClampNeg mg_w_9_125)))])) _
        refine XS.icmpNo X44.here hx rfl (hb hby at_221) rfl (feq hc221).1 ?_
        show Steps p.tables e below (T44.setTop (mkF m 224 #[.val (.int p0), .val (.int p1), .val (.int p2), .val (.int p3), .val (.int p4), .val (.int v5_7), .val (.int v6_16), .val (.int v7_25), .val (.int v8_34), .val (.int ms0_48), .val (.int ms0_62), .val (.int ms0_76), .val (.ref b8), .val (.int ms0_147), .val (.int ms0_192), .unset] [(.int (f_4 v8_34 (((v5_7 + (64 : Int32)) - (1 : Int32)) / (64 : Int32)).toNatClampNeg (f_3_1 v6_16 (((v5_7 + (64 : Int32)) - (1 : Int32)) / (64 : Int32)).toNatClampNeg mg_w_9_125)))])) _
        refine XS.iconst X44.here hx rfl (hb hby at_224) ?_
        show Steps p.tables e below (T44.setTop (mkF m 225 #[.val (.int p0), .val (.int p1), .val (.int p2), .val (.int p3), .val (.int p4), .val (.int v5_7), .val (.int v6_16), .val (.int v7_25), .val (.int v8_34), .val (.int ms0_48), .val (.int ms0_62), .val (.int ms0_76), .val (.ref b8), .val (.int ms0_147), .val (.int ms0_192), .unset] [(.int (1 : Int32)), (.int (f_4 v8_34 (((v5_7 + (64 : Int32)) - (1 : Int32)) / (64 : Int32)).toNatClampNeg (f_3_1 v6_16 (((v5_7 + (64 : Int32)) - (1 : Int32)) / (64 : Int32)).toNatClampNeg mg_w_9_125)))])) _
        refine XS.goto X44.here hx rfl (pc0 := 225) (pc' := 229) rfl (hb hby at_225) (by decide) (by decide) ?_
        have qms0_229 : ms0_229 = (1 : Int32) := by rw [hms0_229, if_neg hc214, if_neg hc221]
        rw [qms0_229] at k
        exact k
  obtain ⟨ms0_237, hms0_237⟩ : ∃ z : Int32, z = (if (f_4 v8_34 (((v5_7 + (64 : Int32)) - (1 : Int32)) / (64 : Int32)).toNatClampNeg (f_3_1 v6_16 (((v5_7 + (64 : Int32)) - (1 : Int32)) / (64 : Int32)).toNatClampNeg mg_w_9_125)) = ms0_229 then (1 : Int32) else (0 : Int32)) := ⟨_, rfl⟩
  have pre48 : ∀ t, Steps p.tables e below (T44.setTop (mkF m 237 #[.val (.int p0), .val (.int p1), .val (.int p2), .val (.int p3), .val (.int p4), .val (.int v5_7), .val (.int v6_16), .val (.int v7_25), .val (.int v8_34), .val (.int ms0_48), .val (.int ms0_62), .val (.int ms0_76), .val (.ref b8), .val (.int ms0_147), .val (.int ms0_192), .unset] [(.int ms0_237)])) t → Steps p.tables e below (s₁.setTop (entryFrame m #[(.int p0), (.int p1), (.int p2), (.int p3), (.int p4)] maxLocals)) t := by
    intro t k
    refine pre47 t ?_
    by_cases hc229 : (f_4 v8_34 (((v5_7 + (64 : Int32)) - (1 : Int32)) / (64 : Int32)).toNatClampNeg (f_3_1 v6_16 (((v5_7 + (64 : Int32)) - (1 : Int32)) / (64 : Int32)).toNatClampNeg mg_w_9_125)) = ms0_229
    · show Steps p.tables e below (T44.setTop (mkF m 229 #[.val (.int p0), .val (.int p1), .val (.int p2), .val (.int p3), .val (.int p4), .val (.int v5_7), .val (.int v6_16), .val (.int v7_25), .val (.int v8_34), .val (.int ms0_48), .val (.int ms0_62), .val (.int ms0_76), .val (.ref b8), .val (.int ms0_147), .val (.int ms0_192), .unset] [(.int ms0_229), (.int (f_4 v8_34 (((v5_7 + (64 : Int32)) - (1 : Int32)) / (64 : Int32)).toNatClampNeg (f_3_1 v6_16 (((v5_7 + (64 : Int32)) - (1 : Int32)) / (64 : Int32)).toNatClampNeg mg_w_9_125)))])) _
      refine XS.icmpNo X44.here hx rfl (hb hby at_229) rfl (teq hc229).2 ?_
      show Steps p.tables e below (T44.setTop (mkF m 232 #[.val (.int p0), .val (.int p1), .val (.int p2), .val (.int p3), .val (.int p4), .val (.int v5_7), .val (.int v6_16), .val (.int v7_25), .val (.int v8_34), .val (.int ms0_48), .val (.int ms0_62), .val (.int ms0_76), .val (.ref b8), .val (.int ms0_147), .val (.int ms0_192), .unset] [])) _
      refine XS.iconst X44.here hx rfl (hb hby at_232) ?_
      show Steps p.tables e below (T44.setTop (mkF m 233 #[.val (.int p0), .val (.int p1), .val (.int p2), .val (.int p3), .val (.int p4), .val (.int v5_7), .val (.int v6_16), .val (.int v7_25), .val (.int v8_34), .val (.int ms0_48), .val (.int ms0_62), .val (.int ms0_76), .val (.ref b8), .val (.int ms0_147), .val (.int ms0_192), .unset] [(.int (1 : Int32))])) _
      refine XS.goto X44.here hx rfl (pc0 := 233) (pc' := 237) rfl (hb hby at_233) (by decide) (by decide) ?_
      have qms0_237 : ms0_237 = (1 : Int32) := by rw [hms0_237, if_pos hc229]
      rw [qms0_237] at k
      exact k
    · show Steps p.tables e below (T44.setTop (mkF m 229 #[.val (.int p0), .val (.int p1), .val (.int p2), .val (.int p3), .val (.int p4), .val (.int v5_7), .val (.int v6_16), .val (.int v7_25), .val (.int v8_34), .val (.int ms0_48), .val (.int ms0_62), .val (.int ms0_76), .val (.ref b8), .val (.int ms0_147), .val (.int ms0_192), .unset] [(.int ms0_229), (.int (f_4 v8_34 (((v5_7 + (64 : Int32)) - (1 : Int32)) / (64 : Int32)).toNatClampNeg (f_3_1 v6_16 (((v5_7 + (64 : Int32)) - (1 : Int32)) / (64 : Int32)).toNatClampNeg mg_w_9_125)))])) _
      refine XS.icmpYes X44.here hx rfl (pc0 := 229) (pc' := 236) rfl (hb hby at_229) rfl (feq hc229).2 (by decide) (by decide) ?_
      show Steps p.tables e below (T44.setTop (mkF m 236 #[.val (.int p0), .val (.int p1), .val (.int p2), .val (.int p3), .val (.int p4), .val (.int v5_7), .val (.int v6_16), .val (.int v7_25), .val (.int v8_34), .val (.int ms0_48), .val (.int ms0_62), .val (.int ms0_76), .val (.ref b8), .val (.int ms0_147), .val (.int ms0_192), .unset] [])) _
      refine XS.iconst X44.here hx rfl (hb hby at_236) ?_
      have qms0_237 : ms0_237 = (0 : Int32) := by rw [hms0_237, if_neg hc229]
      rw [qms0_237] at k
      exact k
  have pre49 : ∀ t, Steps p.tables e below (T44.setTop (mkF m 241 #[.val (.int p0), .val (.int p1), .val (.int p2), .val (.int p3), .val (.int p4), .val (.int v5_7), .val (.int v6_16), .val (.int v7_25), .val (.int v8_34), .val (.int ms0_48), .val (.int ms0_62), .val (.int ms0_76), .val (.ref b8), .val (.int ms0_147), .val (.int ms0_192), .val (.int ms0_237)] [(.int ms0_147)])) t → Steps p.tables e below (s₁.setTop (entryFrame m #[(.int p0), (.int p1), (.int p2), (.int p3), (.int p4)] maxLocals)) t := by
    intro t k
    refine pre48 t ?_
    show Steps p.tables e below (T44.setTop (mkF m 237 #[.val (.int p0), .val (.int p1), .val (.int p2), .val (.int p3), .val (.int p4), .val (.int v5_7), .val (.int v6_16), .val (.int v7_25), .val (.int v8_34), .val (.int ms0_48), .val (.int ms0_62), .val (.int ms0_76), .val (.ref b8), .val (.int ms0_147), .val (.int ms0_192), .unset] [(.int ms0_237)])) _
    refine XS.istore X44.here hx rfl (hb hby at_237) rfl (l' := #[.val (.int p0), .val (.int p1), .val (.int p2), .val (.int p3), .val (.int p4), .val (.int v5_7), .val (.int v6_16), .val (.int v7_25), .val (.int v8_34), .val (.int ms0_48), .val (.int ms0_62), .val (.int ms0_76), .val (.ref b8), .val (.int ms0_147), .val (.int ms0_192), .val (.int ms0_237)]) rfl ?_
    show Steps p.tables e below (T44.setTop (mkF m 239 #[.val (.int p0), .val (.int p1), .val (.int p2), .val (.int p3), .val (.int p4), .val (.int v5_7), .val (.int v6_16), .val (.int v7_25), .val (.int v8_34), .val (.int ms0_48), .val (.int ms0_62), .val (.int ms0_76), .val (.ref b8), .val (.int ms0_147), .val (.int ms0_192), .val (.int ms0_237)] [])) _
    refine XS.iload X44.here hx rfl (hb hby at_239) rfl  ?_
    exact k
  obtain ⟨ms0_259, hms0_259⟩ : ∃ z : Int32, z = (if ms0_147 = (0 : Int32) then (0 : Int32) else (if ms0_192 = (0 : Int32) then (0 : Int32) else (if ms0_237 = (0 : Int32) then (0 : Int32) else (1 : Int32)))) := ⟨_, rfl⟩
  have pre50 : ∀ t, Steps p.tables e below (T44.setTop (mkF m 259 #[.val (.int p0), .val (.int p1), .val (.int p2), .val (.int p3), .val (.int p4), .val (.int v5_7), .val (.int v6_16), .val (.int v7_25), .val (.int v8_34), .val (.int ms0_48), .val (.int ms0_62), .val (.int ms0_76), .val (.ref b8), .val (.int ms0_147), .val (.int ms0_192), .val (.int ms0_237)] [(.int ms0_259)])) t → Steps p.tables e below (s₁.setTop (entryFrame m #[(.int p0), (.int p1), (.int p2), (.int p3), (.int p4)] maxLocals)) t := by
    intro t k
    refine pre49 t ?_
    by_cases hc241 : ms0_147 = (0 : Int32)
    · show Steps p.tables e below (T44.setTop (mkF m 241 #[.val (.int p0), .val (.int p1), .val (.int p2), .val (.int p3), .val (.int p4), .val (.int v5_7), .val (.int v6_16), .val (.int v7_25), .val (.int v8_34), .val (.int ms0_48), .val (.int ms0_62), .val (.int ms0_76), .val (.ref b8), .val (.int ms0_147), .val (.int ms0_192), .val (.int ms0_237)] [(.int ms0_147)])) _
      refine XS.ifYes X44.here hx rfl (pc0 := 241) (pc' := 258) rfl (hb hby at_241) rfl ((if0 _ _).trans (teq hc241).1) (by decide) (by decide) ?_
      show Steps p.tables e below (T44.setTop (mkF m 258 #[.val (.int p0), .val (.int p1), .val (.int p2), .val (.int p3), .val (.int p4), .val (.int v5_7), .val (.int v6_16), .val (.int v7_25), .val (.int v8_34), .val (.int ms0_48), .val (.int ms0_62), .val (.int ms0_76), .val (.ref b8), .val (.int ms0_147), .val (.int ms0_192), .val (.int ms0_237)] [])) _
      refine XS.iconst X44.here hx rfl (hb hby at_258) ?_
      have qms0_259 : ms0_259 = (0 : Int32) := by rw [hms0_259, if_pos hc241]
      rw [qms0_259] at k
      exact k
    · show Steps p.tables e below (T44.setTop (mkF m 241 #[.val (.int p0), .val (.int p1), .val (.int p2), .val (.int p3), .val (.int p4), .val (.int v5_7), .val (.int v6_16), .val (.int v7_25), .val (.int v8_34), .val (.int ms0_48), .val (.int ms0_62), .val (.int ms0_76), .val (.ref b8), .val (.int ms0_147), .val (.int ms0_192), .val (.int ms0_237)] [(.int ms0_147)])) _
      refine XS.ifNo X44.here hx rfl (hb hby at_241) rfl ((if0 _ _).trans (feq hc241).1) ?_
      show Steps p.tables e below (T44.setTop (mkF m 244 #[.val (.int p0), .val (.int p1), .val (.int p2), .val (.int p3), .val (.int p4), .val (.int v5_7), .val (.int v6_16), .val (.int v7_25), .val (.int v8_34), .val (.int ms0_48), .val (.int ms0_62), .val (.int ms0_76), .val (.ref b8), .val (.int ms0_147), .val (.int ms0_192), .val (.int ms0_237)] [])) _
      refine XS.iload X44.here hx rfl (hb hby at_244) rfl  ?_
      by_cases hc246 : ms0_192 = (0 : Int32)
      · show Steps p.tables e below (T44.setTop (mkF m 246 #[.val (.int p0), .val (.int p1), .val (.int p2), .val (.int p3), .val (.int p4), .val (.int v5_7), .val (.int v6_16), .val (.int v7_25), .val (.int v8_34), .val (.int ms0_48), .val (.int ms0_62), .val (.int ms0_76), .val (.ref b8), .val (.int ms0_147), .val (.int ms0_192), .val (.int ms0_237)] [(.int ms0_192)])) _
        refine XS.ifYes X44.here hx rfl (pc0 := 246) (pc' := 258) rfl (hb hby at_246) rfl ((if0 _ _).trans (teq hc246).1) (by decide) (by decide) ?_
        show Steps p.tables e below (T44.setTop (mkF m 258 #[.val (.int p0), .val (.int p1), .val (.int p2), .val (.int p3), .val (.int p4), .val (.int v5_7), .val (.int v6_16), .val (.int v7_25), .val (.int v8_34), .val (.int ms0_48), .val (.int ms0_62), .val (.int ms0_76), .val (.ref b8), .val (.int ms0_147), .val (.int ms0_192), .val (.int ms0_237)] [])) _
        refine XS.iconst X44.here hx rfl (hb hby at_258) ?_
        have qms0_259 : ms0_259 = (0 : Int32) := by rw [hms0_259, if_neg hc241, if_pos hc246]
        rw [qms0_259] at k
        exact k
      · show Steps p.tables e below (T44.setTop (mkF m 246 #[.val (.int p0), .val (.int p1), .val (.int p2), .val (.int p3), .val (.int p4), .val (.int v5_7), .val (.int v6_16), .val (.int v7_25), .val (.int v8_34), .val (.int ms0_48), .val (.int ms0_62), .val (.int ms0_76), .val (.ref b8), .val (.int ms0_147), .val (.int ms0_192), .val (.int ms0_237)] [(.int ms0_192)])) _
        refine XS.ifNo X44.here hx rfl (hb hby at_246) rfl ((if0 _ _).trans (feq hc246).1) ?_
        show Steps p.tables e below (T44.setTop (mkF m 249 #[.val (.int p0), .val (.int p1), .val (.int p2), .val (.int p3), .val (.int p4), .val (.int v5_7), .val (.int v6_16), .val (.int v7_25), .val (.int v8_34), .val (.int ms0_48), .val (.int ms0_62), .val (.int ms0_76), .val (.ref b8), .val (.int ms0_147), .val (.int ms0_192), .val (.int ms0_237)] [])) _
        refine XS.iload X44.here hx rfl (hb hby at_249) rfl  ?_
        by_cases hc251 : ms0_237 = (0 : Int32)
        · show Steps p.tables e below (T44.setTop (mkF m 251 #[.val (.int p0), .val (.int p1), .val (.int p2), .val (.int p3), .val (.int p4), .val (.int v5_7), .val (.int v6_16), .val (.int v7_25), .val (.int v8_34), .val (.int ms0_48), .val (.int ms0_62), .val (.int ms0_76), .val (.ref b8), .val (.int ms0_147), .val (.int ms0_192), .val (.int ms0_237)] [(.int ms0_237)])) _
          refine XS.ifYes X44.here hx rfl (pc0 := 251) (pc' := 258) rfl (hb hby at_251) rfl ((if0 _ _).trans (teq hc251).1) (by decide) (by decide) ?_
          show Steps p.tables e below (T44.setTop (mkF m 258 #[.val (.int p0), .val (.int p1), .val (.int p2), .val (.int p3), .val (.int p4), .val (.int v5_7), .val (.int v6_16), .val (.int v7_25), .val (.int v8_34), .val (.int ms0_48), .val (.int ms0_62), .val (.int ms0_76), .val (.ref b8), .val (.int ms0_147), .val (.int ms0_192), .val (.int ms0_237)] [])) _
          refine XS.iconst X44.here hx rfl (hb hby at_258) ?_
          have qms0_259 : ms0_259 = (0 : Int32) := by rw [hms0_259, if_neg hc241, if_neg hc246, if_pos hc251]
          rw [qms0_259] at k
          exact k
        · show Steps p.tables e below (T44.setTop (mkF m 251 #[.val (.int p0), .val (.int p1), .val (.int p2), .val (.int p3), .val (.int p4), .val (.int v5_7), .val (.int v6_16), .val (.int v7_25), .val (.int v8_34), .val (.int ms0_48), .val (.int ms0_62), .val (.int ms0_76), .val (.ref b8), .val (.int ms0_147), .val (.int ms0_192), .val (.int ms0_237)] [(.int ms0_237)])) _
          refine XS.ifNo X44.here hx rfl (hb hby at_251) rfl ((if0 _ _).trans (feq hc251).1) ?_
          show Steps p.tables e below (T44.setTop (mkF m 254 #[.val (.int p0), .val (.int p1), .val (.int p2), .val (.int p3), .val (.int p4), .val (.int v5_7), .val (.int v6_16), .val (.int v7_25), .val (.int v8_34), .val (.int ms0_48), .val (.int ms0_62), .val (.int ms0_76), .val (.ref b8), .val (.int ms0_147), .val (.int ms0_192), .val (.int ms0_237)] [])) _
          refine XS.iconst X44.here hx rfl (hb hby at_254) ?_
          show Steps p.tables e below (T44.setTop (mkF m 255 #[.val (.int p0), .val (.int p1), .val (.int p2), .val (.int p3), .val (.int p4), .val (.int v5_7), .val (.int v6_16), .val (.int v7_25), .val (.int v8_34), .val (.int ms0_48), .val (.int ms0_62), .val (.int ms0_76), .val (.ref b8), .val (.int ms0_147), .val (.int ms0_192), .val (.int ms0_237)] [(.int (1 : Int32))])) _
          refine XS.goto X44.here hx rfl (pc0 := 255) (pc' := 259) rfl (hb hby at_255) (by decide) (by decide) ?_
          have qms0_259 : ms0_259 = (1 : Int32) := by rw [hms0_259, if_neg hc241, if_neg hc246, if_neg hc251]
          rw [qms0_259] at k
          exact k
  have hnar : nar .boolean ms0_259 = ms0_259 := by rw [hms0_259]; (repeat' split) <;> rfl
  obtain ⟨fs, hr, hrun, hended, hW, hsame⟩ := X44.leave (v := some (.int ms0_259)) (fun h => by rw [Bd.returns] at h; cases h)
  refine ⟨_, _, pre50 _ ?_, hrun, hended, _, _, rfl, ?_, ⟨_, rfl⟩, hW, hsame.mono (by decide) (by decide)⟩
  · show Steps p.tables e below (T44.setTop (mkF m 259 #[.val (.int p0), .val (.int p1), .val (.int p2), .val (.int p3), .val (.int p4), .val (.int v5_7), .val (.int v6_16), .val (.int v7_25), .val (.int v8_34), .val (.int ms0_48), .val (.int ms0_62), .val (.int ms0_76), .val (.ref b8), .val (.int ms0_147), .val (.int ms0_192), .val (.int ms0_237)] [(.int ms0_259)])) _
    exact retN X44 hx (t := .boolean) Bd.returns (by simp) (hb hby at_259) (by rw [hnar]; exact hr)
  · show Q_0 Z p0 p1 p2 p3 p4 h0 n0 _ T44.heap _
    rw [e44]
    exact ⟨congrArg (fun z => some (Value.int z)) (by subst hv5_7 hv6_16 hv7_25 hv8_34 hms0_48 hms0_62 hms0_76 hmg_w_9_101 hmg_w_9_113 hmg_w_9_125 hms0_147 hms0_184 hms0_192 hms0_229 hms0_237 hms0_259; rfl : ms0_259 = f_0 p0 p1 p2 p3 p4), N44, trivial⟩
def own_wd (q : Int32) : Nat := ((q.toUInt32 >>> ((6 : Int32) &&& 31).toUInt32).toInt32).toNatClampNeg
def own_bit (g : Nat → Int64) (q : Int32) : Bool := (g (own_wd q)).toBitVec.getLsbD (q.toBitVec.toNat % 64)
theorem own_tn (q : Int32) (h : 0 ≤ q.toInt) : (q.toBitVec.toNat : Int) = q.toInt := by
  have e : q.toInt = q.toBitVec.toInt := rfl
  rw [BitVec.toInt_eq_toNat_cond] at e
  have := q.toBitVec.isLt
  split at e <;> omega
theorem own_wd_eq (q : Int32) (h : 0 ≤ q.toInt) : (own_wd q : Int) = q.toInt / 64 := by
  have s1 := c_iushr q 6 6 (by decide) (by decide)
  have r := rng32 q
  have l0 : (0 : Int32).toInt = 0 := by decide
  have m1 : ¬ ((q.toUInt32 >>> ((6 : Int32) &&& 31).toUInt32).toInt32) < 0 := by rw [Int32.lt_iff_toInt_lt]; omega
  have m2 := nat_of m1
  unfold own_wd
  omega
theorem own_same (p q : Int32) (hp : 0 ≤ p.toInt) (hq : 0 ≤ q.toInt) : (own_wd q = own_wd p ∧ q.toBitVec.toNat % 64 = p.toBitVec.toNat % 64) ↔ q = p := by
  constructor
  · rintro ⟨h1, h2⟩
    have a := own_wd_eq q hq
    have b := own_wd_eq p hp
    have c := own_tn q hq
    have d := own_tn p hp
    apply Int32.toInt_inj.mp
    omega
  · rintro rfl
    exact ⟨rfl, rfl⟩
theorem own_sh (q : Int32) : ((1 : Int64) <<< (q &&& 0x3f).toInt64).toBitVec = BitVec.twoPow 64 (q.toBitVec.toNat % 64) := by
  show ((1 : Int64).toBitVec <<< ((q &&& 0x3f).toInt64.toBitVec.smod 64)) = _
  rw [BitVec.shiftLeft_eq', (sm64 q _ rfl).1, smod64 _ (sm64 q _ rfl).2, BitVec.twoPow]
  rfl
theorem own_k (q : Int32) : q.toBitVec.toNat % 64 < 64 := Nat.mod_lt _ (by decide)
theorem own_has (q : Int32) (n : Nat) (g : Nat → Int64) : f_4 q n g = if own_bit g q then 1 else 0 := by
  have e : ((g ((q.toUInt32 >>> ((6 : Int32) &&& 31).toUInt32).toInt32).toNatClampNeg) &&& ((1 : Int64) <<< (q &&& 0x3f).toInt64)) = (0 : Int64) ↔ own_bit g q = false := by
    rw [← Int64.toBitVec_inj]
    show ((g (own_wd q)).toBitVec &&& ((1 : Int64) <<< (q &&& 0x3f).toInt64).toBitVec) = 0#64 ↔ _
    rw [own_sh, BitVec.and_twoPow]
    unfold own_bit
    cases hb : (g (own_wd q)).toBitVec.getLsbD (q.toBitVec.toNat % 64)
    · simp
    · have k := own_k q
      simp only [if_true]
      constructor
      · intro h
        have := congrArg (fun z => z.getLsbD (q.toBitVec.toNat % 64)) h
        simp [BitVec.getLsbD_twoPow, k] at this
      · intro h; cases h
  simp only [f_4, e]
  cases own_bit g q <;> simp
theorem own_mark (p q : Int32) (n : Nat) (g : Nat → Int64) (hp : 0 ≤ p.toInt) (hq : 0 ≤ q.toInt) : own_bit (f_6_1 p n g) q = (own_bit g q || decide (q = p)) := by
  have s := own_same p q hp hq
  have kq := own_k q
  show (own_upd g (own_wd p) (g (own_wd p) ||| ((1 : Int64) <<< (p &&& 0x3f).toInt64)) (own_wd q)).toBitVec.getLsbD _ = _
  unfold own_upd
  by_cases w : own_wd q = own_wd p
  · rw [if_pos w]
    show ((g (own_wd p)).toBitVec ||| ((1 : Int64) <<< (p &&& 0x3f).toInt64).toBitVec).getLsbD _ = _
    rw [own_sh, BitVec.getLsbD_or, BitVec.getLsbD_twoPow]
    unfold own_bit
    rw [w]
    congr 1
    by_cases e : q = p
    · simp [e, own_k p]
    · have : ¬ q.toBitVec.toNat % 64 = p.toBitVec.toNat % 64 := fun h => e (s.mp ⟨w, h⟩)
      have t : ¬ p.toBitVec.toNat % 64 = q.toBitVec.toNat % 64 := fun h => this h.symm
      simp [e, t]
  · rw [if_neg w]
    have e : ¬ q = p := fun h => w (s.mpr h).1
    simp [own_bit, e]
theorem own_unmark (p q : Int32) (n : Nat) (g : Nat → Int64) (hp : 0 ≤ p.toInt) (hq : 0 ≤ q.toInt) : own_bit (f_3_1 p n g) q = (own_bit g q && !decide (q = p)) := by
  have s := own_same p q hp hq
  have kq := own_k q
  show (own_upd g (own_wd p) (g (own_wd p) &&& (((1 : Int64) <<< (p &&& 0x3f).toInt64) ^^^ (-1 : Int64))) (own_wd q)).toBitVec.getLsbD _ = _
  unfold own_upd
  by_cases w : own_wd q = own_wd p
  · rw [if_pos w]
    show ((g (own_wd p)).toBitVec &&& (((1 : Int64) <<< (p &&& 0x3f).toInt64).toBitVec ^^^ (-1 : Int64).toBitVec)).getLsbD _ = _
    rw [own_sh, BitVec.getLsbD_and, BitVec.getLsbD_xor, BitVec.getLsbD_twoPow, show (-1 : Int64).toBitVec = BitVec.allOnes 64 by decide, BitVec.getLsbD_allOnes]
    unfold own_bit
    rw [w]
    congr 1
    by_cases e : q = p
    · simp [e, own_k p]
    · have : ¬ q.toBitVec.toNat % 64 = p.toBitVec.toNat % 64 := fun h => e (s.mp ⟨w, h⟩)
      have t : ¬ p.toBitVec.toNat % 64 = q.toBitVec.toNat % 64 := fun h => this h.symm
      simp [e, t, kq]
  · rw [if_neg w]
    have e : ¬ q = p := fun h => w (s.mpr h).1
    simp [own_bit, e]
theorem own_zb (q : Int32) : own_bit own_zJ q = false := by
  show (0 : Int64).toBitVec.getLsbD _ = false
  simp
theorem own_law (p0 p1 p2 p3 p4 : Int32) : f_0 p0 p1 p2 p3 p4 = 1 := by
  have n := own_n p0
  have a := (own_rem p1 _ n.1).1
  have b := (own_rem p2 _ n.1).1
  have c := (own_rem p3 _ n.1).1
  simp only [f_0]
  generalize (p0 &&& 255) + 1 = N at *
  generalize (p1 &&& 2147483647) % N = P at *
  generalize (p2 &&& 2147483647) % N = Q at *
  generalize (p3 &&& 2147483647) % N = R at *
  simp only [own_has, own_unmark _ _ _ _ a a, own_unmark _ _ _ _ a b, own_unmark _ _ _ _ a c, f_5]
  by_cases m1 : (p4 &&& 1) = 0 <;> by_cases m2 : (p4 &&& 2) = 0 <;> by_cases m3 : (p4 &&& 4) = 0 <;>
    simp [m1, m2, m3, own_mark _ _ _ _ a a, own_mark _ _ _ _ a b, own_mark _ _ _ _ a c, own_mark _ _ _ _ b a, own_mark _ _ _ _ b b, own_mark _ _ _ _ b c, own_mark _ _ _ _ c a, own_mark _ _ _ _ c b, own_mark _ _ _ _ c c, own_zb] <;>
    by_cases h1 : Q = P <;> by_cases h2 : R = P <;> by_cases h3 : R = Q <;> simp_all
set_option maxRecDepth 65536 in
set_option maxHeartbeats 40000000 in
theorem comes_1 {Post : Tables → Env → Array Value → State → Outcome → State → Prop} (hpost : ∀ tb e args s v u, (limb_1_1.after args s (.returned v) u = true ∧ limb_1_2.after args s (.returned v) u = true ∧ True) → FrameEnd s (.returned v) u (Jvm.fieldLocs frame_1_writes args s ++ Jvm.arrayLocs frame_1_arrays args s ++ Jvm.staticLocs frame_1_statics s) 16 128 → Post tb e args s (.returned v) u) :
    ArmFor flags0 classFile x code maxLocals ret World_1 tables_1 room_1 Calls_1 rest_1 Pre_1 Post := by
  intro l hfl _ _ p e ha hc hk s m args below hf hA hF happ hP
  obtain ⟨hcalls, hrest, hpre⟩ := hP
  obtain ⟨-, -, -, hnamed, -, -, -, hat⟩ := (Spec.applies_iff hf).mp happ
  obtain ⟨hg, hn⟩ := and_e (Cond.before_iff.mp (show (Jvm.Cond.and given_1 narrow_1).before args s = true from hpre))
  obtain ⟨g0, gt0⟩ := and_e hg
  obtain ⟨ga0, gt1⟩ := and_e gt0
  obtain ⟨ga1, gt2⟩ := and_e gt1
  obtain ⟨ga2, gt3⟩ := and_e gt2
  obtain ⟨ga3, gt4⟩ := and_e gt3
  obtain ⟨w0, w1, w2, w3, w4, rfl⟩ : ∃ w0 w1 w2 w3 w4 : Value, args = #[w0, w1, w2, w3, w4] := by
    have hs : args.size = 5 := by simpa [Cond.value, given_1] using g0
    obtain ⟨L⟩ := args
    match L, hs with
    | [w0, w1, w2, w3, w4], _ => exact ⟨w0, w1, w2, w3, w4, rfl⟩
  have hw := fun d (hd : d ∈ tables_1) => atoms_spec (ws := Jvm.Cond.code x code maxLocals ret :: tables_1) hat d (List.mem_cons_of_mem _ hd)
  have hfit : Fit s := fun {y c} hc i hi => by
    obtain ⟨ha, rfl⟩ := Array.getElem?_eq_some_iff.mp hc
    have q := List.all_eq_true.mp ((Array.all_eq_true_iff_forall_mem.mp hF) _ (Array.getElem_mem ha)) i (List.mem_range.mpr hi)
    simpa [Array.getElem?_eq_getElem hi] using q
  obtain ⟨i0, ei0⟩ := is_v ga0
  obtain rfl : w0 = (.int i0) := Option.some.inj ei0
  obtain ⟨i1, ei1⟩ := is_v ga1
  obtain rfl : w1 = (.int i1) := Option.some.inj ei1
  obtain ⟨i2, ei2⟩ := is_v ga2
  obtain rfl : w2 = (.int i2) := Option.some.inj ei2
  obtain ⟨i3, ei3⟩ := is_v ga3
  obtain rfl : w3 = (.int i3) := Option.some.inj ei3
  obtain ⟨i4, ei4⟩ := is_v gt4
  obtain rfl : w4 = (.int i4) := Option.some.inj ei4
  obtain ⟨n, o, h1, h2, h3, _, L, rfl, ⟨rfl, N⟩, hq⟩ := rm_0 l s _ hw tables_1 i0 i1 i2 i3 i4  s.heap s.heap.size (Nat.le_refl _)  p e ha hc hk s m _ below hf ((Spec.applies_iff_loose hf).mp happ).1 ⟨rfl, State.Warmed39.refl s, rfl⟩ trivial
  refine ⟨n, _, h1, h2, h3, hpost _ _ _ _ _ _ ⟨Cond.after_iff.mpr rfl, Cond.after_iff.mpr (eq_i res_at (Term.int_eval (1)) (congrArg Value.int (own_law _ _ _ _ _))), trivial⟩ ⟨hq.1, hq.2.1, (hq.2.2.sift fun y hy => Or.inr (N.1 y hy)).mono (by decide) (by decide)⟩⟩
theorem main_1_1 : Claimed_1_1 := comes_1 fun _ _ _ _ _ _ h hF => ⟨h.1, hF⟩
theorem main_1_2 : Claimed_1_2 := comes_1 fun _ _ _ _ _ _ h hF => ⟨h.2.1, hF⟩
end Jvm.Pilot.@@N@@
namespace Jvm.Pilot.@@N@@
open Jvm Jvm.ClassFile Sem Op Lib Jvm.Free Jvm.Stand Jvm.Pilot.@@N@@.Jvm.D
/-! MADE BY PROGRAM (witnessworld.py) out of the Statement's table words and the real class files: 11 classes; the members and pool entries that the words name. The judged class is class 1, her method 2. -/
namespace start1
open Jvm.ClassFile
def u (s : String) : CpInfo := .utf8 (stringToUtf16 s)
/-- a pool by its gaps: so many unusable entries, then the entry; so many at the end -/
def gap : Nat → List CpInfo → List CpInfo
  | 0, r => r
  | n + 1, r => .unusable :: gap n r
def poolList (es : List (Nat × CpInfo)) (last : Nat) : List CpInfo := es.foldr (fun e r => gap e.1 (e.2 :: r)) (gap last [])
def pool (es : List (Nat × CpInfo)) (last : Nat) : Array CpInfo := ⟨poolList es last⟩
def fileOf (pool : Array CpInfo) (this : Nat) (attrs : Array Attribute := #[]) (ms : Array MethodInfo := #[]) (fl : Nat := 33) (sup : Nat := 0) (ifs : Array Nat := #[]) (fds : Array FieldInfo := #[]) : ClassFile where
  minorVersion := 0
  majorVersion := 65
  constantPool := pool
  accessFlags := fl
  thisClass := this
  superClass := sup
  interfaces := ifs
  fields := fds
  methods := ms
  attributes := attrs
def plain (name : String) (sup : Option ClassId) : Class where
  name := name
  kind := .ordinary
  loader := none
  accessFlags := 33
  super := sup
  interfaces := #[]
  cf := none
  fields := #[]
  methods := #[]
  instanceTypes := #[]
  staticTypes := #[]
  resolved := #[]
  callSites := []
  init := .initialized
  statics := none
  mirror := none

def pool0 : Array CpInfo := pool [(5, u "<init>"), (0, u "()V"), (1, .class_ 10), (1, u "java/lang/Object")] 113

def k0c0 : Code := { maxStack := 0, maxLocals := 1, code := object_method_1_code, exceptionTable := #[], attributes := #[] }
def k0m0 : Method := { name := "<init>", desc := "()V", sig := { parameters := [], returnType := none }, accessFlags := 1, code := some k0c0 }
/-- java/lang/Object -/
def k0 : Class := { plain "java/lang/Object" none with
  accessFlags := 33
  interfaces := #[]
  cf := some (fileOf pool0 8 #[] #[{ accessFlags := 1, nameIndex := 5, descriptorIndex := 6, attributes := #[] }] 33 0 #[] #[])
  fields := #[]
  methods := #[k0m0]
  instanceTypes := #[]
  staticTypes := #[]
  resolved := Array.replicate 124 none
  statics := none }

def pool1 : Array CpInfo := pool [(2, .class_ 4), (1, u "java/lang/Object"), (0, u "<init>"), (0, u "()V"), (0, .integer 2147483647), (0, .class_ 9), (0, u "com/example/punctilio/punctilio/engine/PixelMarks"), (0, .methodref 8 11), (0, .nameAndType 5 12), (0, u "(I)V"), (0, .methodref 8 14), (0, .nameAndType 15 12), (0, u "mark"), (0, .methodref 8 17), (0, .nameAndType 18 12), (0, u "unmark"), (0, .methodref 8 20), (0, .nameAndType 21 22), (0, u "has"), (0, u "(I)Z"), (0, .methodref 24 25), (0, .class_ 26), (0, .nameAndType 27 28), (0, u "com/example/punctilio/punctilio/engine/PixelMarksUnmarkPinLaw"), (0, u "wasMarked"), (0, u "(IIIZZ)Z"), (3, u "law"), (0, u "(IIIII)Z")] 2

def k1m0 : Method := { name := "<init>", desc := "()V", sig := { parameters := [], returnType := none }, accessFlags := 1, code := none }
def k1c1 : Code := { maxStack := 2, maxLocals := 5, code := method_2_code, exceptionTable := #[], attributes := #[] }
def k1m1 : Method := { name := "wasMarked", desc := "(IIIZZ)Z", sig := { parameters := [.int, .int, .int, .boolean, .boolean], returnType := some .boolean }, accessFlags := 10, code := some k1c1 }
def k1c2 : Code := { maxStack := 6, maxLocals := 16, code := code, exceptionTable := #[], attributes := #[] }
def k1m2 : Method := { name := "law", desc := "(IIIII)Z", sig := { parameters := [.int, .int, .int, .int, .int], returnType := some .boolean }, accessFlags := 9, code := some k1c2 }
/-- com/example/punctilio/punctilio/engine/PixelMarksUnmarkPinLaw -/
def k1 : Class := { plain "com/example/punctilio/punctilio/engine/PixelMarksUnmarkPinLaw" (some 0) with
  accessFlags := 49
  interfaces := #[]
  cf := some (fileOf pool1 24 #[] #[{ accessFlags := 1, nameIndex := 5, descriptorIndex := 6, attributes := #[] }, { accessFlags := 10, nameIndex := 27, descriptorIndex := 28, attributes := #[] }, { accessFlags := 9, nameIndex := 32, descriptorIndex := 33, attributes := #[] }] 49 2 #[] #[])
  fields := #[]
  methods := #[k1m0, k1m1, k1m2]
  instanceTypes := #[]
  staticTypes := #[]
  resolved := Array.replicate 36 none
  statics := none }

def pool2 : Array CpInfo := pool [(1, .methodref 2 3), (0, .class_ 4), (0, .nameAndType 5 6), (0, u "java/lang/Object"), (0, u "<init>"), (0, u "()V"), (2, .fieldref 10 11), (0, .class_ 12), (0, .nameAndType 13 14), (0, u "com/example/punctilio/punctilio/engine/PixelMarks"), (0, u "words"), (0, u "[J"), (0, .long 18446744073709551615), (1, u "(I)V"), (2, u "has"), (0, u "(I)Z"), (1, u "mark"), (0, u "unmark")] 2

def k2c0 : Code := { maxStack := 3, maxLocals := 2, code := prog_11_method_1_code, exceptionTable := #[], attributes := #[] }
def k2m0 : Method := { name := "<init>", desc := "(I)V", sig := { parameters := [.int], returnType := none }, accessFlags := 0, code := some k2c0 }
def k2c1 : Code := { maxStack := 5, maxLocals := 2, code := prog_11_method_2_code, exceptionTable := #[], attributes := #[] }
def k2m1 : Method := { name := "has", desc := "(I)Z", sig := { parameters := [.int], returnType := some .boolean }, accessFlags := 0, code := some k2c1 }
def k2c2 : Code := { maxStack := 7, maxLocals := 2, code := prog_11_method_3_code, exceptionTable := #[], attributes := #[] }
def k2m2 : Method := { name := "mark", desc := "(I)V", sig := { parameters := [.int], returnType := none }, accessFlags := 0, code := some k2c2 }
def k2c3 : Code := { maxStack := 8, maxLocals := 2, code := prog_11_method_4_code, exceptionTable := #[], attributes := #[] }
def k2m3 : Method := { name := "unmark", desc := "(I)V", sig := { parameters := [.int], returnType := none }, accessFlags := 0, code := some k2c3 }
/-- com/example/punctilio/punctilio/engine/PixelMarks -/
def k2 : Class := { plain "com/example/punctilio/punctilio/engine/PixelMarks" (some 0) with
  accessFlags := 32
  interfaces := #[]
  cf := some (fileOf pool2 10 #[] #[{ accessFlags := 0, nameIndex := 5, descriptorIndex := 17, attributes := #[] }, { accessFlags := 0, nameIndex := 20, descriptorIndex := 21, attributes := #[] }, { accessFlags := 0, nameIndex := 23, descriptorIndex := 17, attributes := #[] }, { accessFlags := 0, nameIndex := 24, descriptorIndex := 17, attributes := #[] }] 32 2 #[] #[{ accessFlags := 18, nameIndex := 13, descriptorIndex := 14, attributes := #[] }])
  fields := #[{ name := "words", type := (.array .long), accessFlags := 18, slot := 0, constantValue := 0 }]
  methods := #[k2m0, k2m1, k2m2, k2m3]
  instanceTypes := #[(.array .long)]
  staticTypes := #[]
  resolved := Array.replicate 27 none
  statics := none }

def pool3 : Array CpInfo := pool [(1, u "java/lang/Cloneable"), (0, .class_ 1), (0, u "java/lang/Object"), (0, .class_ 3)] 3

/-- java/lang/Cloneable -/
def k3 : Class := { plain "java/lang/Cloneable" (some 0) with
  accessFlags := 1537
  interfaces := #[]
  cf := some (fileOf pool3 2 #[] #[] 1537 4 #[] #[])
  fields := #[]
  methods := #[]
  instanceTypes := #[]
  staticTypes := #[]
  resolved := Array.replicate 8 none
  statics := none }

def pool4 : Array CpInfo := pool [(1, u "java/io/Serializable"), (0, .class_ 1), (0, u "java/lang/Object"), (0, .class_ 3)] 3

/-- java/io/Serializable -/
def k4 : Class := { plain "java/io/Serializable" (some 0) with
  accessFlags := 1537
  interfaces := #[]
  cf := some (fileOf pool4 2 #[] #[] 1537 4 #[] #[])
  fields := #[]
  methods := #[]
  instanceTypes := #[]
  staticTypes := #[]
  resolved := Array.replicate 8 none
  statics := none }

/-- the primitive byte -/
def k5 : Class := { plain "byte" none with kind := .primitive 'B', accessFlags := 0x411 }
/-- [B -/
def k6 : Class := { plain "[B" (some 0) with kind := .array 5 .byte, interfaces := #[3, 4], accessFlags := 1041 }

/-- the primitive int -/
def k7 : Class := { plain "int" none with kind := .primitive 'I', accessFlags := 0x411 }
/-- [I -/
def k8 : Class := { plain "[I" (some 0) with kind := .array 7 .int, interfaces := #[3, 4], accessFlags := 1041 }

/-- the primitive long -/
def k9 : Class := { plain "long" none with kind := .primitive 'J', accessFlags := 0x411 }
/-- [J -/
def k10 : Class := { plain "[J" (some 0) with kind := .array 9 .long, interfaces := #[3, 4], accessFlags := 1041 }

def heap : Heap := #[]
def classes : Array Class := #[k0, k1, k2, k3, k4, k5, k6, k7, k8, k9, k10]
def interned : List (Array UInt16 × Addr) := []
def slotsUsed : Nat := 0
def theMethod : MethodId := ⟨1, 2⟩
def args0 : Array Value := #[.int 5, .int 7, .int 9, .int 3, .int 2]
def aboutOver (below : List Frame) : State where
  vm := { classes := classes, interned := interned.toArray }
  heap := heap
  slotsUsed := slotsUsed
  threads := #[{ frames := .invoking theMethod args0 :: below }]
def below0 : List Frame := [.native { method := ⟨0, 0⟩, args := #[] }]
def about1 : State := aboutOver below0
def p0 : Program := .bare "" "" ""
def e0 : Env := launch0.env 0 0 0
theorem w_frames : about1.frames = Frame.invoking theMethod args0 :: below0 := rfl
set_option maxRecDepth 65536 in
theorem w_args : argsFit about1.vm theMethod args0 = true := by decide +kernel
set_option maxRecDepth 65536 in
theorem w_heap : heapFits about1 = true := by decide +kernel
set_option maxRecDepth 65536 in
theorem w_runnable : about1.curStatus? = some .runnable := by decide +kernel
set_option maxRecDepth 65536 in
theorem w_alone : about1.alone = true := by decide +kernel
set_option maxRecDepth 65536 in
theorem w_named : about1.methodNamed? x = some theMethod := by decide +kernel
set_option maxRecDepth 65536 in
theorem w_hears : about1.hears theMethod below0 = true := by decide +kernel
set_option maxRecDepth 65536 in
theorem w_ripe : about1.ripe theMethod args0 below0 = true := by decide +kernel
theorem w_running : about1.status = .running := rfl
set_option maxRecDepth 65536 in
theorem w_room : about1.hasRoom e0.platform room_1 = true :=
  launch0.hasRoom_least _ room_1 (by decide +kernel) (by decide +kernel) (by decide +kernel) (by decide +kernel) (by decide +kernel) (by decide +kernel)
theorem allAtoms_all (ts : List Jvm.Cond) (a : Array Jvm.Value) (st : Jvm.State) : (allAtoms ts).before a st = ts.all (fun c => c.before a st) := by
  induction ts with
  | nil => rfl
  | cons c t ih =>
    show (Jvm.Cond.and c (allAtoms t)).before a st = _
    rw [Jvm.Cond.before_and, ih, List.all_cons]
def words1 : List Jvm.Cond := Jvm.Cond.code x code maxLocals ret :: tables_1
/-- a 'code' word, met by the world's own term for the bytes: nothing is compared byte by byte -/
theorem code_word {y : MethodName} {bytes : ByteArray} {mx : Nat} {rt : Option FieldType} {a : Array Value} {s : State} {m : MethodId} {meth : Method} {c : Code} (h1 : s.methodNamed? y = some m) (h2 : s.vm.method? m = some meth) (h3 : meth.code = some c) (h4 : c.code = bytes)
    (h5 : (c.maxLocals == mx && c.exceptionTable.isEmpty && decide (c.maxStack ≤ mostOperands) && decide (meth.sig.returnType = rt) && !meth.locks && decide (parseMethodDescriptor y.desc = some meth.sig)) = true) : (Jvm.Cond.code y bytes mx rt).before a s = true := by
  simp only [Bool.and_eq_true, beq_iff_eq, Bool.not_eq_true', decide_eq_true_eq] at h5
  obtain ⟨⟨⟨⟨⟨g1, g2⟩, g3⟩, g4⟩, g5⟩, g6⟩ := h5
  simp [Cond.before, Cond.holds, Cond.value, h1, h2, h3, h4, g1, g2, g3, g4, g5, g6]
def isCode : Jvm.Cond → Bool
  | .code _ _ _ _ => true
  | _ => false
theorem all_split {L : List Jvm.Cond} {P : Jvm.Cond → Bool} (h1 : L.all (fun c => isCode c || P c) = true) (h2 : ∀ c ∈ L.filter isCode, P c = true) : L.all P = true := by
  refine List.all_eq_true.mpr fun c hc => ?_
  have h := List.all_eq_true.mp h1 c hc
  rcases Bool.eq_false_or_eq_true (isCode c) with hi | hi
  · exact h2 c (List.mem_filter.mpr ⟨hc, hi⟩)
  · simpa [hi] using h
set_option maxRecDepth 65536 in
theorem w_c0 : (Jvm.Cond.code x code maxLocals ret).before args0 about1 = true := code_word (m := ⟨1, 2⟩) (meth := k1m2) (c := k1c2) (by decide +kernel) rfl rfl rfl (by decide +kernel)
set_option maxRecDepth 65536 in
theorem w_c1 : (Jvm.Cond.code ({ cls := "com/example/punctilio/punctilio/engine/PixelMarks", name := "<init>", desc := "(I)V" } : Jvm.MethodName) prog_11_method_1_code (2 : Nat) (Option.none : Option Jvm.ClassFile.FieldType)).before args0 about1 = true := code_word (m := ⟨2, 0⟩) (meth := k2m0) (c := k2c0) (by decide +kernel) rfl rfl rfl (by decide +kernel)
set_option maxRecDepth 65536 in
theorem w_c2 : (Jvm.Cond.code ({ cls := "java/lang/Object", name := "<init>", desc := "()V" } : Jvm.MethodName) object_method_1_code (1 : Nat) (Option.none : Option Jvm.ClassFile.FieldType)).before args0 about1 = true := code_word (m := ⟨0, 0⟩) (meth := k0m0) (c := k0c0) (by decide +kernel) rfl rfl rfl (by decide +kernel)
set_option maxRecDepth 65536 in
theorem w_c3 : (Jvm.Cond.code ({ cls := "com/example/punctilio/punctilio/engine/PixelMarks", name := "unmark", desc := "(I)V" } : Jvm.MethodName) prog_11_method_4_code (2 : Nat) (Option.none : Option Jvm.ClassFile.FieldType)).before args0 about1 = true := code_word (m := ⟨2, 3⟩) (meth := k2m3) (c := k2c3) (by decide +kernel) rfl rfl rfl (by decide +kernel)
set_option maxRecDepth 65536 in
theorem w_c4 : (Jvm.Cond.code ({ cls := "com/example/punctilio/punctilio/engine/PixelMarks", name := "has", desc := "(I)Z" } : Jvm.MethodName) prog_11_method_2_code (2 : Nat) (Option.some Jvm.ClassFile.FieldType.boolean)).before args0 about1 = true := code_word (m := ⟨2, 1⟩) (meth := k2m1) (c := k2c1) (by decide +kernel) rfl rfl rfl (by decide +kernel)
set_option maxRecDepth 65536 in
theorem w_c5 : (Jvm.Cond.code ({ cls := "com/example/punctilio/punctilio/engine/PixelMarksUnmarkPinLaw", name := "wasMarked", desc := "(IIIZZ)Z" } : Jvm.MethodName) method_2_code (5 : Nat) (Option.some Jvm.ClassFile.FieldType.boolean)).before args0 about1 = true := code_word (m := ⟨1, 1⟩) (meth := k1m1) (c := k1c1) (by decide +kernel) rfl rfl rfl (by decide +kernel)
set_option maxRecDepth 65536 in
theorem w_c6 : (Jvm.Cond.code ({ cls := "com/example/punctilio/punctilio/engine/PixelMarks", name := "mark", desc := "(I)V" } : Jvm.MethodName) prog_11_method_3_code (2 : Nat) (Option.none : Option Jvm.ClassFile.FieldType)).before args0 about1 = true := code_word (m := ⟨2, 2⟩) (meth := k2m2) (c := k2c2) (by decide +kernel) rfl rfl rfl (by decide +kernel)
def codes1 : List Jvm.Cond := [Jvm.Cond.code x code maxLocals ret, Jvm.Cond.code ({ cls := "com/example/punctilio/punctilio/engine/PixelMarks", name := "<init>", desc := "(I)V" } : Jvm.MethodName) prog_11_method_1_code (2 : Nat) (Option.none : Option Jvm.ClassFile.FieldType), Jvm.Cond.code ({ cls := "java/lang/Object", name := "<init>", desc := "()V" } : Jvm.MethodName) object_method_1_code (1 : Nat) (Option.none : Option Jvm.ClassFile.FieldType), Jvm.Cond.code ({ cls := "com/example/punctilio/punctilio/engine/PixelMarks", name := "unmark", desc := "(I)V" } : Jvm.MethodName) prog_11_method_4_code (2 : Nat) (Option.none : Option Jvm.ClassFile.FieldType), Jvm.Cond.code ({ cls := "com/example/punctilio/punctilio/engine/PixelMarks", name := "has", desc := "(I)Z" } : Jvm.MethodName) prog_11_method_2_code (2 : Nat) (Option.some Jvm.ClassFile.FieldType.boolean), Jvm.Cond.code ({ cls := "com/example/punctilio/punctilio/engine/PixelMarksUnmarkPinLaw", name := "wasMarked", desc := "(IIIZZ)Z" } : Jvm.MethodName) method_2_code (5 : Nat) (Option.some Jvm.ClassFile.FieldType.boolean), Jvm.Cond.code ({ cls := "com/example/punctilio/punctilio/engine/PixelMarks", name := "mark", desc := "(I)V" } : Jvm.MethodName) prog_11_method_3_code (2 : Nat) (Option.none : Option Jvm.ClassFile.FieldType)]
set_option maxRecDepth 65536 in
theorem codes_eq : words1.filter isCode = codes1 := rfl
theorem w_codes : ∀ c ∈ words1.filter isCode, c.before args0 about1 = true := by
  rw [codes_eq]
  intro c hc
  simp only [codes1, List.mem_cons, List.not_mem_nil, or_false] at hc
  rcases hc with rfl | rfl | rfl | rfl | rfl | rfl | rfl
  · exact w_c0
  · exact w_c1
  · exact w_c2
  · exact w_c3
  · exact w_c4
  · exact w_c5
  · exact w_c6
set_option maxRecDepth 65536 in
theorem w_t1 : (words1.take 24).all (fun c => isCode c || c.before args0 about1) = true := by decide +kernel
set_option maxRecDepth 65536 in
theorem w_t2 : (words1.drop 24).all (fun c => isCode c || c.before args0 about1) = true := by decide +kernel
theorem w_tables : (allAtoms (Jvm.Cond.code x code maxLocals ret :: tables_1)).before args0 about1 = true := by
  rw [allAtoms_all]
  show words1.all (fun c => c.before args0 about1) = true
  refine all_split ?_ w_codes
  rw [← List.take_append_drop 24 words1, List.all_append, w_t1, w_t2]
  rfl
set_option maxRecDepth 65536 in
theorem w_case : (Jvm.Cond.and given_1 narrow_1).before args0 about1 = true := by decide +kernel
theorem w_applies : (headSpec (Jvm.Cond.code x code maxLocals ret :: tables_1) room_1).applies x e0.platform about1 = true :=
  (Spec.applies_iff w_frames).mpr ⟨w_running, w_runnable, w_alone, w_named, w_hears, w_ripe, w_room, w_tables⟩
theorem atStart : AtStart classFile x code maxLocals ret World_1 tables_1 room_1 Calls_1 rest_1 Pre_1 launch0 p0 e0 about1 theMethod args0 below0 :=
  ⟨lists_1, trivial, launch0.admits_env _ _ _, launch0.least_env, fairChoices_fair.cas, fairChoices_fair.clock, w_frames, w_args, w_heap, w_applies, trivial, trivial, w_case⟩
end start1
theorem witness_1 : WitnessClaimed_1 := ⟨start1.p0, start1.e0, start1.about1, start1.theMethod, start1.args0, start1.below0, start1.atStart⟩
end Jvm.Pilot.@@N@@
