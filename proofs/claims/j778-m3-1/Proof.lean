import JvmDerived
import JvmDerived.Pilot.@@N@@Statement
import JvmDerived.Pilot.@@N@@Code
set_option linter.unusedVariables false
set_option linter.unusedSimpArgs false
namespace Jvm.RoadKit
open Sem ClassFile Op Lib Jvm.Stand Jvm.Free Jvm.LawKit
section New
variable {p : Program} {l : Launch} {e : Env} {R : Room} {s : State} {m : MethodId} {args : Array Value} {below : List Frame} {meth : Method} {c : Code} {T : State} {locs : List Loc} {cells slots : Nat}
theorem retI (X : Stand p l e R s m args below meth c T locs cells slots) (hx : p.tables.exec = Jvm.exec) {pc : Nat} {Ls : Array Slot} {z : Int32} {rest : List Value} (hret : meth.sig.returnType = some .int) (hd : decode c.code pc = .ok (.ireturn, 1)) {fs : List Frame}
    (hl : ∀ (f : JFrame) (acts : List Action), f.method = m → f.locked = none → f.entered = [] → (doReturn e (T.setTop f) acts (some (.int z))).1 = T.setFrames fs) : Steps p.tables e below (T.setTop (mkF m pc Ls (.int z :: rest))) (T.setFrames fs) := by
  have hm' : T.vm.method? m = some meth := X.method'
  have hn : narrow .int (.int z) = .int z := rfl
  show Steps p.tables e below (T.setTop { method := m, pc := pc, locals := Ls, stack := _ :: rest, locked := none }) _
  jvm_step X.here [X.here.top, hx, hd, hm', hret, hn]
  first | (intro acts; rw [hl _ acts rfl rfl rfl]) | rw [hl _ _ rfl rfl rfl]
  exact Steps.refl _
theorem own_lremM {g : JFrame} {target : State} (X : Stand p l e R s m args below meth c T locs cells slots) (hx : p.tables.exec = Jvm.exec) (hg : g.method = m) {x y : Int64} {rest : List Value} (hd : decode c.code g.pc = .ok (.lrem, 1)) (hs : g.stack = .long y :: .long x :: rest) (hy : y ≠ 0)
    (hr : Steps p.tables e below (T.setTop { g with pc := g.pc + 1, stack := .long (x % y) :: rest }) target) : Steps p.tables e below (T.setTop g) target := by
  have q : x - x / y * y = x % y := lrem_mod x y
  exact XS.lrem X.here hx hg hd hs hy (by rw [q]; exact hr)
end New
end Jvm.RoadKit
namespace Jvm.RoadKit
open Sem ClassFile Op Lib Jvm.Stand Jvm.Free Jvm.LawKit
section OwnA
variable {p : Program} {l : Launch} {e : Env} {R : Room} {s : State} {m : MethodId} {args : Array Value} {below : List Frame} {meth : Method} {c : Code} {T : State} {locs : List Loc} {cells slots : Nat} {Z : State} {a0 : Array Value} {h h' : Heap} {a b : Addr} {ty : FieldType} {n : Nat} {G : Nat → Value}
def own_upd {α : Type} (g : Nat → α) (k : Nat) (x : α) (i : Nat) : α := if i = k then x else g i
def own_zI (_ : Nat) : Int32 := 0
def own_zJ (_ : Nat) : Int64 := 0
def own_A (Z : State) (h : Heap) (a : Addr) (ty : FieldType) (n : Nat) (G : Nat → Value) : Prop := ∃ c : Cell, Arr Z h a c ty ∧ c.slots.size = n ∧ ∀ i, i < n → c.slots[i]? = some (G i) ∧ fits ty (G i) = true
theorem own_A.lt (F : own_A Z h a ty n G) : a < h.size := by obtain ⟨c, A, -⟩ := F; exact A.lt
theorem own_A.ext (F : own_A Z h a ty n G) (E : Ext h h') : own_A Z h' a ty n G := by obtain ⟨c, A, r⟩ := F; exact ⟨c, A.ext E, r⟩
theorem own_A.other {sl : Nat} {v : Value} (F : own_A Z h b ty n G) (W : Wr h h' a sl v) (q : b ≠ a) : own_A Z h' b ty n G := by obtain ⟨c, A, r⟩ := F; exact ⟨c, A.other W q, r⟩
theorem own_A.keep {ws : List Addr} (F : own_A Z h a ty n G) (K : Keep h h' ws) (q : a ∉ ws) : own_A Z h' a ty n G := by obtain ⟨c, A, r⟩ := F; exact ⟨c, ⟨K.2.1 a c A.1 q, A.2⟩, r⟩
theorem own_A.new {k : ClassId} {z : Int32} (A : Arr Z h a (newA k ty z) ty) (q : z.toNatClampNeg = n) (hG : ∀ i, G i = defaultValue ty) : own_A Z h a ty n G :=
  ⟨_, A, by rw [sz_new, q], fun i hi => ⟨by rw [hG]; rw [← q] at hi; simp [newA, hi], by rw [hG]; cases ty <;> rfl⟩⟩
theorem own_A.set {k : Nat} {v : Value} (F : own_A Z h a ty n G) (W : Wr h h' a k v) (hk : k < n) (hf : fits ty v = true) : own_A Z h' a ty n (own_upd G k v) := by
  obtain ⟨c, A, q, r⟩ := F
  refine ⟨c.setSlot k v, A.same W, by rw [sz_set, q], fun i hi => ?_⟩
  by_cases e : i = k
  · subst e
    exact ⟨by simp [Cell.setSlot, own_upd, q, hk], by simpa [own_upd] using hf⟩
  · have r1 := r i hi
    have r2 : (c.setSlot k v).slots[i]? = c.slots[i]? := Array.getElem?_setIfInBounds_ne (Ne.symm e)
    have r3 : own_upd G k v i = G i := if_neg e
    rw [r2, r3]; exact r1
theorem own_upd_int (g : Nat → Int32) (k : Nat) (x : Int32) : own_upd (fun i => Value.int (g i)) k (.int x) = fun i => Value.int (own_upd g k x i) := by funext i; unfold own_upd; split <;> rfl
theorem own_upd_long (g : Nat → Int64) (k : Nat) (x : Int64) : own_upd (fun i => Value.long (g i)) k (.long x) = fun i => Value.long (own_upd g k x i) := by funext i; unfold own_upd; split <;> rfl
theorem own_inb {c : Cell} {j : Int32} {k : Nat} (q : c.slots.size = n) (hj0 : ¬ j < 0) (hk : j.toNatClampNeg = k) (hkn : k < n) : ¬ (j < 0 ∨ c.slots.size ≤ j.toNatClampNeg) := fun y => y.elim hj0 fun z => by rw [q, hk] at z; exact absurd hkn (Nat.not_lt.mpr z)
theorem own_stI {g0 : Nat → Int32} (X : Stand p l e R s m args below meth c T locs cells slots) (hx : p.tables.exec = Jvm.exec) (hZ : Z.Warmed39 s.vm) (eT : T.heap = h) (F : own_A Z h a .int n (fun i => .int (g0 i))) {j x : Int32} {k : Nat} (hj0 : ¬ j < 0) (hk : j.toNatClampNeg = k) (hkn : k < n) {g : JFrame} (hg : g.method = m) {rest : List Value} (hs : g.stack = .int x :: .int j :: .ref a :: rest) (hd : decode c.code g.pc = .ok (.iastore, 1)) :
    ∃ T' h', Stand p l e R s m args below meth c T' (locs ++ [⟨a, j.toNatClampNeg⟩]) cells slots ∧ T'.heap = h' ∧ Wr h h' a j.toNatClampNeg (.int x) ∧ own_A Z h' a .int n (fun i => .int (own_upd g0 k x i)) ∧ ∀ target, Steps p.tables e below (T'.setTop { g with pc := g.pc + 1, stack := rest }) target → Steps p.tables e below (T.setTop g) target := by
  obtain ⟨cl, A, q, r⟩ := id F
  obtain ⟨T', h', X', e', W, st⟩ := stI X hx hZ eT A (j := j) (x := x) (own_inb q hj0 hk hkn) hg hs hd
  exact ⟨T', h', X', e', W, own_upd_int g0 k x ▸ hk ▸ F.set W (by rw [hk]; exact hkn) rfl, st⟩
theorem own_stJ {g0 : Nat → Int64} (X : Stand p l e R s m args below meth c T locs cells slots) (hx : p.tables.exec = Jvm.exec) (hZ : Z.Warmed39 s.vm) (eT : T.heap = h) (F : own_A Z h a .long n (fun i => .long (g0 i))) {j : Int32} {x : Int64} {k : Nat} (hj0 : ¬ j < 0) (hk : j.toNatClampNeg = k) (hkn : k < n) {g : JFrame} (hg : g.method = m) {rest : List Value} (hs : g.stack = .long x :: .int j :: .ref a :: rest) (hd : decode c.code g.pc = .ok (.lastore, 1)) :
    ∃ T' h', Stand p l e R s m args below meth c T' (locs ++ [⟨a, j.toNatClampNeg⟩]) cells slots ∧ T'.heap = h' ∧ Wr h h' a j.toNatClampNeg (.long x) ∧ own_A Z h' a .long n (fun i => .long (own_upd g0 k x i)) ∧ ∀ target, Steps p.tables e below (T'.setTop { g with pc := g.pc + 1, stack := rest }) target → Steps p.tables e below (T.setTop g) target := by
  obtain ⟨cl, A, q, r⟩ := id F
  obtain ⟨T', h', X', e', W, st⟩ := stJ X hx hZ eT A (j := j) (x := x) (own_inb q hj0 hk hkn) hg hs hd
  exact ⟨T', h', X', e', W, own_upd_long g0 k x ▸ hk ▸ F.set W (by rw [hk]; exact hkn) rfl, st⟩
theorem own_stB {g0 : Nat → Int32} (X : Stand p l e R s m args below meth c T locs cells slots) (hx : p.tables.exec = Jvm.exec) (hZ : Z.Warmed39 s.vm) (eT : T.heap = h) (F : own_A Z h a .byte n (fun i => .int (g0 i))) {j x : Int32} {k : Nat} (hj0 : ¬ j < 0) (hk : j.toNatClampNeg = k) (hkn : k < n) {g : JFrame} (hg : g.method = m) {rest : List Value} (hs : g.stack = .int x :: .int j :: .ref a :: rest) (hd : decode c.code g.pc = .ok (.bastore, 1)) :
    ∃ T' h', Stand p l e R s m args below meth c T' (locs ++ [⟨a, j.toNatClampNeg⟩]) cells slots ∧ T'.heap = h' ∧ Wr h h' a j.toNatClampNeg (.int x.toInt8.toInt32) ∧ own_A Z h' a .byte n (fun i => .int (own_upd g0 k x.toInt8.toInt32 i)) ∧ ∀ target, Steps p.tables e below (T'.setTop { g with pc := g.pc + 1, stack := rest }) target → Steps p.tables e below (T.setTop g) target := by
  obtain ⟨cl, A, q, r⟩ := id F
  obtain ⟨T', h', X', e', W, st⟩ := stB X hx hZ eT A (j := j) (x := x) (own_inb q hj0 hk hkn) hg hs hd
  have hfb : fits .byte (.int (nar .byte x)) = true := fits_nar_byte x
  exact ⟨T', h', X', e', W, own_upd_int g0 k _ ▸ hk ▸ F.set W (by rw [hk]; exact hkn) hfb, st⟩
theorem own_ldI {g0 : Nat → Int32} (X : Stand p l e R s m args below meth c T locs cells slots) (hx : p.tables.exec = Jvm.exec) (hZ : Z.Warmed39 s.vm) (eT : T.heap = h) (F : own_A Z h a .int n (fun i => .int (g0 i))) {j : Int32} {k : Nat} (hj0 : ¬ j < 0) (hk : j.toNatClampNeg = k) (hkn : k < n) {g : JFrame} (hg : g.method = m) {rest : List Value} (hs : g.stack = .int j :: .ref a :: rest) (hd : decode c.code g.pc = .ok (.iaload, 1)) {target : State}
    (hr : Steps p.tables e below (T.setTop { g with pc := g.pc + 1, stack := .int (g0 k) :: rest }) target) : Steps p.tables e below (T.setTop g) target := by
  obtain ⟨cl, A, q, r⟩ := F
  exact X.iaload hx (j := j) (v := .int (g0 k)) (by rw [eT]; exact A.1) (State.isArrayOf_alike hZ.alike A.2.1) A.2.2 (own_inb q hj0 hk hkn) (by rw [hk]; exact (r k hkn).1) hg hs hd _ hr
theorem own_ldJ {g0 : Nat → Int64} (X : Stand p l e R s m args below meth c T locs cells slots) (hx : p.tables.exec = Jvm.exec) (hZ : Z.Warmed39 s.vm) (eT : T.heap = h) (F : own_A Z h a .long n (fun i => .long (g0 i))) {j : Int32} {k : Nat} (hj0 : ¬ j < 0) (hk : j.toNatClampNeg = k) (hkn : k < n) {g : JFrame} (hg : g.method = m) {rest : List Value} (hs : g.stack = .int j :: .ref a :: rest) (hd : decode c.code g.pc = .ok (.laload, 1)) {target : State}
    (hr : Steps p.tables e below (T.setTop { g with pc := g.pc + 1, stack := .long (g0 k) :: rest }) target) : Steps p.tables e below (T.setTop g) target := by
  obtain ⟨cl, A, q, r⟩ := F
  exact X.laload hx (j := j) (v := .long (g0 k)) (by rw [eT]; exact A.1) (State.isArrayOf_alike hZ.alike A.2.1) A.2.2 (own_inb q hj0 hk hkn) (by rw [hk]; exact (r k hkn).1) hg hs hd _ hr
theorem own_ldB {g0 : Nat → Int32} (X : Stand p l e R s m args below meth c T locs cells slots) (hx : p.tables.exec = Jvm.exec) (hZ : Z.Warmed39 s.vm) (eT : T.heap = h) (F : own_A Z h a .byte n (fun i => .int (g0 i))) {j : Int32} {k : Nat} (hj0 : ¬ j < 0) (hk : j.toNatClampNeg = k) (hkn : k < n) {g : JFrame} (hg : g.method = m) {rest : List Value} (hs : g.stack = .int j :: .ref a :: rest) (hd : decode c.code g.pc = .ok (.baload, 1)) {target : State}
    (hr : Steps p.tables e below (T.setTop { g with pc := g.pc + 1, stack := .int (g0 k) :: rest }) target) : Steps p.tables e below (T.setTop g) target := by
  obtain ⟨cl, A, q, r⟩ := F
  exact X.baloadBytes hx (j := j) (v := .int (g0 k)) (by rw [eT]; exact A.1) (State.isArrayOf_alike hZ.alike A.2.1) A.2.2 (own_inb q hj0 hk hkn) (by rw [hk]; exact (r k hkn).1) hg hs hd _ hr
theorem own_ldR {G : Nat → Value} (X : Stand p l e R s m args below meth c T locs cells slots) (hx : p.tables.exec = Jvm.exec) (hZ : Z.Warmed39 s.vm) (eT : T.heap = h) (F : own_A Z h a ty n G) (hty : ty.isReference = true) {j : Int32} {k : Nat} {v : Value} (hv : G k = v) (hj0 : ¬ j < 0) (hk : j.toNatClampNeg = k) (hkn : k < n) {g : JFrame} (hg : g.method = m) {rest : List Value} (hs : g.stack = .int j :: .ref a :: rest) (hd : decode c.code g.pc = .ok (.aaload, 1)) {target : State}
    (hr : Steps p.tables e below (T.setTop { g with pc := g.pc + 1, stack := v :: rest }) target) : Steps p.tables e below (T.setTop g) target := by
  obtain ⟨cl, A, q, r⟩ := F
  exact X.aaload hx (j := j) (v := v) (by rw [eT]; exact A.1) (State.isArrayOf_alike hZ.alike A.2.1) hty A.2.2 (own_inb q hj0 hk hkn) (by rw [hk, ← hv]; exact (r k hkn).1) hg hs hd _ hr
theorem own_len (X : Stand p l e R s m args below meth c T locs cells slots) (hx : p.tables.exec = Jvm.exec) (hZ : Z.Warmed39 s.vm) (eT : T.heap = h) (F : own_A Z h a ty n G) {z : Int32} (hz : n.toInt32 = z) {g : JFrame} (hg : g.method = m) {rest : List Value} (hs : g.stack = .ref a :: rest) (hd : decode c.code g.pc = .ok (.arraylength, 1)) {target : State}
    (hr : Steps p.tables e below (T.setTop { g with pc := g.pc + 1, stack := .int z :: rest }) target) : Steps p.tables e below (T.setTop g) target := by
  obtain ⟨cl, A, q, r⟩ := F
  exact X.arraylength hx (by rw [eT]; exact A.1) (State.isArrayOf_alike hZ.alike A.2.1) hg hs hd _ (by rw [q, hz]; exact hr)
theorem own_newP {aty : ArrayType} (X : Stand p l e R s m args below meth c T locs cells slots) (hx : p.tables.exec = Jvm.exec) (hZ : Z.Warmed39 s.vm) (w : (Cond.arrayClass (newarray.typeOf aty)).before a0 Z = true) (eT : T.heap = h) {g : JFrame} (hg : g.method = m) (hd : decode c.code g.pc = .ok (.newarray aty, 2)) {z : Int32} {rest : List Value} (hs : g.stack = .int z :: rest)
    (hn : ¬ z < 0) (hzn : z.toNatClampNeg = n) {G : Nat → Value} (hG : ∀ i, G i = defaultValue (newarray.typeOf aty)) {cap : Nat} (hcap : n ≤ cap) (hb : cap * 8 ≤ 536870912) (hc : cells + 1 ≤ R.cells) (hl : slots + cap ≤ R.slots) :
    ∃ (T' : State) (h' : Heap) (b : Addr), b = h.size ∧ Stand p l e R s m args below meth c T' locs (cells + 1) (slots + cap) ∧ T'.heap = h' ∧ Ext h h' ∧ own_A Z h' b (newarray.typeOf aty) n G ∧
      ∀ target, Steps p.tables e below (T'.setTop { g with pc := g.pc + 2, stack := .ref b :: rest }) target → Steps p.tables e below (T.setTop g) target := by
  obtain ⟨T', h', cA, X', e', E', A', st⟩ := newP X hx hZ w eT hg hd hs hn (cap := cap) (by rw [hzn]; exact hcap) hb hc hl
  exact ⟨T', h', _, rfl, X', e', E', own_A.new A' hzn hG, st⟩
theorem own_newPE {aty : ArrayType} (X : Stand p l e R s m args below meth c T locs cells slots) (hx : p.tables.exec = Jvm.exec) (hZ : Z.Warmed39 s.vm) (w : (Cond.arrayClass (newarray.typeOf aty)).before a0 Z = true) (eT : T.heap = h) {g : JFrame} (hg : g.method = m) (hd : decode c.code g.pc = .ok (.newarray aty, 2)) {z : Int32} {rest : List Value} (hs : g.stack = .int z :: rest)
    (hn : ¬ z < 0) (hzn : z.toNatClampNeg = n) {G : Nat → Value} (hG : ∀ i, G i = defaultValue (newarray.typeOf aty)) {cap : Nat} (hcap : n ≤ cap) (hb : cap * 8 ≤ 536870912) (hc : cells + 1 ≤ R.cells) (hl : slots + cap ≤ R.slots) {ad : String} (had : "[" ++ (newarray.typeOf aty).toString = ad) :
    ∃ (T' : State) (h' : Heap) (b : Addr), b = h.size ∧ Stand p l e R s m args below meth c T' locs (cells + 1) (slots + cap) ∧ T'.heap = h' ∧ Ext h h' ∧ own_A Z h' b (newarray.typeOf aty) n G ∧ Exa Z h' b ad ∧
      ∀ target, Steps p.tables e below (T'.setTop { g with pc := g.pc + 2, stack := .ref b :: rest }) target → Steps p.tables e below (T.setTop g) target := by
  obtain ⟨T', h', cA, X', e', E', A', B', st⟩ := newPE X hx hZ w eT hg hd hs hn (cap := cap) (by rw [hzn]; exact hcap) hb hc hl had
  exact ⟨T', h', _, rfl, X', e', E', own_A.new A' hzn hG, B', st⟩
theorem own_clone (X : Stand p l e R s m args below meth c T locs cells slots) (hx : p.tables.exec = Jvm.exec) (hZ : Z.Warmed39 s.vm) {own ad : String} {index : Nat} (hown : s.vm.findClass own = some m.cls)
    (w1 : (Cond.methodLink own index ⟨ad, "clone", "()Ljava/lang/Object;"⟩).before a0 Z = true) (w2 : (Cond.sameMethod ad "java/lang/Object" "clone" "()Ljava/lang/Object;").before a0 Z = true) (w3 : (Cond.native ⟨"java/lang/Object", "clone", "()Ljava/lang/Object;"⟩).before a0 Z = true)
    (w4 : (Cond.instanceMethod ⟨"java/lang/Object", "clone", "()Ljava/lang/Object;"⟩).before a0 Z = true) (w5 : (Cond.selects ad ⟨ad, "clone", "()Ljava/lang/Object;"⟩ ⟨"java/lang/Object", "clone", "()Ljava/lang/Object;"⟩).before a0 Z = true) (w6 : (Cond.castable ad "java/lang/Cloneable").before a0 Z = true)
    (eT : T.heap = h) (F : own_A Z h a ty n G) (E : Exa Z h a ad) {g : JFrame} (hg : g.method = m) (hsize : g.locals.size = c.maxLocals) {rest : List Value} (hs : g.stack = .ref a :: rest) (hd : decode c.code g.pc = .ok (.invokevirtual index, 3))
    (hf : 1 ≤ R.frames) {W cap : Nat} (hW : 2 * g.monitorRoom + (rest.map fun v => v.category).sum ≤ W) (hl : W + 14 ≤ R.locals) (hcap : n ≤ cap) (hc : cells + 1 ≤ R.cells) (hsl : slots + cap ≤ R.slots) :
    ∃ (T' : State) (h' : Heap) (b : Addr), b = h.size ∧ Stand p l e R s m args below meth c T' locs (cells + 1) (slots + cap) ∧ T'.heap = h' ∧ Ext h h' ∧ own_A Z h' b ty n G ∧ Exa Z h' b ad ∧
      ∀ target, Steps p.tables e below (T'.setTop { g with pc := g.pc + 3, stack := .ref b :: rest }) target → Steps p.tables e below (T.setTop g) target := by
  obtain ⟨cl, A, q, r⟩ := F
  have FC : FitC Z cl := fitC_of A fun i hi v hv => by
    have r1 := r i (by rw [← q]; exact hi)
    rw [r1.1] at hv; cases hv; exact r1.2
  obtain ⟨T', h', X', e', ex, A', E', st⟩ := cloneA X hx hZ hown w1 w2 w3 w4 w5 w6 eT A E FC hg hsize hs hd hf hW hl (by rw [q]; exact hcap) hc hsl
  exact ⟨T', h', _, rfl, X', e', ex, ⟨cloneOf cl, A', q, r⟩, E', st⟩
theorem own_A.congr {G' : Nat → Value} (F : own_A Z h a ty n G) (q : ∀ i, i < n → G i = G' i) : own_A Z h a ty n G' := by
  obtain ⟨c, A, s, r⟩ := F
  exact ⟨c, A, s, fun i hi => by rw [← q i hi]; exact r i hi⟩
theorem own_A_plain (F : own_A Z h a ty n G) : ∀ c : Cell, h[a]? = some c → c.vm.isStatics = false := fun c hc => by
  obtain ⟨cl, A, -⟩ := F
  cases hc.symm.trans A.1
  exact A.plain
theorem own_E_plain {C : String} (F : Exa Z h a C) : ∀ c : Cell, h[a]? = some c → c.vm.isStatics = false := fun c hc => by
  obtain ⟨cl, k, h1, -, -, h4, -⟩ := F
  cases hc.symm.trans h1
  exact h4
theorem own_sta_keep {C f d : String} {v : Value} {ws : List Addr} (F : Sta Z h C f d v) (K : Keep h h' ws) (q : ∀ x ∈ ws, ∀ c : Cell, h[x]? = some c → c.vm.isStatics = false) : Sta Z h' C f d v := by
  obtain ⟨cf, i, k, f, st, cell, h1, h2, h3, h4, h5, h6, h7⟩ := F
  exact ⟨cf, i, k, f, st, cell, h1, h2, h3, h4, K.2.1 st cell h5 (fun z => by rw [q st z cell h5] at h6; cases h6), h6, h7⟩
end OwnA
end Jvm.RoadKit
namespace Jvm.Pilot.@@N@@
open Jvm Jvm.ClassFile Sem Op Lib Jvm.Free Jvm.Stand Jvm.LawKit Jvm.RoadKit Bundle Jvm.Pilot.@@N@@.Jvm.D
theorem d1_0 : decode prog_17_method_2_code 0 = .ok (.getstatic 7, 3) := by decide +kernel
theorem d1_3 : decode prog_17_method_2_code 3 = .ok (.iconst 1, 1) := by decide +kernel
theorem d1_4 : decode prog_17_method_2_code 4 = .ok (.iadd, 1) := by decide +kernel
theorem d1_5 : decode prog_17_method_2_code 5 = .ok (.bipush 16, 2) := by decide +kernel
theorem d1_7 : decode prog_17_method_2_code 7 = .ok (.imul, 1) := by decide +kernel
theorem d1_8 : decode prog_17_method_2_code 8 = .ok (.iconst 1, 1) := by decide +kernel
theorem d1_9 : decode prog_17_method_2_code 9 = .ok (.iadd, 1) := by decide +kernel
theorem d1_10 : decode prog_17_method_2_code 10 = .ok (.newarray .long, 2) := by decide +kernel
theorem d1_12 : decode prog_17_method_2_code 12 = .ok (.areturn, 1) := by decide +kernel
theorem pn_1 : plainName "com/example/admission/admission/Lanes" = true := by first | (simp [plainName, overriddenIn]; done) | decide +kernel
theorem ef_1 (m : MethodId)  : entryFrame m #[] 0 = mkF m 0 #[] [] := by first | (simp [entryFrame, mkF, argsToLocals, Value.category]; done) | rfl
def Q_1 (Z : State)   (h0 : Heap) (n0 : Nat) (v : Option Value) (h : Heap) (L : List Loc) : Prop := ∃ r : Addr, v = some (.ref r) ∧ Fr n0 L ∧ h0.size ≤ r ∧ Keep h0 h [] ∧ own_A Z h r .long 273 (fun i => .long (own_zJ i))
set_option maxRecDepth 65536 in
set_option maxHeartbeats 40000000 in
theorem rm_1 (l : Launch) (Z : State) (a0 : Array Value) (hw : ∀ d ∈ tables_1, d.before a0 Z = true) (ws : List Jvm.Cond)   (h0 : Heap) (n0 : Nat) (Z0 : n0 ≤ h0.size) (S_COUNT : Sta Z h0 "com/example/admission/admission/Lanes" "COUNT" "I" (.int (16 : Int32))) :
    MetFree l (⟨"com/example/admission/admission/Lanes", "words", "()[J"⟩ : MethodName) (head1 (Jvm.Cond.code (⟨"com/example/admission/admission/Lanes", "words", "()[J"⟩ : MethodName) prog_17_method_2_code 0 (some (.array .long)) :: ws) ({ frames := 0, cells := 1, slots := 273, locals := 0 } : Room)) (fun a U => a = #[] ∧ Z.Warmed39 U.vm ∧ U.heap = h0) (fun _ _ _ _ _ => True) (fun _ U o U' => ∃ v L, o = .returned v ∧ Q_1 Z h0 n0 v U'.heap L ∧ FrameEnd U o U' L ({ frames := 0, cells := 1, slots := 273, locals := 0 } : Room).cells ({ frames := 0, cells := 1, slots := 273, locals := 0 } : Room).slots) := by
  refine MetFree.of_bodySF (plainFor_of_name pn_1) hisR ?_
  intro p e s m args below meth c s₁ Bd hml0 hP hK
  obtain ⟨rfl, hZ, hh⟩ := hP
  have hx := Bd.exec
  have hby := Bd.bytes
  have hml : c.maxLocals = 0 := hml0
  have hown : s.vm.findClass "com/example/admission/admission/Lanes" = some m.cls := findClass_of_methodNamed Bd.named
  have hnm := (name_of_methodNamed Bd.named Bd.method).1
  have X0 : Stand p l e ({ frames := 0, cells := 1, slots := 273, locals := 0 } : Room) s m #[] below meth c s₁ [] 0 0 := Stand.of_body Bd
  have e0 : s₁.heap = h0 := by rw [← hh, Bd.state]; rfl
  have N0 := Fr.nil n0
  have K0 : Keep h0 h0 [] := Keep.refl h0 _
  have pre0 : ∀ t, Steps p.tables e below (s₁.setTop (mkF m 0 #[] [])) t → Steps p.tables e below (s₁.setTop (entryFrame m #[] 0)) t := fun t k => castTop (ef_1 m ) k
  obtain ⟨T1, X1, e1, st1⟩ := getS2 X0 hx hZ hown (host := "") (Or.inl (hw _ (List.mem_of_getElem? (i := 4) rfl))) Via.refl e0 S_COUNT (g := (mkF m 0 #[] [])) rfl (hb hby d1_0)
  have pre2 : ∀ t, Steps p.tables e below (T1.setTop (mkF m 10 #[] [(.int ((((16 : Int32) + (1 : Int32)) * (16 : Int32)) + (1 : Int32)))])) t → Steps p.tables e below (s₁.setTop (entryFrame m #[] 0)) t := by
    intro t k
    refine pre0 t ?_
    show Steps p.tables e below (s₁.setTop (mkF m 0 #[] [])) _
    refine st1 _ ?_
    show Steps p.tables e below (T1.setTop (mkF m 3 #[] [(.int (16 : Int32))])) _
    refine XS.iconst X1.here hx rfl (hb hby d1_3) ?_
    show Steps p.tables e below (T1.setTop (mkF m 4 #[] [(.int (1 : Int32)), (.int (16 : Int32))])) _
    refine XS.iadd X1.here hx rfl (hb hby d1_4) rfl ?_
    show Steps p.tables e below (T1.setTop (mkF m 5 #[] [(.int ((16 : Int32) + (1 : Int32)))])) _
    refine XS.bipush X1.here hx rfl (hb hby d1_5) ?_
    show Steps p.tables e below (T1.setTop (mkF m 7 #[] [(.int (16 : Int32)), (.int ((16 : Int32) + (1 : Int32)))])) _
    refine XS.imul X1.here hx rfl (hb hby d1_7) rfl ?_
    show Steps p.tables e below (T1.setTop (mkF m 8 #[] [(.int (((16 : Int32) + (1 : Int32)) * (16 : Int32)))])) _
    refine XS.iconst X1.here hx rfl (hb hby d1_8) ?_
    show Steps p.tables e below (T1.setTop (mkF m 9 #[] [(.int (1 : Int32)), (.int (((16 : Int32) + (1 : Int32)) * (16 : Int32)))])) _
    refine XS.iadd X1.here hx rfl (hb hby d1_9) rfl ?_
    exact k
  obtain ⟨T3, h3, b3, gb3, X3, e3, E3, A3, st3⟩ := own_newP X1 hx hZ (hw _ (List.mem_of_getElem? (i := 6) rfl)) e1 (g := (mkF m 10 #[] [(.int ((((16 : Int32) + (1 : Int32)) * (16 : Int32)) + (1 : Int32)))])) rfl (hb hby d1_10) rfl (by decide) (n := 273) (by decide) (G := fun i => .long (own_zJ i)) (fun _ => rfl) (cap := 273) (by decide) (by decide) (by decide) (by decide)
  have sz_b3 : h0.size ≤ b3 := Nat.le_trans K0.1 (Nat.le_of_eq gb3.symm)
  have ge_b3 : n0 ≤ b3 := Nat.le_trans Z0 (Nat.le_of_eq gb3.symm)
  have sta_com_example_admission_admission_Lanes_COUNT_3 := S_COUNT.ext E3
  have K3 := K0.ext E3
  have Z3 := Nat.le_trans Z0 E3.1
  obtain ⟨fs, hr, hrun, hended, hW, hsame⟩ := X3.leave (v := some (.ref b3)) (fun h => by rw [Bd.returns] at h; cases h)
  refine ⟨_, _, pre2 _ ?_, hrun, hended, _, _, rfl, ?_, ⟨_, rfl⟩, hW, hsame.mono (by decide) (by decide)⟩
  · show Steps p.tables e below (T1.setTop (mkF m 10 #[] [(.int ((((16 : Int32) + (1 : Int32)) * (16 : Int32)) + (1 : Int32)))])) _
    refine st3 _ ?_
    show Steps p.tables e below (T3.setTop (mkF m 12 #[] [(.ref b3)])) _
    exact retOut X3 hx Bd.returns rfl (Or.inr (Or.inr (Or.inr (Or.inr ⟨rfl, rfl, rfl⟩)))) (hb hby d1_12) hr
  · show Q_1 Z h0 n0 _ T3.heap _
    rw [e3]
    exact ⟨b3, rfl, N0, sz_b3, K3, A3⟩
theorem own_lane (a : Int32) : ¬ ((((a &&& (2147483647 : Int32)) % (16 : Int32)) + (1 : Int32)) * (16 : Int32)) < 0 ∧ ((((a &&& (2147483647 : Int32)) % (16 : Int32)) + (1 : Int32)) * (16 : Int32)).toNatClampNeg < 273 ∧ ¬ ((((a &&& (2147483647 : Int32)) % (16 : Int32)) + (1 : Int32)) * (16 : Int32)) < 16 ∧ ¬ ((16 : Int32) * (16 : Int32)) < ((((a &&& (2147483647 : Int32)) % (16 : Int32)) + (1 : Int32)) * (16 : Int32)) ∧ (((((a &&& (2147483647 : Int32)) % (16 : Int32)) + (1 : Int32)) * (16 : Int32)) + (16 : Int32)) < (273 : Int32) := by
  have a1 := c_mask a 2147483647 31 (by decide) (by decide)
  have a2 := (c_irem (a &&& 2147483647) 16 16 (by decide)).1 (by omega)
  have a3 := c_iadd ((a &&& 2147483647) % 16) 1
  have r3 := rng32 (((a &&& 2147483647) % 16) + 1)
  have a4 := c_imul (((a &&& 2147483647) % 16) + 1) 16
  have r4 := rng32 ((((a &&& 2147483647) % 16) + 1) * 16)
  have a5 := c_iadd ((((a &&& 2147483647) % 16) + 1) * 16) 16
  have r5 := rng32 (((((a &&& 2147483647) % 16) + 1) * 16) + 16)
  have l0 : (0 : Int32).toInt = 0 := by decide
  have l1 : (1 : Int32).toInt = 1 := by decide
  have l16 : (16 : Int32).toInt = 16 := by decide
  have l273 : (273 : Int32).toInt = 273 := by decide
  have l256 : ((16 : Int32) * (16 : Int32)).toInt = 256 := by decide
  rw [l16] at a4 a5
  have n1 : ¬ ((((a &&& (2147483647 : Int32)) % (16 : Int32)) + (1 : Int32)) * (16 : Int32)) < 0 := by rw [Int32.lt_iff_toInt_lt]; omega
  have n2 := nat_of n1
  refine ⟨n1, by omega, ?_, ?_, ?_⟩
  · rw [Int32.lt_iff_toInt_lt]; omega
  · rw [Int32.lt_iff_toInt_lt]; omega
  · rw [Int32.lt_iff_toInt_lt]; omega
theorem own_any (a : Int32) : ¬ ((a &&& (2147483647 : Int32)) % (273 : Int32)) < 0 ∧ ((a &&& (2147483647 : Int32)) % (273 : Int32)).toNatClampNeg < 273 := by
  have a1 := c_mask a 2147483647 31 (by decide) (by decide)
  have a2 := (c_irem (a &&& 2147483647) 273 273 (by decide)).1 (by omega)
  have l0 : (0 : Int32).toInt = 0 := by decide
  have n1 : ¬ ((a &&& (2147483647 : Int32)) % (273 : Int32)) < 0 := by rw [Int32.lt_iff_toInt_lt]; omega
  have n2 := nat_of n1
  exact ⟨n1, by omega⟩
theorem own_eqi {t : Term} {n : Int32} {args : Array Value} {s : State} (h : (Cond.eq t (.int n)).value args s none s [] = some true) : t.eval args s none [] s = some (.int n) := Jvm.Free.NT.SwA.eq_int (Cond.before_iff.mpr h)
theorem pd_0 : parseMethodDescriptor "()[J" = some ⟨[], some (.array .long)⟩ := by decide +kernel
theorem pn_0 : plainName "com/example/admission/admission/LanesWordsPinLaw" = true := by first | (simp [plainName, overriddenIn]; done) | decide +kernel
theorem ef_0 (m : MethodId) (p0 : Int32) (p1 : Int32) : entryFrame m #[(.int p0), (.int p1)] maxLocals = mkF m 0 #[.val (.int p0), .val (.int p1), .unset, .unset, .unset, .unset, .unset, .unset, .unset, .unset] [] := by first | (simp [entryFrame, mkF, argsToLocals, Value.category, maxLocals]; done) | rfl
def f_0 (p0 : Int32) (p1 : Int32) : Int32 := let v7_38 : Int32 := ((16 : Int32) * (16 : Int32)); let v8_75 : Int32 := ((((p0 &&& (2147483647 : Int32)) % (16 : Int32)) + (1 : Int32)) * (16 : Int32)); let v9_110 : Int32 := ((p1 &&& (2147483647 : Int32)) % (273 : Int32)); let g_154 : Nat → Int64 := (own_upd own_zJ v8_75.toNatClampNeg (1 : Int64)); let g_166 : Nat → Int64 := (own_upd g_154 v9_110.toNatClampNeg ((g_154 v9_110.toNatClampNeg) + (2 : Int64))); (1 : Int32)
def Q_0 (Z : State) (p0 : Int32) (p1 : Int32)  (h0 : Heap) (n0 : Nat) (v : Option Value) (h : Heap) (L : List Loc) : Prop := v = some (.int (f_0 p0 p1)) ∧ Fr n0 L ∧ True
set_option maxRecDepth 65536 in
set_option maxHeartbeats 40000000 in
theorem rm_0 (l : Launch) (Z : State) (a0 : Array Value) (hw : ∀ d ∈ tables_1, d.before a0 Z = true) (ws : List Jvm.Cond) (p0 : Int32) (p1 : Int32)  (h0 : Heap) (n0 : Nat) (Z0 : n0 ≤ h0.size) (S_COUNT : Sta Z h0 "com/example/admission/admission/Lanes" "COUNT" "I" (.int (16 : Int32))) :
    MetFree l x (head1 (Jvm.Cond.code x code maxLocals ret :: ws) room_1) (fun a U => a = #[(.int p0), (.int p1)] ∧ Z.Warmed39 U.vm ∧ U.heap = h0) (fun _ _ _ _ _ => True) (fun _ U o U' => ∃ v L, o = .returned v ∧ Q_0 Z p0 p1 h0 n0 v U'.heap L ∧ FrameEnd U o U' L 2 546) := by
  refine MetFree.of_bodySF (plainFor_of_name pn_0) hisR ?_
  intro p e s m args below meth c s₁ Bd hml0 hP hK
  obtain ⟨rfl, hZ, hh⟩ := hP
  have hx := Bd.exec
  have hby := Bd.bytes
  have hml : c.maxLocals = 10 := hml0
  have hown : s.vm.findClass "com/example/admission/admission/LanesWordsPinLaw" = some m.cls := findClass_of_methodNamed Bd.named
  have hnm := (name_of_methodNamed Bd.named Bd.method).1
  have X0 : Stand p l e room_1 s m #[(.int p0), (.int p1)] below meth c s₁ [] 0 0 := Stand.of_body Bd
  have e0 : s₁.heap = h0 := by rw [← hh, Bd.state]; rfl
  have N0 := Fr.nil n0
  have K0 : Keep h0 h0 [] := Keep.refl h0 _
  have pre0 : ∀ t, Steps p.tables e below (s₁.setTop (mkF m 0 #[.val (.int p0), .val (.int p1), .unset, .unset, .unset, .unset, .unset, .unset, .unset, .unset] [])) t → Steps p.tables e below (s₁.setTop (entryFrame m #[(.int p0), (.int p1)] maxLocals)) t := fun t k => castTop (ef_0 m p0 p1) k
  obtain ⟨_, _, ⟨T1, L1, k1, n1⟩, -, X1, ⟨Lc1, hQ1, l1, y1, z1⟩, st1⟩ := Jvm.LawKit.callS X0 hx (y := (⟨"com/example/admission/admission/Lanes", "words", "()[J"⟩ : MethodName)) hown (mvT hZ (hw _ (List.mem_of_getElem? (i := 0) rfl))) (mvT hZ (hw _ (List.mem_of_getElem? (i := 1) rfl))) (mvT hZ (hw _ (List.mem_of_getElem? (i := 2) rfl))) (mvT hZ (hw _ (List.mem_of_getElem? (i := 3) rfl))) (by decide) (backOf (W := 0) (rm_1 l Z a0 hw []  h0 n0 Z0 S_COUNT) hZ (hw _ (List.mem_of_getElem? (i := 3) rfl)) (hw _ (List.mem_of_getElem? (i := 2) rfl)) (by decide) (by decide)) (g := (mkF m 0 #[.val (.int p0), .val (.int p1), .unset, .unset, .unset, .unset, .unset, .unset, .unset, .unset] [])) rfl (by rw [hml]; rfl) (argsL := []) (rest := []) (lenOf pd_0 rfl) rfl (by show 2 * 0 + _ ≤ _; exact Nat.le_of_eq rfl) (hb hby at_0) (fun _ _ => ⟨rfl, e0, (by decide : 0 + 1 ≤ _), (by decide : 0 + 273 ≤ _)⟩)
  dsimp only [Pt.U, Pt.locs, Pt.cells, Pt.slots] at X1 l1 y1 z1 st1 hQ1
  subst l1 y1 z1
  obtain ⟨r_1, rfl, N1q, sz0_r_1, Kc1, Q1_0⟩ := hQ1
  have Kd1 : Keep h0 T1.heap [] := Kc1
  have sz_r_1 : h0.size ≤ r_1 := Nat.le_trans K0.1 sz0_r_1
  have ge_r_1 : n0 ≤ r_1 := Nat.le_trans Z0 sz0_r_1
  have sta_com_example_admission_admission_Lanes_COUNT_1 := own_sta_keep S_COUNT Kd1 all0
  have K1 := K0.trans Kd1 all0
  have Z1 := Nat.le_trans Z0 Kd1.1
  have N1 := Fr.app N0 N1q
  have pre3 : ∀ t, Steps p.tables e below (T1.setTop (mkF m 4 #[.val (.int p0), .val (.int p1), .val (.ref r_1), .unset, .unset, .unset, .unset, .unset, .unset, .unset] [])) t → Steps p.tables e below (s₁.setTop (entryFrame m #[(.int p0), (.int p1)] maxLocals)) t := by
    intro t k
    refine pre0 t ?_
    show Steps p.tables e below (s₁.setTop (mkF m 0 #[.val (.int p0), .val (.int p1), .unset, .unset, .unset, .unset, .unset, .unset, .unset, .unset] [])) _
    refine st1 _ ?_
    show Steps p.tables e below (T1.setTop (mkF m 3 #[.val (.int p0), .val (.int p1), .unset, .unset, .unset, .unset, .unset, .unset, .unset, .unset] [(.ref r_1)])) _
    refine XS.astoreN X1.here hx rfl (hb hby at_3) rfl rfl (l' := #[.val (.int p0), .val (.int p1), .val (.ref r_1), .unset, .unset, .unset, .unset, .unset, .unset, .unset]) rfl ?_
    exact k
  obtain ⟨_, _, ⟨T2, L2, k2, n2⟩, -, X2, ⟨Lc2, hQ2, l2, y2, z2⟩, st2⟩ := Jvm.LawKit.callS X1 hx (y := (⟨"com/example/admission/admission/Lanes", "words", "()[J"⟩ : MethodName)) hown (mvT hZ (hw _ (List.mem_of_getElem? (i := 0) rfl))) (mvT hZ (hw _ (List.mem_of_getElem? (i := 1) rfl))) (mvT hZ (hw _ (List.mem_of_getElem? (i := 2) rfl))) (mvT hZ (hw _ (List.mem_of_getElem? (i := 3) rfl))) (by decide) (backOf (W := 0) (rm_1 l Z a0 hw []  T1.heap n0 Z1 sta_com_example_admission_admission_Lanes_COUNT_1) hZ (hw _ (List.mem_of_getElem? (i := 3) rfl)) (hw _ (List.mem_of_getElem? (i := 2) rfl)) (by decide) (by decide)) (g := (mkF m 4 #[.val (.int p0), .val (.int p1), .val (.ref r_1), .unset, .unset, .unset, .unset, .unset, .unset, .unset] [])) rfl (by rw [hml]; rfl) (argsL := []) (rest := []) (lenOf pd_0 rfl) rfl (by show 2 * 0 + _ ≤ _; exact Nat.le_of_eq rfl) (hb hby at_4) (fun _ _ => ⟨rfl, rfl, (by decide : 1 + 1 ≤ _), (by decide : 273 + 273 ≤ _)⟩)
  dsimp only [Pt.U, Pt.locs, Pt.cells, Pt.slots] at X2 l2 y2 z2 st2 hQ2
  subst l2 y2 z2
  obtain ⟨r_2, rfl, N2q, sz0_r_2, Kc2, Q2_0⟩ := hQ2
  have Kd2 : Keep T1.heap T2.heap [] := Kc2
  have ne_r_1_r_2 : r_1 ≠ r_2 := Nat.ne_of_lt (Nat.lt_of_lt_of_le Q1_0.lt sz0_r_2)
  have sz_r_2 : h0.size ≤ r_2 := Nat.le_trans K1.1 sz0_r_2
  have ge_r_2 : n0 ≤ r_2 := Nat.le_trans Z1 sz0_r_2
  have sta_com_example_admission_admission_Lanes_COUNT_2 := own_sta_keep sta_com_example_admission_admission_Lanes_COUNT_1 Kd2 all0
  have arr_r_1_2 := Q1_0.keep Kd2 nin0
  have K2 := K1.trans Kd2 all0
  have Z2 := Nat.le_trans Z1 Kd2.1
  have N2 := Fr.app N1 N2q
  have pre4 : ∀ t, Steps p.tables e below (T2.setTop (mkF m 8 #[.val (.int p0), .val (.int p1), .val (.ref r_1), .val (.ref r_2), .unset, .unset, .unset, .unset, .unset, .unset] [])) t → Steps p.tables e below (s₁.setTop (entryFrame m #[(.int p0), (.int p1)] maxLocals)) t := by
    intro t k
    refine pre3 t ?_
    show Steps p.tables e below (T1.setTop (mkF m 4 #[.val (.int p0), .val (.int p1), .val (.ref r_1), .unset, .unset, .unset, .unset, .unset, .unset, .unset] [])) _
    refine st2 _ ?_
    show Steps p.tables e below (T2.setTop (mkF m 7 #[.val (.int p0), .val (.int p1), .val (.ref r_1), .unset, .unset, .unset, .unset, .unset, .unset, .unset] [(.ref r_2)])) _
    refine XS.astoreN X2.here hx rfl (hb hby at_7) rfl rfl (l' := #[.val (.int p0), .val (.int p1), .val (.ref r_1), .val (.ref r_2), .unset, .unset, .unset, .unset, .unset, .unset]) rfl ?_
    exact k
  obtain ⟨T5, X5, e5, st5⟩ := getS2 X2 hx hZ hown (host := "") (Or.inl (hw _ (List.mem_of_getElem? (i := 7) rfl))) Via.refl rfl sta_com_example_admission_admission_Lanes_COUNT_2 (g := (mkF m 8 #[.val (.int p0), .val (.int p1), .val (.ref r_1), .val (.ref r_2), .unset, .unset, .unset, .unset, .unset, .unset] [])) rfl (hb hby at_8)
  obtain ⟨v7_38, hv7_38⟩ : ∃ z : Int32, z = ((16 : Int32) * (16 : Int32)) := ⟨_, rfl⟩
  obtain ⟨v8_75, hv8_75⟩ : ∃ z : Int32, z = ((((p0 &&& (2147483647 : Int32)) % (16 : Int32)) + (1 : Int32)) * (16 : Int32)) := ⟨_, rfl⟩
  obtain ⟨v9_110, hv9_110⟩ : ∃ z : Int32, z = ((p1 &&& (2147483647 : Int32)) % (273 : Int32)) := ⟨_, rfl⟩
  have pre6 : ∀ t, Steps p.tables e below (T5.setTop (mkF m 154 #[.val (.int p0), .val (.int p1), .val (.ref r_1), .val (.ref r_2), .val (.int (16 : Int32)), .val (.int (16 : Int32)), .val (.int (273 : Int32)), .val (.int v7_38), .val (.int v8_75), .val (.int v9_110)] [(.long (1 : Int64)), (.int v8_75), (.ref r_1)])) t → Steps p.tables e below (s₁.setTop (entryFrame m #[(.int p0), (.int p1)] maxLocals)) t := by
    intro t k
    refine pre4 t ?_
    show Steps p.tables e below (T2.setTop (mkF m 8 #[.val (.int p0), .val (.int p1), .val (.ref r_1), .val (.ref r_2), .unset, .unset, .unset, .unset, .unset, .unset] [])) _
    refine st5 _ ?_
    show Steps p.tables e below (T5.setTop (mkF m 11 #[.val (.int p0), .val (.int p1), .val (.ref r_1), .val (.ref r_2), .unset, .unset, .unset, .unset, .unset, .unset] [(.int (16 : Int32))])) _
    refine XS.istore X5.here hx rfl (hb hby at_11) rfl (l' := #[.val (.int p0), .val (.int p1), .val (.ref r_1), .val (.ref r_2), .val (.int (16 : Int32)), .unset, .unset, .unset, .unset, .unset]) rfl ?_
    show Steps p.tables e below (T5.setTop (mkF m 13 #[.val (.int p0), .val (.int p1), .val (.ref r_1), .val (.ref r_2), .val (.int (16 : Int32)), .unset, .unset, .unset, .unset, .unset] [])) _
    refine XS.bipush X5.here hx rfl (hb hby at_13) ?_
    show Steps p.tables e below (T5.setTop (mkF m 15 #[.val (.int p0), .val (.int p1), .val (.ref r_1), .val (.ref r_2), .val (.int (16 : Int32)), .unset, .unset, .unset, .unset, .unset] [(.int (16 : Int32))])) _
    refine XS.istore X5.here hx rfl (hb hby at_15) rfl (l' := #[.val (.int p0), .val (.int p1), .val (.ref r_1), .val (.ref r_2), .val (.int (16 : Int32)), .val (.int (16 : Int32)), .unset, .unset, .unset, .unset]) rfl ?_
    show Steps p.tables e below (T5.setTop (mkF m 17 #[.val (.int p0), .val (.int p1), .val (.ref r_1), .val (.ref r_2), .val (.int (16 : Int32)), .val (.int (16 : Int32)), .unset, .unset, .unset, .unset] [])) _
    refine XS.iload X5.here hx rfl (hb hby at_17) rfl  ?_
    show Steps p.tables e below (T5.setTop (mkF m 19 #[.val (.int p0), .val (.int p1), .val (.ref r_1), .val (.ref r_2), .val (.int (16 : Int32)), .val (.int (16 : Int32)), .unset, .unset, .unset, .unset] [(.int (16 : Int32))])) _
    refine XS.ifNo X5.here hx rfl (hb hby at_19) rfl ((if0 _ _).trans (tlt (by decide : (0 : Int32) < (16 : Int32))).2.2.2) ?_
    show Steps p.tables e below (T5.setTop (mkF m 22 #[.val (.int p0), .val (.int p1), .val (.ref r_1), .val (.ref r_2), .val (.int (16 : Int32)), .val (.int (16 : Int32)), .unset, .unset, .unset, .unset] [])) _
    refine XS.iload X5.here hx rfl (hb hby at_22) rfl  ?_
    show Steps p.tables e below (T5.setTop (mkF m 24 #[.val (.int p0), .val (.int p1), .val (.ref r_1), .val (.ref r_2), .val (.int (16 : Int32)), .val (.int (16 : Int32)), .unset, .unset, .unset, .unset] [(.int (16 : Int32))])) _
    refine XS.ifYes X5.here hx rfl (pc0 := 24) (pc' := 29) rfl (hb hby at_24) rfl ((if0 _ _).trans (tlt (by decide : (0 : Int32) < (16 : Int32))).2.2.1) (by decide) (by decide) ?_
    show Steps p.tables e below (T5.setTop (mkF m 29 #[.val (.int p0), .val (.int p1), .val (.ref r_1), .val (.ref r_2), .val (.int (16 : Int32)), .val (.int (16 : Int32)), .unset, .unset, .unset, .unset] [])) _
    refine XS.aloadN X5.here hx rfl (hb hby at_29) rfl rfl ?_
    show Steps p.tables e below (T5.setTop (mkF m 30 #[.val (.int p0), .val (.int p1), .val (.ref r_1), .val (.ref r_2), .val (.int (16 : Int32)), .val (.int (16 : Int32)), .unset, .unset, .unset, .unset] [(.ref r_1)])) _
    refine own_len X5 hx hZ e5 arr_r_1_2 (z := (273 : Int32)) rfl (g := (mkF m 30 #[.val (.int p0), .val (.int p1), .val (.ref r_1), .val (.ref r_2), .val (.int (16 : Int32)), .val (.int (16 : Int32)), .unset, .unset, .unset, .unset] [(.ref r_1)])) rfl rfl (hb hby at_30) ?_
    show Steps p.tables e below (T5.setTop (mkF m 31 #[.val (.int p0), .val (.int p1), .val (.ref r_1), .val (.ref r_2), .val (.int (16 : Int32)), .val (.int (16 : Int32)), .unset, .unset, .unset, .unset] [(.int (273 : Int32))])) _
    refine XS.istore X5.here hx rfl (hb hby at_31) rfl (l' := #[.val (.int p0), .val (.int p1), .val (.ref r_1), .val (.ref r_2), .val (.int (16 : Int32)), .val (.int (16 : Int32)), .val (.int (273 : Int32)), .unset, .unset, .unset]) rfl ?_
    show Steps p.tables e below (T5.setTop (mkF m 33 #[.val (.int p0), .val (.int p1), .val (.ref r_1), .val (.ref r_2), .val (.int (16 : Int32)), .val (.int (16 : Int32)), .val (.int (273 : Int32)), .unset, .unset, .unset] [])) _
    refine XS.iload X5.here hx rfl (hb hby at_33) rfl  ?_
    show Steps p.tables e below (T5.setTop (mkF m 35 #[.val (.int p0), .val (.int p1), .val (.ref r_1), .val (.ref r_2), .val (.int (16 : Int32)), .val (.int (16 : Int32)), .val (.int (273 : Int32)), .unset, .unset, .unset] [(.int (16 : Int32))])) _
    refine XS.iload X5.here hx rfl (hb hby at_35) rfl  ?_
    show Steps p.tables e below (T5.setTop (mkF m 37 #[.val (.int p0), .val (.int p1), .val (.ref r_1), .val (.ref r_2), .val (.int (16 : Int32)), .val (.int (16 : Int32)), .val (.int (273 : Int32)), .unset, .unset, .unset] [(.int (16 : Int32)), (.int (16 : Int32))])) _
    refine XS.imul X5.here hx rfl (hb hby at_37) rfl ?_
    show Steps p.tables e below (T5.setTop (mkF m 38 #[.val (.int p0), .val (.int p1), .val (.ref r_1), .val (.ref r_2), .val (.int (16 : Int32)), .val (.int (16 : Int32)), .val (.int (273 : Int32)), .unset, .unset, .unset] [(.int ((16 : Int32) * (16 : Int32)))])) _
    refine XS.istore X5.here hx rfl (hb hby at_38) rfl (l' := #[.val (.int p0), .val (.int p1), .val (.ref r_1), .val (.ref r_2), .val (.int (16 : Int32)), .val (.int (16 : Int32)), .val (.int (273 : Int32)), .val (.int v7_38), .unset, .unset]) (by rw [hv7_38]; rfl) ?_
    show Steps p.tables e below (T5.setTop (mkF m 40 #[.val (.int p0), .val (.int p1), .val (.ref r_1), .val (.ref r_2), .val (.int (16 : Int32)), .val (.int (16 : Int32)), .val (.int (273 : Int32)), .val (.int v7_38), .unset, .unset] [])) _
    refine XS.iload X5.here hx rfl (hb hby at_40) rfl  ?_
    show Steps p.tables e below (T5.setTop (mkF m 42 #[.val (.int p0), .val (.int p1), .val (.ref r_1), .val (.ref r_2), .val (.int (16 : Int32)), .val (.int (16 : Int32)), .val (.int (273 : Int32)), .val (.int v7_38), .unset, .unset] [(.int (273 : Int32))])) _
    refine XS.iconst X5.here hx rfl (hb hby at_42) ?_
    show Steps p.tables e below (T5.setTop (mkF m 43 #[.val (.int p0), .val (.int p1), .val (.ref r_1), .val (.ref r_2), .val (.int (16 : Int32)), .val (.int (16 : Int32)), .val (.int (273 : Int32)), .val (.int v7_38), .unset, .unset] [(.int (1 : Int32)), (.int (273 : Int32))])) _
    refine XS.isub X5.here hx rfl (hb hby at_43) rfl ?_
    show Steps p.tables e below (T5.setTop (mkF m 44 #[.val (.int p0), .val (.int p1), .val (.ref r_1), .val (.ref r_2), .val (.int (16 : Int32)), .val (.int (16 : Int32)), .val (.int (273 : Int32)), .val (.int v7_38), .unset, .unset] [(.int ((273 : Int32) - (1 : Int32)))])) _
    refine XS.iload X5.here hx rfl (hb hby at_44) rfl  ?_
    show Steps p.tables e below (T5.setTop (mkF m 46 #[.val (.int p0), .val (.int p1), .val (.ref r_1), .val (.ref r_2), .val (.int (16 : Int32)), .val (.int (16 : Int32)), .val (.int (273 : Int32)), .val (.int v7_38), .unset, .unset] [(.int v7_38), (.int ((273 : Int32) - (1 : Int32)))])) _
    refine XS.isub X5.here hx rfl (hb hby at_46) rfl ?_
    show Steps p.tables e below (T5.setTop (mkF m 47 #[.val (.int p0), .val (.int p1), .val (.ref r_1), .val (.ref r_2), .val (.int (16 : Int32)), .val (.int (16 : Int32)), .val (.int (273 : Int32)), .val (.int v7_38), .unset, .unset] [(.int (((273 : Int32) - (1 : Int32)) - v7_38))])) _
    refine XS.iload X5.here hx rfl (hb hby at_47) rfl  ?_
    show Steps p.tables e below (T5.setTop (mkF m 49 #[.val (.int p0), .val (.int p1), .val (.ref r_1), .val (.ref r_2), .val (.int (16 : Int32)), .val (.int (16 : Int32)), .val (.int (273 : Int32)), .val (.int v7_38), .unset, .unset] [(.int (16 : Int32)), (.int (((273 : Int32) - (1 : Int32)) - v7_38))])) _
    refine XS.icmpYes X5.here hx rfl (pc0 := 49) (pc' := 54) rfl (hb hby at_49) rfl (teq ((by rw [hv7_38]; decide) : (((273 : Int32) - (1 : Int32)) - v7_38) = (16 : Int32))).1 (by decide) (by decide) ?_
    show Steps p.tables e below (T5.setTop (mkF m 54 #[.val (.int p0), .val (.int p1), .val (.ref r_1), .val (.ref r_2), .val (.int (16 : Int32)), .val (.int (16 : Int32)), .val (.int (273 : Int32)), .val (.int v7_38), .unset, .unset] [])) _
    refine XS.aloadN X5.here hx rfl (hb hby at_54) rfl rfl ?_
    show Steps p.tables e below (T5.setTop (mkF m 55 #[.val (.int p0), .val (.int p1), .val (.ref r_1), .val (.ref r_2), .val (.int (16 : Int32)), .val (.int (16 : Int32)), .val (.int (273 : Int32)), .val (.int v7_38), .unset, .unset] [(.ref r_2)])) _
    refine own_len X5 hx hZ e5 Q2_0 (z := (273 : Int32)) rfl (g := (mkF m 55 #[.val (.int p0), .val (.int p1), .val (.ref r_1), .val (.ref r_2), .val (.int (16 : Int32)), .val (.int (16 : Int32)), .val (.int (273 : Int32)), .val (.int v7_38), .unset, .unset] [(.ref r_2)])) rfl rfl (hb hby at_55) ?_
    show Steps p.tables e below (T5.setTop (mkF m 56 #[.val (.int p0), .val (.int p1), .val (.ref r_1), .val (.ref r_2), .val (.int (16 : Int32)), .val (.int (16 : Int32)), .val (.int (273 : Int32)), .val (.int v7_38), .unset, .unset] [(.int (273 : Int32))])) _
    refine XS.iload X5.here hx rfl (hb hby at_56) rfl  ?_
    show Steps p.tables e below (T5.setTop (mkF m 58 #[.val (.int p0), .val (.int p1), .val (.ref r_1), .val (.ref r_2), .val (.int (16 : Int32)), .val (.int (16 : Int32)), .val (.int (273 : Int32)), .val (.int v7_38), .unset, .unset] [(.int (273 : Int32)), (.int (273 : Int32))])) _
    refine XS.icmpYes X5.here hx rfl (pc0 := 58) (pc' := 63) rfl (hb hby at_58) rfl (teq (by decide : (273 : Int32) = (273 : Int32))).1 (by decide) (by decide) ?_
    show Steps p.tables e below (T5.setTop (mkF m 63 #[.val (.int p0), .val (.int p1), .val (.ref r_1), .val (.ref r_2), .val (.int (16 : Int32)), .val (.int (16 : Int32)), .val (.int (273 : Int32)), .val (.int v7_38), .unset, .unset] [])) _
    refine XS.iloadN X5.here hx rfl (hb hby at_63) rfl  ?_
    show Steps p.tables e below (T5.setTop (mkF m 64 #[.val (.int p0), .val (.int p1), .val (.ref r_1), .val (.ref r_2), .val (.int (16 : Int32)), .val (.int (16 : Int32)), .val (.int (273 : Int32)), .val (.int v7_38), .unset, .unset] [(.int p0)])) _
    refine X5.ldcInt hx hown (mvT hZ (hw _ (List.mem_of_getElem? (i := 8) rfl))) (g := (mkF m 64 #[.val (.int p0), .val (.int p1), .val (.ref r_1), .val (.ref r_2), .val (.int (16 : Int32)), .val (.int (16 : Int32)), .val (.int (273 : Int32)), .val (.int v7_38), .unset, .unset] [(.int p0)])) rfl (hb hby at_64) _ ?_
    show Steps p.tables e below (T5.setTop (mkF m 66 #[.val (.int p0), .val (.int p1), .val (.ref r_1), .val (.ref r_2), .val (.int (16 : Int32)), .val (.int (16 : Int32)), .val (.int (273 : Int32)), .val (.int v7_38), .unset, .unset] [(.int (2147483647 : Int32)), (.int p0)])) _
    refine XS.iand X5.here hx rfl (hb hby at_66) rfl ?_
    show Steps p.tables e below (T5.setTop (mkF m 67 #[.val (.int p0), .val (.int p1), .val (.ref r_1), .val (.ref r_2), .val (.int (16 : Int32)), .val (.int (16 : Int32)), .val (.int (273 : Int32)), .val (.int v7_38), .unset, .unset] [(.int (p0 &&& (2147483647 : Int32)))])) _
    refine XS.iload X5.here hx rfl (hb hby at_67) rfl  ?_
    show Steps p.tables e below (T5.setTop (mkF m 69 #[.val (.int p0), .val (.int p1), .val (.ref r_1), .val (.ref r_2), .val (.int (16 : Int32)), .val (.int (16 : Int32)), .val (.int (273 : Int32)), .val (.int v7_38), .unset, .unset] [(.int (16 : Int32)), (.int (p0 &&& (2147483647 : Int32)))])) _
    refine iremM X5 hx rfl (hb hby at_69) rfl (by decide) ?_
    show Steps p.tables e below (T5.setTop (mkF m 70 #[.val (.int p0), .val (.int p1), .val (.ref r_1), .val (.ref r_2), .val (.int (16 : Int32)), .val (.int (16 : Int32)), .val (.int (273 : Int32)), .val (.int v7_38), .unset, .unset] [(.int ((p0 &&& (2147483647 : Int32)) % (16 : Int32)))])) _
    refine XS.iconst X5.here hx rfl (hb hby at_70) ?_
    show Steps p.tables e below (T5.setTop (mkF m 71 #[.val (.int p0), .val (.int p1), .val (.ref r_1), .val (.ref r_2), .val (.int (16 : Int32)), .val (.int (16 : Int32)), .val (.int (273 : Int32)), .val (.int v7_38), .unset, .unset] [(.int (1 : Int32)), (.int ((p0 &&& (2147483647 : Int32)) % (16 : Int32)))])) _
    refine XS.iadd X5.here hx rfl (hb hby at_71) rfl ?_
    show Steps p.tables e below (T5.setTop (mkF m 72 #[.val (.int p0), .val (.int p1), .val (.ref r_1), .val (.ref r_2), .val (.int (16 : Int32)), .val (.int (16 : Int32)), .val (.int (273 : Int32)), .val (.int v7_38), .unset, .unset] [(.int (((p0 &&& (2147483647 : Int32)) % (16 : Int32)) + (1 : Int32)))])) _
    refine XS.iload X5.here hx rfl (hb hby at_72) rfl  ?_
    show Steps p.tables e below (T5.setTop (mkF m 74 #[.val (.int p0), .val (.int p1), .val (.ref r_1), .val (.ref r_2), .val (.int (16 : Int32)), .val (.int (16 : Int32)), .val (.int (273 : Int32)), .val (.int v7_38), .unset, .unset] [(.int (16 : Int32)), (.int (((p0 &&& (2147483647 : Int32)) % (16 : Int32)) + (1 : Int32)))])) _
    refine XS.imul X5.here hx rfl (hb hby at_74) rfl ?_
    show Steps p.tables e below (T5.setTop (mkF m 75 #[.val (.int p0), .val (.int p1), .val (.ref r_1), .val (.ref r_2), .val (.int (16 : Int32)), .val (.int (16 : Int32)), .val (.int (273 : Int32)), .val (.int v7_38), .unset, .unset] [(.int ((((p0 &&& (2147483647 : Int32)) % (16 : Int32)) + (1 : Int32)) * (16 : Int32)))])) _
    refine XS.istore X5.here hx rfl (hb hby at_75) rfl (l' := #[.val (.int p0), .val (.int p1), .val (.ref r_1), .val (.ref r_2), .val (.int (16 : Int32)), .val (.int (16 : Int32)), .val (.int (273 : Int32)), .val (.int v7_38), .val (.int v8_75), .unset]) (by rw [hv8_75]; rfl) ?_
    show Steps p.tables e below (T5.setTop (mkF m 77 #[.val (.int p0), .val (.int p1), .val (.ref r_1), .val (.ref r_2), .val (.int (16 : Int32)), .val (.int (16 : Int32)), .val (.int (273 : Int32)), .val (.int v7_38), .val (.int v8_75), .unset] [])) _
    refine XS.iload X5.here hx rfl (hb hby at_77) rfl  ?_
    show Steps p.tables e below (T5.setTop (mkF m 79 #[.val (.int p0), .val (.int p1), .val (.ref r_1), .val (.ref r_2), .val (.int (16 : Int32)), .val (.int (16 : Int32)), .val (.int (273 : Int32)), .val (.int v7_38), .val (.int v8_75), .unset] [(.int v8_75)])) _
    refine XS.iload X5.here hx rfl (hb hby at_79) rfl  ?_
    show Steps p.tables e below (T5.setTop (mkF m 81 #[.val (.int p0), .val (.int p1), .val (.ref r_1), .val (.ref r_2), .val (.int (16 : Int32)), .val (.int (16 : Int32)), .val (.int (273 : Int32)), .val (.int v7_38), .val (.int v8_75), .unset] [(.int (16 : Int32)), (.int v8_75)])) _
    refine XS.icmpNo X5.here hx rfl (hb hby at_81) rfl (flt ((by rw [hv8_75]; exact (own_lane p0).2.2.1) : ¬ (v8_75 < (16 : Int32)))).1 ?_
    show Steps p.tables e below (T5.setTop (mkF m 84 #[.val (.int p0), .val (.int p1), .val (.ref r_1), .val (.ref r_2), .val (.int (16 : Int32)), .val (.int (16 : Int32)), .val (.int (273 : Int32)), .val (.int v7_38), .val (.int v8_75), .unset] [])) _
    refine XS.iload X5.here hx rfl (hb hby at_84) rfl  ?_
    show Steps p.tables e below (T5.setTop (mkF m 86 #[.val (.int p0), .val (.int p1), .val (.ref r_1), .val (.ref r_2), .val (.int (16 : Int32)), .val (.int (16 : Int32)), .val (.int (273 : Int32)), .val (.int v7_38), .val (.int v8_75), .unset] [(.int v8_75)])) _
    refine XS.iload X5.here hx rfl (hb hby at_86) rfl  ?_
    show Steps p.tables e below (T5.setTop (mkF m 88 #[.val (.int p0), .val (.int p1), .val (.ref r_1), .val (.ref r_2), .val (.int (16 : Int32)), .val (.int (16 : Int32)), .val (.int (273 : Int32)), .val (.int v7_38), .val (.int v8_75), .unset] [(.int v7_38), (.int v8_75)])) _
    refine XS.icmpNo X5.here hx rfl (hb hby at_88) rfl (flt ((by rw [hv7_38, hv8_75]; exact (own_lane p0).2.2.2.1) : ¬ (v7_38 < v8_75))).2.2.1 ?_
    show Steps p.tables e below (T5.setTop (mkF m 91 #[.val (.int p0), .val (.int p1), .val (.ref r_1), .val (.ref r_2), .val (.int (16 : Int32)), .val (.int (16 : Int32)), .val (.int (273 : Int32)), .val (.int v7_38), .val (.int v8_75), .unset] [])) _
    refine XS.iload X5.here hx rfl (hb hby at_91) rfl  ?_
    show Steps p.tables e below (T5.setTop (mkF m 93 #[.val (.int p0), .val (.int p1), .val (.ref r_1), .val (.ref r_2), .val (.int (16 : Int32)), .val (.int (16 : Int32)), .val (.int (273 : Int32)), .val (.int v7_38), .val (.int v8_75), .unset] [(.int v8_75)])) _
    refine XS.iload X5.here hx rfl (hb hby at_93) rfl  ?_
    show Steps p.tables e below (T5.setTop (mkF m 95 #[.val (.int p0), .val (.int p1), .val (.ref r_1), .val (.ref r_2), .val (.int (16 : Int32)), .val (.int (16 : Int32)), .val (.int (273 : Int32)), .val (.int v7_38), .val (.int v8_75), .unset] [(.int (16 : Int32)), (.int v8_75)])) _
    refine XS.iadd X5.here hx rfl (hb hby at_95) rfl ?_
    show Steps p.tables e below (T5.setTop (mkF m 96 #[.val (.int p0), .val (.int p1), .val (.ref r_1), .val (.ref r_2), .val (.int (16 : Int32)), .val (.int (16 : Int32)), .val (.int (273 : Int32)), .val (.int v7_38), .val (.int v8_75), .unset] [(.int (v8_75 + (16 : Int32)))])) _
    refine XS.iload X5.here hx rfl (hb hby at_96) rfl  ?_
    show Steps p.tables e below (T5.setTop (mkF m 98 #[.val (.int p0), .val (.int p1), .val (.ref r_1), .val (.ref r_2), .val (.int (16 : Int32)), .val (.int (16 : Int32)), .val (.int (273 : Int32)), .val (.int v7_38), .val (.int v8_75), .unset] [(.int (273 : Int32)), (.int (v8_75 + (16 : Int32)))])) _
    refine XS.icmpYes X5.here hx rfl (pc0 := 98) (pc' := 103) rfl (hb hby at_98) rfl (tlt ((by rw [hv8_75]; exact (own_lane p0).2.2.2.2) : (v8_75 + (16 : Int32)) < (273 : Int32))).1 (by decide) (by decide) ?_
    show Steps p.tables e below (T5.setTop (mkF m 103 #[.val (.int p0), .val (.int p1), .val (.ref r_1), .val (.ref r_2), .val (.int (16 : Int32)), .val (.int (16 : Int32)), .val (.int (273 : Int32)), .val (.int v7_38), .val (.int v8_75), .unset] [])) _
    refine XS.iloadN X5.here hx rfl (hb hby at_103) rfl  ?_
    show Steps p.tables e below (T5.setTop (mkF m 104 #[.val (.int p0), .val (.int p1), .val (.ref r_1), .val (.ref r_2), .val (.int (16 : Int32)), .val (.int (16 : Int32)), .val (.int (273 : Int32)), .val (.int v7_38), .val (.int v8_75), .unset] [(.int p1)])) _
    refine X5.ldcInt hx hown (mvT hZ (hw _ (List.mem_of_getElem? (i := 8) rfl))) (g := (mkF m 104 #[.val (.int p0), .val (.int p1), .val (.ref r_1), .val (.ref r_2), .val (.int (16 : Int32)), .val (.int (16 : Int32)), .val (.int (273 : Int32)), .val (.int v7_38), .val (.int v8_75), .unset] [(.int p1)])) rfl (hb hby at_104) _ ?_
    show Steps p.tables e below (T5.setTop (mkF m 106 #[.val (.int p0), .val (.int p1), .val (.ref r_1), .val (.ref r_2), .val (.int (16 : Int32)), .val (.int (16 : Int32)), .val (.int (273 : Int32)), .val (.int v7_38), .val (.int v8_75), .unset] [(.int (2147483647 : Int32)), (.int p1)])) _
    refine XS.iand X5.here hx rfl (hb hby at_106) rfl ?_
    show Steps p.tables e below (T5.setTop (mkF m 107 #[.val (.int p0), .val (.int p1), .val (.ref r_1), .val (.ref r_2), .val (.int (16 : Int32)), .val (.int (16 : Int32)), .val (.int (273 : Int32)), .val (.int v7_38), .val (.int v8_75), .unset] [(.int (p1 &&& (2147483647 : Int32)))])) _
    refine XS.iload X5.here hx rfl (hb hby at_107) rfl  ?_
    show Steps p.tables e below (T5.setTop (mkF m 109 #[.val (.int p0), .val (.int p1), .val (.ref r_1), .val (.ref r_2), .val (.int (16 : Int32)), .val (.int (16 : Int32)), .val (.int (273 : Int32)), .val (.int v7_38), .val (.int v8_75), .unset] [(.int (273 : Int32)), (.int (p1 &&& (2147483647 : Int32)))])) _
    refine iremM X5 hx rfl (hb hby at_109) rfl (by decide) ?_
    show Steps p.tables e below (T5.setTop (mkF m 110 #[.val (.int p0), .val (.int p1), .val (.ref r_1), .val (.ref r_2), .val (.int (16 : Int32)), .val (.int (16 : Int32)), .val (.int (273 : Int32)), .val (.int v7_38), .val (.int v8_75), .unset] [(.int ((p1 &&& (2147483647 : Int32)) % (273 : Int32)))])) _
    refine XS.istore X5.here hx rfl (hb hby at_110) rfl (l' := #[.val (.int p0), .val (.int p1), .val (.ref r_1), .val (.ref r_2), .val (.int (16 : Int32)), .val (.int (16 : Int32)), .val (.int (273 : Int32)), .val (.int v7_38), .val (.int v8_75), .val (.int v9_110)]) (by rw [hv9_110]; rfl) ?_
    show Steps p.tables e below (T5.setTop (mkF m 112 #[.val (.int p0), .val (.int p1), .val (.ref r_1), .val (.ref r_2), .val (.int (16 : Int32)), .val (.int (16 : Int32)), .val (.int (273 : Int32)), .val (.int v7_38), .val (.int v8_75), .val (.int v9_110)] [])) _
    refine XS.aloadN X5.here hx rfl (hb hby at_112) rfl rfl ?_
    show Steps p.tables e below (T5.setTop (mkF m 113 #[.val (.int p0), .val (.int p1), .val (.ref r_1), .val (.ref r_2), .val (.int (16 : Int32)), .val (.int (16 : Int32)), .val (.int (273 : Int32)), .val (.int v7_38), .val (.int v8_75), .val (.int v9_110)] [(.ref r_1)])) _
    refine XS.iload X5.here hx rfl (hb hby at_113) rfl  ?_
    show Steps p.tables e below (T5.setTop (mkF m 115 #[.val (.int p0), .val (.int p1), .val (.ref r_1), .val (.ref r_2), .val (.int (16 : Int32)), .val (.int (16 : Int32)), .val (.int (273 : Int32)), .val (.int v7_38), .val (.int v8_75), .val (.int v9_110)] [(.int v8_75), (.ref r_1)])) _
    refine own_ldJ X5 hx hZ e5 arr_r_1_2 (j := v8_75) (k := v8_75.toNatClampNeg) (by rw [hv8_75]; exact (own_lane p0).1) rfl (by rw [hv8_75]; exact (own_lane p0).2.1) (g := (mkF m 115 #[.val (.int p0), .val (.int p1), .val (.ref r_1), .val (.ref r_2), .val (.int (16 : Int32)), .val (.int (16 : Int32)), .val (.int (273 : Int32)), .val (.int v7_38), .val (.int v8_75), .val (.int v9_110)] [(.int v8_75), (.ref r_1)])) rfl rfl (hb hby at_115) ?_
    show Steps p.tables e below (T5.setTop (mkF m 116 #[.val (.int p0), .val (.int p1), .val (.ref r_1), .val (.ref r_2), .val (.int (16 : Int32)), .val (.int (16 : Int32)), .val (.int (273 : Int32)), .val (.int v7_38), .val (.int v8_75), .val (.int v9_110)] [(.long (own_zJ v8_75.toNatClampNeg))])) _
    refine XS.lconst X5.here hx rfl (hb hby at_116) ?_
    show Steps p.tables e below (T5.setTop (mkF m 117 #[.val (.int p0), .val (.int p1), .val (.ref r_1), .val (.ref r_2), .val (.int (16 : Int32)), .val (.int (16 : Int32)), .val (.int (273 : Int32)), .val (.int v7_38), .val (.int v8_75), .val (.int v9_110)] [(.long (0 : Int64)), (.long (own_zJ v8_75.toNatClampNeg))])) _
    refine XS.lcmp X5.here hx rfl (hb hby at_117) rfl ?_
    show Steps p.tables e below (T5.setTop (mkF m 118 #[.val (.int p0), .val (.int p1), .val (.ref r_1), .val (.ref r_2), .val (.int (16 : Int32)), .val (.int (16 : Int32)), .val (.int (273 : Int32)), .val (.int v7_38), .val (.int v8_75), .val (.int v9_110)] [(.int (lcmpW (own_zJ v8_75.toNatClampNeg) (0 : Int64)))])) _
    refine XS.ifNo X5.here hx rfl (hb hby at_118) rfl ((if0 _ _).trans (teq ((lw_eq _ _).mpr (rfl : (own_zJ v8_75.toNatClampNeg) = (0 : Int64)))).2) ?_
    show Steps p.tables e below (T5.setTop (mkF m 121 #[.val (.int p0), .val (.int p1), .val (.ref r_1), .val (.ref r_2), .val (.int (16 : Int32)), .val (.int (16 : Int32)), .val (.int (273 : Int32)), .val (.int v7_38), .val (.int v8_75), .val (.int v9_110)] [])) _
    refine XS.aloadN X5.here hx rfl (hb hby at_121) rfl rfl ?_
    show Steps p.tables e below (T5.setTop (mkF m 122 #[.val (.int p0), .val (.int p1), .val (.ref r_1), .val (.ref r_2), .val (.int (16 : Int32)), .val (.int (16 : Int32)), .val (.int (273 : Int32)), .val (.int v7_38), .val (.int v8_75), .val (.int v9_110)] [(.ref r_1)])) _
    refine XS.iload X5.here hx rfl (hb hby at_122) rfl  ?_
    show Steps p.tables e below (T5.setTop (mkF m 124 #[.val (.int p0), .val (.int p1), .val (.ref r_1), .val (.ref r_2), .val (.int (16 : Int32)), .val (.int (16 : Int32)), .val (.int (273 : Int32)), .val (.int v7_38), .val (.int v8_75), .val (.int v9_110)] [(.int v9_110), (.ref r_1)])) _
    refine own_ldJ X5 hx hZ e5 arr_r_1_2 (j := v9_110) (k := v9_110.toNatClampNeg) (by rw [hv9_110]; exact (own_any p1).1) rfl (by rw [hv9_110]; exact (own_any p1).2) (g := (mkF m 124 #[.val (.int p0), .val (.int p1), .val (.ref r_1), .val (.ref r_2), .val (.int (16 : Int32)), .val (.int (16 : Int32)), .val (.int (273 : Int32)), .val (.int v7_38), .val (.int v8_75), .val (.int v9_110)] [(.int v9_110), (.ref r_1)])) rfl rfl (hb hby at_124) ?_
    show Steps p.tables e below (T5.setTop (mkF m 125 #[.val (.int p0), .val (.int p1), .val (.ref r_1), .val (.ref r_2), .val (.int (16 : Int32)), .val (.int (16 : Int32)), .val (.int (273 : Int32)), .val (.int v7_38), .val (.int v8_75), .val (.int v9_110)] [(.long (own_zJ v9_110.toNatClampNeg))])) _
    refine XS.lconst X5.here hx rfl (hb hby at_125) ?_
    show Steps p.tables e below (T5.setTop (mkF m 126 #[.val (.int p0), .val (.int p1), .val (.ref r_1), .val (.ref r_2), .val (.int (16 : Int32)), .val (.int (16 : Int32)), .val (.int (273 : Int32)), .val (.int v7_38), .val (.int v8_75), .val (.int v9_110)] [(.long (0 : Int64)), (.long (own_zJ v9_110.toNatClampNeg))])) _
    refine XS.lcmp X5.here hx rfl (hb hby at_126) rfl ?_
    show Steps p.tables e below (T5.setTop (mkF m 127 #[.val (.int p0), .val (.int p1), .val (.ref r_1), .val (.ref r_2), .val (.int (16 : Int32)), .val (.int (16 : Int32)), .val (.int (273 : Int32)), .val (.int v7_38), .val (.int v8_75), .val (.int v9_110)] [(.int (lcmpW (own_zJ v9_110.toNatClampNeg) (0 : Int64)))])) _
    refine XS.ifNo X5.here hx rfl (hb hby at_127) rfl ((if0 _ _).trans (teq ((lw_eq _ _).mpr (rfl : (own_zJ v9_110.toNatClampNeg) = (0 : Int64)))).2) ?_
    show Steps p.tables e below (T5.setTop (mkF m 130 #[.val (.int p0), .val (.int p1), .val (.ref r_1), .val (.ref r_2), .val (.int (16 : Int32)), .val (.int (16 : Int32)), .val (.int (273 : Int32)), .val (.int v7_38), .val (.int v8_75), .val (.int v9_110)] [])) _
    refine XS.aloadN X5.here hx rfl (hb hby at_130) rfl rfl ?_
    show Steps p.tables e below (T5.setTop (mkF m 131 #[.val (.int p0), .val (.int p1), .val (.ref r_1), .val (.ref r_2), .val (.int (16 : Int32)), .val (.int (16 : Int32)), .val (.int (273 : Int32)), .val (.int v7_38), .val (.int v8_75), .val (.int v9_110)] [(.ref r_2)])) _
    refine XS.iload X5.here hx rfl (hb hby at_131) rfl  ?_
    show Steps p.tables e below (T5.setTop (mkF m 133 #[.val (.int p0), .val (.int p1), .val (.ref r_1), .val (.ref r_2), .val (.int (16 : Int32)), .val (.int (16 : Int32)), .val (.int (273 : Int32)), .val (.int v7_38), .val (.int v8_75), .val (.int v9_110)] [(.int v8_75), (.ref r_2)])) _
    refine own_ldJ X5 hx hZ e5 Q2_0 (j := v8_75) (k := v8_75.toNatClampNeg) (by rw [hv8_75]; exact (own_lane p0).1) rfl (by rw [hv8_75]; exact (own_lane p0).2.1) (g := (mkF m 133 #[.val (.int p0), .val (.int p1), .val (.ref r_1), .val (.ref r_2), .val (.int (16 : Int32)), .val (.int (16 : Int32)), .val (.int (273 : Int32)), .val (.int v7_38), .val (.int v8_75), .val (.int v9_110)] [(.int v8_75), (.ref r_2)])) rfl rfl (hb hby at_133) ?_
    show Steps p.tables e below (T5.setTop (mkF m 134 #[.val (.int p0), .val (.int p1), .val (.ref r_1), .val (.ref r_2), .val (.int (16 : Int32)), .val (.int (16 : Int32)), .val (.int (273 : Int32)), .val (.int v7_38), .val (.int v8_75), .val (.int v9_110)] [(.long (own_zJ v8_75.toNatClampNeg))])) _
    refine XS.lconst X5.here hx rfl (hb hby at_134) ?_
    show Steps p.tables e below (T5.setTop (mkF m 135 #[.val (.int p0), .val (.int p1), .val (.ref r_1), .val (.ref r_2), .val (.int (16 : Int32)), .val (.int (16 : Int32)), .val (.int (273 : Int32)), .val (.int v7_38), .val (.int v8_75), .val (.int v9_110)] [(.long (0 : Int64)), (.long (own_zJ v8_75.toNatClampNeg))])) _
    refine XS.lcmp X5.here hx rfl (hb hby at_135) rfl ?_
    show Steps p.tables e below (T5.setTop (mkF m 136 #[.val (.int p0), .val (.int p1), .val (.ref r_1), .val (.ref r_2), .val (.int (16 : Int32)), .val (.int (16 : Int32)), .val (.int (273 : Int32)), .val (.int v7_38), .val (.int v8_75), .val (.int v9_110)] [(.int (lcmpW (own_zJ v8_75.toNatClampNeg) (0 : Int64)))])) _
    refine XS.ifNo X5.here hx rfl (hb hby at_136) rfl ((if0 _ _).trans (teq ((lw_eq _ _).mpr (rfl : (own_zJ v8_75.toNatClampNeg) = (0 : Int64)))).2) ?_
    show Steps p.tables e below (T5.setTop (mkF m 139 #[.val (.int p0), .val (.int p1), .val (.ref r_1), .val (.ref r_2), .val (.int (16 : Int32)), .val (.int (16 : Int32)), .val (.int (273 : Int32)), .val (.int v7_38), .val (.int v8_75), .val (.int v9_110)] [])) _
    refine XS.aloadN X5.here hx rfl (hb hby at_139) rfl rfl ?_
    show Steps p.tables e below (T5.setTop (mkF m 140 #[.val (.int p0), .val (.int p1), .val (.ref r_1), .val (.ref r_2), .val (.int (16 : Int32)), .val (.int (16 : Int32)), .val (.int (273 : Int32)), .val (.int v7_38), .val (.int v8_75), .val (.int v9_110)] [(.ref r_2)])) _
    refine XS.iload X5.here hx rfl (hb hby at_140) rfl  ?_
    show Steps p.tables e below (T5.setTop (mkF m 142 #[.val (.int p0), .val (.int p1), .val (.ref r_1), .val (.ref r_2), .val (.int (16 : Int32)), .val (.int (16 : Int32)), .val (.int (273 : Int32)), .val (.int v7_38), .val (.int v8_75), .val (.int v9_110)] [(.int v9_110), (.ref r_2)])) _
    refine own_ldJ X5 hx hZ e5 Q2_0 (j := v9_110) (k := v9_110.toNatClampNeg) (by rw [hv9_110]; exact (own_any p1).1) rfl (by rw [hv9_110]; exact (own_any p1).2) (g := (mkF m 142 #[.val (.int p0), .val (.int p1), .val (.ref r_1), .val (.ref r_2), .val (.int (16 : Int32)), .val (.int (16 : Int32)), .val (.int (273 : Int32)), .val (.int v7_38), .val (.int v8_75), .val (.int v9_110)] [(.int v9_110), (.ref r_2)])) rfl rfl (hb hby at_142) ?_
    show Steps p.tables e below (T5.setTop (mkF m 143 #[.val (.int p0), .val (.int p1), .val (.ref r_1), .val (.ref r_2), .val (.int (16 : Int32)), .val (.int (16 : Int32)), .val (.int (273 : Int32)), .val (.int v7_38), .val (.int v8_75), .val (.int v9_110)] [(.long (own_zJ v9_110.toNatClampNeg))])) _
    refine XS.lconst X5.here hx rfl (hb hby at_143) ?_
    show Steps p.tables e below (T5.setTop (mkF m 144 #[.val (.int p0), .val (.int p1), .val (.ref r_1), .val (.ref r_2), .val (.int (16 : Int32)), .val (.int (16 : Int32)), .val (.int (273 : Int32)), .val (.int v7_38), .val (.int v8_75), .val (.int v9_110)] [(.long (0 : Int64)), (.long (own_zJ v9_110.toNatClampNeg))])) _
    refine XS.lcmp X5.here hx rfl (hb hby at_144) rfl ?_
    show Steps p.tables e below (T5.setTop (mkF m 145 #[.val (.int p0), .val (.int p1), .val (.ref r_1), .val (.ref r_2), .val (.int (16 : Int32)), .val (.int (16 : Int32)), .val (.int (273 : Int32)), .val (.int v7_38), .val (.int v8_75), .val (.int v9_110)] [(.int (lcmpW (own_zJ v9_110.toNatClampNeg) (0 : Int64)))])) _
    refine XS.ifYes X5.here hx rfl (pc0 := 145) (pc' := 150) rfl (hb hby at_145) rfl ((if0 _ _).trans (teq ((lw_eq _ _).mpr (rfl : (own_zJ v9_110.toNatClampNeg) = (0 : Int64)))).1) (by decide) (by decide) ?_
    show Steps p.tables e below (T5.setTop (mkF m 150 #[.val (.int p0), .val (.int p1), .val (.ref r_1), .val (.ref r_2), .val (.int (16 : Int32)), .val (.int (16 : Int32)), .val (.int (273 : Int32)), .val (.int v7_38), .val (.int v8_75), .val (.int v9_110)] [])) _
    refine XS.aloadN X5.here hx rfl (hb hby at_150) rfl rfl ?_
    show Steps p.tables e below (T5.setTop (mkF m 151 #[.val (.int p0), .val (.int p1), .val (.ref r_1), .val (.ref r_2), .val (.int (16 : Int32)), .val (.int (16 : Int32)), .val (.int (273 : Int32)), .val (.int v7_38), .val (.int v8_75), .val (.int v9_110)] [(.ref r_1)])) _
    refine XS.iload X5.here hx rfl (hb hby at_151) rfl  ?_
    show Steps p.tables e below (T5.setTop (mkF m 153 #[.val (.int p0), .val (.int p1), .val (.ref r_1), .val (.ref r_2), .val (.int (16 : Int32)), .val (.int (16 : Int32)), .val (.int (273 : Int32)), .val (.int v7_38), .val (.int v8_75), .val (.int v9_110)] [(.int v8_75), (.ref r_1)])) _
    refine XS.lconst X5.here hx rfl (hb hby at_153) ?_
    exact k
  obtain ⟨T7, h7, X7, e7, W7, A7, st7⟩ := own_stJ X5 hx hZ e5 arr_r_1_2 (j := v8_75) (x := (1 : Int64)) (k := v8_75.toNatClampNeg) (by rw [hv8_75]; exact (own_lane p0).1) rfl (by rw [hv8_75]; exact (own_lane p0).2.1) (g := (mkF m 154 #[.val (.int p0), .val (.int p1), .val (.ref r_1), .val (.ref r_2), .val (.int (16 : Int32)), .val (.int (16 : Int32)), .val (.int (273 : Int32)), .val (.int v7_38), .val (.int v8_75), .val (.int v9_110)] [(.long (1 : Int64)), (.int v8_75), (.ref r_1)])) rfl rfl (hb hby at_154)
  obtain ⟨g_154, hg_154⟩ : ∃ z : Nat → Int64, z = (own_upd own_zJ v8_75.toNatClampNeg (1 : Int64)) := ⟨_, rfl⟩
  rw [← hg_154] at A7
  have sta_com_example_admission_admission_Lanes_COUNT_7 := sta_com_example_admission_admission_Lanes_COUNT_2.wr W7
  have arr_r_2_7 := Q2_0.other W7 ne_r_1_r_2.symm
  have K7 := K2.wr W7 (Or.inr sz_r_1)
  have Z7 := Nat.le_trans Z2 (Nat.le_of_eq W7.size.symm)
  have N7 := Fr.snoc X7 N2 ge_r_1
  have pre8 : ∀ t, Steps p.tables e below (T7.setTop (mkF m 166 #[.val (.int p0), .val (.int p1), .val (.ref r_1), .val (.ref r_2), .val (.int (16 : Int32)), .val (.int (16 : Int32)), .val (.int (273 : Int32)), .val (.int v7_38), .val (.int v8_75), .val (.int v9_110)] [(.long ((g_154 v9_110.toNatClampNeg) + (2 : Int64))), (.int v9_110), (.ref r_1)])) t → Steps p.tables e below (s₁.setTop (entryFrame m #[(.int p0), (.int p1)] maxLocals)) t := by
    intro t k
    refine pre6 t ?_
    show Steps p.tables e below (T5.setTop (mkF m 154 #[.val (.int p0), .val (.int p1), .val (.ref r_1), .val (.ref r_2), .val (.int (16 : Int32)), .val (.int (16 : Int32)), .val (.int (273 : Int32)), .val (.int v7_38), .val (.int v8_75), .val (.int v9_110)] [(.long (1 : Int64)), (.int v8_75), (.ref r_1)])) _
    refine st7 _ ?_
    show Steps p.tables e below (T7.setTop (mkF m 155 #[.val (.int p0), .val (.int p1), .val (.ref r_1), .val (.ref r_2), .val (.int (16 : Int32)), .val (.int (16 : Int32)), .val (.int (273 : Int32)), .val (.int v7_38), .val (.int v8_75), .val (.int v9_110)] [])) _
    refine XS.aloadN X7.here hx rfl (hb hby at_155) rfl rfl ?_
    show Steps p.tables e below (T7.setTop (mkF m 156 #[.val (.int p0), .val (.int p1), .val (.ref r_1), .val (.ref r_2), .val (.int (16 : Int32)), .val (.int (16 : Int32)), .val (.int (273 : Int32)), .val (.int v7_38), .val (.int v8_75), .val (.int v9_110)] [(.ref r_1)])) _
    refine XS.iload X7.here hx rfl (hb hby at_156) rfl  ?_
    show Steps p.tables e below (T7.setTop (mkF m 158 #[.val (.int p0), .val (.int p1), .val (.ref r_1), .val (.ref r_2), .val (.int (16 : Int32)), .val (.int (16 : Int32)), .val (.int (273 : Int32)), .val (.int v7_38), .val (.int v8_75), .val (.int v9_110)] [(.int v9_110), (.ref r_1)])) _
    refine XS.aloadN X7.here hx rfl (hb hby at_158) rfl rfl ?_
    show Steps p.tables e below (T7.setTop (mkF m 159 #[.val (.int p0), .val (.int p1), .val (.ref r_1), .val (.ref r_2), .val (.int (16 : Int32)), .val (.int (16 : Int32)), .val (.int (273 : Int32)), .val (.int v7_38), .val (.int v8_75), .val (.int v9_110)] [(.ref r_1), (.int v9_110), (.ref r_1)])) _
    refine XS.iload X7.here hx rfl (hb hby at_159) rfl  ?_
    show Steps p.tables e below (T7.setTop (mkF m 161 #[.val (.int p0), .val (.int p1), .val (.ref r_1), .val (.ref r_2), .val (.int (16 : Int32)), .val (.int (16 : Int32)), .val (.int (273 : Int32)), .val (.int v7_38), .val (.int v8_75), .val (.int v9_110)] [(.int v9_110), (.ref r_1), (.int v9_110), (.ref r_1)])) _
    refine own_ldJ X7 hx hZ e7 A7 (j := v9_110) (k := v9_110.toNatClampNeg) (by rw [hv9_110]; exact (own_any p1).1) rfl (by rw [hv9_110]; exact (own_any p1).2) (g := (mkF m 161 #[.val (.int p0), .val (.int p1), .val (.ref r_1), .val (.ref r_2), .val (.int (16 : Int32)), .val (.int (16 : Int32)), .val (.int (273 : Int32)), .val (.int v7_38), .val (.int v8_75), .val (.int v9_110)] [(.int v9_110), (.ref r_1), (.int v9_110), (.ref r_1)])) rfl rfl (hb hby at_161) ?_
    show Steps p.tables e below (T7.setTop (mkF m 162 #[.val (.int p0), .val (.int p1), .val (.ref r_1), .val (.ref r_2), .val (.int (16 : Int32)), .val (.int (16 : Int32)), .val (.int (273 : Int32)), .val (.int v7_38), .val (.int v8_75), .val (.int v9_110)] [(.long (g_154 v9_110.toNatClampNeg)), (.int v9_110), (.ref r_1)])) _
    refine X7.ldc2Long hx hown (mvT hZ (hw _ (List.mem_of_getElem? (i := 9) rfl))) (g := (mkF m 162 #[.val (.int p0), .val (.int p1), .val (.ref r_1), .val (.ref r_2), .val (.int (16 : Int32)), .val (.int (16 : Int32)), .val (.int (273 : Int32)), .val (.int v7_38), .val (.int v8_75), .val (.int v9_110)] [(.long (g_154 v9_110.toNatClampNeg)), (.int v9_110), (.ref r_1)])) rfl (hb hby at_162) _ ?_
    show Steps p.tables e below (T7.setTop (mkF m 165 #[.val (.int p0), .val (.int p1), .val (.ref r_1), .val (.ref r_2), .val (.int (16 : Int32)), .val (.int (16 : Int32)), .val (.int (273 : Int32)), .val (.int v7_38), .val (.int v8_75), .val (.int v9_110)] [(.long (2 : Int64)), (.long (g_154 v9_110.toNatClampNeg)), (.int v9_110), (.ref r_1)])) _
    refine XS.ladd X7.here hx rfl (hb hby at_165) rfl ?_
    exact k
  obtain ⟨T9, h9, X9, e9, W9, A9, st9⟩ := own_stJ X7 hx hZ e7 A7 (j := v9_110) (x := ((g_154 v9_110.toNatClampNeg) + (2 : Int64))) (k := v9_110.toNatClampNeg) (by rw [hv9_110]; exact (own_any p1).1) rfl (by rw [hv9_110]; exact (own_any p1).2) (g := (mkF m 166 #[.val (.int p0), .val (.int p1), .val (.ref r_1), .val (.ref r_2), .val (.int (16 : Int32)), .val (.int (16 : Int32)), .val (.int (273 : Int32)), .val (.int v7_38), .val (.int v8_75), .val (.int v9_110)] [(.long ((g_154 v9_110.toNatClampNeg) + (2 : Int64))), (.int v9_110), (.ref r_1)])) rfl rfl (hb hby at_166)
  obtain ⟨g_166, hg_166⟩ : ∃ z : Nat → Int64, z = (own_upd g_154 v9_110.toNatClampNeg ((g_154 v9_110.toNatClampNeg) + (2 : Int64))) := ⟨_, rfl⟩
  rw [← hg_166] at A9
  have sta_com_example_admission_admission_Lanes_COUNT_9 := sta_com_example_admission_admission_Lanes_COUNT_7.wr W9
  have arr_r_2_9 := arr_r_2_7.other W9 ne_r_1_r_2.symm
  have K9 := K7.wr W9 (Or.inr sz_r_1)
  have Z9 := Nat.le_trans Z7 (Nat.le_of_eq W9.size.symm)
  have N9 := Fr.snoc X9 N7 ge_r_1
  have pre10 : ∀ t, Steps p.tables e below (T9.setTop (mkF m 189 #[.val (.int p0), .val (.int p1), .val (.ref r_1), .val (.ref r_2), .val (.int (16 : Int32)), .val (.int (16 : Int32)), .val (.int (273 : Int32)), .val (.int v7_38), .val (.int v8_75), .val (.int v9_110)] [(.ref r_2), (.ref r_1)])) t → Steps p.tables e below (s₁.setTop (entryFrame m #[(.int p0), (.int p1)] maxLocals)) t := by
    intro t k
    refine pre8 t ?_
    show Steps p.tables e below (T7.setTop (mkF m 166 #[.val (.int p0), .val (.int p1), .val (.ref r_1), .val (.ref r_2), .val (.int (16 : Int32)), .val (.int (16 : Int32)), .val (.int (273 : Int32)), .val (.int v7_38), .val (.int v8_75), .val (.int v9_110)] [(.long ((g_154 v9_110.toNatClampNeg) + (2 : Int64))), (.int v9_110), (.ref r_1)])) _
    refine st9 _ ?_
    show Steps p.tables e below (T9.setTop (mkF m 167 #[.val (.int p0), .val (.int p1), .val (.ref r_1), .val (.ref r_2), .val (.int (16 : Int32)), .val (.int (16 : Int32)), .val (.int (273 : Int32)), .val (.int v7_38), .val (.int v8_75), .val (.int v9_110)] [])) _
    refine XS.aloadN X9.here hx rfl (hb hby at_167) rfl rfl ?_
    show Steps p.tables e below (T9.setTop (mkF m 168 #[.val (.int p0), .val (.int p1), .val (.ref r_1), .val (.ref r_2), .val (.int (16 : Int32)), .val (.int (16 : Int32)), .val (.int (273 : Int32)), .val (.int v7_38), .val (.int v8_75), .val (.int v9_110)] [(.ref r_2)])) _
    refine XS.iload X9.here hx rfl (hb hby at_168) rfl  ?_
    show Steps p.tables e below (T9.setTop (mkF m 170 #[.val (.int p0), .val (.int p1), .val (.ref r_1), .val (.ref r_2), .val (.int (16 : Int32)), .val (.int (16 : Int32)), .val (.int (273 : Int32)), .val (.int v7_38), .val (.int v8_75), .val (.int v9_110)] [(.int v8_75), (.ref r_2)])) _
    refine own_ldJ X9 hx hZ e9 arr_r_2_9 (j := v8_75) (k := v8_75.toNatClampNeg) (by rw [hv8_75]; exact (own_lane p0).1) rfl (by rw [hv8_75]; exact (own_lane p0).2.1) (g := (mkF m 170 #[.val (.int p0), .val (.int p1), .val (.ref r_1), .val (.ref r_2), .val (.int (16 : Int32)), .val (.int (16 : Int32)), .val (.int (273 : Int32)), .val (.int v7_38), .val (.int v8_75), .val (.int v9_110)] [(.int v8_75), (.ref r_2)])) rfl rfl (hb hby at_170) ?_
    show Steps p.tables e below (T9.setTop (mkF m 171 #[.val (.int p0), .val (.int p1), .val (.ref r_1), .val (.ref r_2), .val (.int (16 : Int32)), .val (.int (16 : Int32)), .val (.int (273 : Int32)), .val (.int v7_38), .val (.int v8_75), .val (.int v9_110)] [(.long (own_zJ v8_75.toNatClampNeg))])) _
    refine XS.lconst X9.here hx rfl (hb hby at_171) ?_
    show Steps p.tables e below (T9.setTop (mkF m 172 #[.val (.int p0), .val (.int p1), .val (.ref r_1), .val (.ref r_2), .val (.int (16 : Int32)), .val (.int (16 : Int32)), .val (.int (273 : Int32)), .val (.int v7_38), .val (.int v8_75), .val (.int v9_110)] [(.long (0 : Int64)), (.long (own_zJ v8_75.toNatClampNeg))])) _
    refine XS.lcmp X9.here hx rfl (hb hby at_172) rfl ?_
    show Steps p.tables e below (T9.setTop (mkF m 173 #[.val (.int p0), .val (.int p1), .val (.ref r_1), .val (.ref r_2), .val (.int (16 : Int32)), .val (.int (16 : Int32)), .val (.int (273 : Int32)), .val (.int v7_38), .val (.int v8_75), .val (.int v9_110)] [(.int (lcmpW (own_zJ v8_75.toNatClampNeg) (0 : Int64)))])) _
    refine XS.ifNo X9.here hx rfl (hb hby at_173) rfl ((if0 _ _).trans (teq ((lw_eq _ _).mpr (rfl : (own_zJ v8_75.toNatClampNeg) = (0 : Int64)))).2) ?_
    show Steps p.tables e below (T9.setTop (mkF m 176 #[.val (.int p0), .val (.int p1), .val (.ref r_1), .val (.ref r_2), .val (.int (16 : Int32)), .val (.int (16 : Int32)), .val (.int (273 : Int32)), .val (.int v7_38), .val (.int v8_75), .val (.int v9_110)] [])) _
    refine XS.aloadN X9.here hx rfl (hb hby at_176) rfl rfl ?_
    show Steps p.tables e below (T9.setTop (mkF m 177 #[.val (.int p0), .val (.int p1), .val (.ref r_1), .val (.ref r_2), .val (.int (16 : Int32)), .val (.int (16 : Int32)), .val (.int (273 : Int32)), .val (.int v7_38), .val (.int v8_75), .val (.int v9_110)] [(.ref r_2)])) _
    refine XS.iload X9.here hx rfl (hb hby at_177) rfl  ?_
    show Steps p.tables e below (T9.setTop (mkF m 179 #[.val (.int p0), .val (.int p1), .val (.ref r_1), .val (.ref r_2), .val (.int (16 : Int32)), .val (.int (16 : Int32)), .val (.int (273 : Int32)), .val (.int v7_38), .val (.int v8_75), .val (.int v9_110)] [(.int v9_110), (.ref r_2)])) _
    refine own_ldJ X9 hx hZ e9 arr_r_2_9 (j := v9_110) (k := v9_110.toNatClampNeg) (by rw [hv9_110]; exact (own_any p1).1) rfl (by rw [hv9_110]; exact (own_any p1).2) (g := (mkF m 179 #[.val (.int p0), .val (.int p1), .val (.ref r_1), .val (.ref r_2), .val (.int (16 : Int32)), .val (.int (16 : Int32)), .val (.int (273 : Int32)), .val (.int v7_38), .val (.int v8_75), .val (.int v9_110)] [(.int v9_110), (.ref r_2)])) rfl rfl (hb hby at_179) ?_
    show Steps p.tables e below (T9.setTop (mkF m 180 #[.val (.int p0), .val (.int p1), .val (.ref r_1), .val (.ref r_2), .val (.int (16 : Int32)), .val (.int (16 : Int32)), .val (.int (273 : Int32)), .val (.int v7_38), .val (.int v8_75), .val (.int v9_110)] [(.long (own_zJ v9_110.toNatClampNeg))])) _
    refine XS.lconst X9.here hx rfl (hb hby at_180) ?_
    show Steps p.tables e below (T9.setTop (mkF m 181 #[.val (.int p0), .val (.int p1), .val (.ref r_1), .val (.ref r_2), .val (.int (16 : Int32)), .val (.int (16 : Int32)), .val (.int (273 : Int32)), .val (.int v7_38), .val (.int v8_75), .val (.int v9_110)] [(.long (0 : Int64)), (.long (own_zJ v9_110.toNatClampNeg))])) _
    refine XS.lcmp X9.here hx rfl (hb hby at_181) rfl ?_
    show Steps p.tables e below (T9.setTop (mkF m 182 #[.val (.int p0), .val (.int p1), .val (.ref r_1), .val (.ref r_2), .val (.int (16 : Int32)), .val (.int (16 : Int32)), .val (.int (273 : Int32)), .val (.int v7_38), .val (.int v8_75), .val (.int v9_110)] [(.int (lcmpW (own_zJ v9_110.toNatClampNeg) (0 : Int64)))])) _
    refine XS.ifYes X9.here hx rfl (pc0 := 182) (pc' := 187) rfl (hb hby at_182) rfl ((if0 _ _).trans (teq ((lw_eq _ _).mpr (rfl : (own_zJ v9_110.toNatClampNeg) = (0 : Int64)))).1) (by decide) (by decide) ?_
    show Steps p.tables e below (T9.setTop (mkF m 187 #[.val (.int p0), .val (.int p1), .val (.ref r_1), .val (.ref r_2), .val (.int (16 : Int32)), .val (.int (16 : Int32)), .val (.int (273 : Int32)), .val (.int v7_38), .val (.int v8_75), .val (.int v9_110)] [])) _
    refine XS.aloadN X9.here hx rfl (hb hby at_187) rfl rfl ?_
    show Steps p.tables e below (T9.setTop (mkF m 188 #[.val (.int p0), .val (.int p1), .val (.ref r_1), .val (.ref r_2), .val (.int (16 : Int32)), .val (.int (16 : Int32)), .val (.int (273 : Int32)), .val (.int v7_38), .val (.int v8_75), .val (.int v9_110)] [(.ref r_1)])) _
    refine XS.aloadN X9.here hx rfl (hb hby at_188) rfl rfl ?_
    exact k
  have pre11 : ∀ t, Steps p.tables e below (T9.setTop (mkF m 197 #[.val (.int p0), .val (.int p1), .val (.ref r_1), .val (.ref r_2), .val (.int (16 : Int32)), .val (.int (16 : Int32)), .val (.int (273 : Int32)), .val (.int v7_38), .val (.int v8_75), .val (.int v9_110)] [(.int (1 : Int32))])) t → Steps p.tables e below (s₁.setTop (entryFrame m #[(.int p0), (.int p1)] maxLocals)) t := by
    intro t k
    refine pre10 t ?_
    show Steps p.tables e below (T9.setTop (mkF m 189 #[.val (.int p0), .val (.int p1), .val (.ref r_1), .val (.ref r_2), .val (.int (16 : Int32)), .val (.int (16 : Int32)), .val (.int (273 : Int32)), .val (.int v7_38), .val (.int v8_75), .val (.int v9_110)] [(.ref r_2), (.ref r_1)])) _
    refine Jvm.RoadKit.acmp (g := (mkF m 189 #[.val (.int p0), .val (.int p1), .val (.ref r_1), .val (.ref r_2), .val (.int (16 : Int32)), .val (.int (16 : Int32)), .val (.int (273 : Int32)), .val (.int v7_38), .val (.int v8_75), .val (.int v9_110)] [(.ref r_2), (.ref r_1)])) X9 hx rfl rfl rfl (pc0 := 189) (pc' := 196) (same := false) rfl (hb hby at_189) rfl (decide_eq_false fun q => (ne_r_1_r_2 : r_1 ≠ r_2) (Value.ref.inj q)) (by decide) (by decide) ?_
    show Steps p.tables e below (T9.setTop (mkF m 196 #[.val (.int p0), .val (.int p1), .val (.ref r_1), .val (.ref r_2), .val (.int (16 : Int32)), .val (.int (16 : Int32)), .val (.int (273 : Int32)), .val (.int v7_38), .val (.int v8_75), .val (.int v9_110)] [])) _
    refine XS.iconst X9.here hx rfl (hb hby at_196) ?_
    exact k
  obtain ⟨fs, hr, hrun, hended, hW, hsame⟩ := X9.leave (v := some (.int (1 : Int32))) (fun h => by rw [Bd.returns] at h; cases h)
  refine ⟨_, _, pre11 _ ?_, hrun, hended, _, _, rfl, ?_, ⟨_, rfl⟩, hW, hsame.mono (by decide) (by decide)⟩
  · show Steps p.tables e below (T9.setTop (mkF m 197 #[.val (.int p0), .val (.int p1), .val (.ref r_1), .val (.ref r_2), .val (.int (16 : Int32)), .val (.int (16 : Int32)), .val (.int (273 : Int32)), .val (.int v7_38), .val (.int v8_75), .val (.int v9_110)] [(.int (1 : Int32))])) _
    exact retN X9 hx (t := .boolean) Bd.returns (by simp) (hb hby at_197) hr
  · show Q_0 Z p0 p1 h0 n0 _ T9.heap _
    rw [e9]
    exact ⟨congrArg (fun z => some (Value.int z)) (by subst hv7_38 hv8_75 hv9_110 hg_154 hg_166; rfl : (1 : Int32) = f_0 p0 p1), N9, trivial⟩
theorem own_law (p0 p1 : Int32) : f_0 p0 p1 = 1 := rfl
set_option maxRecDepth 65536 in
set_option maxHeartbeats 40000000 in
theorem comes_1 {Post : Tables → Env → Array Value → State → Outcome → State → Prop} (hpost : ∀ tb e args s v u, (limb_1_1.after args s (.returned v) u = true ∧ limb_1_2.after args s (.returned v) u = true ∧ True) → FrameEnd s (.returned v) u (Jvm.fieldLocs frame_1_writes args s ++ Jvm.arrayLocs frame_1_arrays args s ++ Jvm.staticLocs frame_1_statics s) 16 1216 → Post tb e args s (.returned v) u) :
    ArmFor flags0 classFile x code maxLocals ret World_1 tables_1 room_1 Calls_1 rest_1 Pre_1 Post := by
  intro l hfl _ _ p e ha hc hk s m args below hf hA hF happ hP
  obtain ⟨hcalls, hrest, hpre⟩ := hP
  obtain ⟨-, -, -, hnamed, -, -, -, hat⟩ := (Spec.applies_iff hf).mp happ
  obtain ⟨hg, hn⟩ := and_e (Cond.before_iff.mp (show (Jvm.Cond.and given_1 narrow_1).before args s = true from hpre))
  obtain ⟨g0, gt0⟩ := and_e hg
  obtain ⟨ga0, gt1⟩ := and_e gt0
  obtain ⟨w0, w1, rfl⟩ : ∃ w0 w1 : Value, args = #[w0, w1] := by
    have hs : args.size = 2 := by simpa [Cond.value, given_1] using g0
    obtain ⟨L⟩ := args
    match L, hs with
    | [w0, w1], _ => exact ⟨w0, w1, rfl⟩
  have hw := fun d (hd : d ∈ tables_1) => atoms_spec (ws := Jvm.Cond.code x code maxLocals ret :: tables_1) hat d (List.mem_cons_of_mem _ hd)
  have hfit : Fit s := fun {y c} hc i hi => by
    obtain ⟨ha, rfl⟩ := Array.getElem?_eq_some_iff.mp hc
    have q := List.all_eq_true.mp ((Array.all_eq_true_iff_forall_mem.mp hF) _ (Array.getElem_mem ha)) i (List.mem_range.mpr hi)
    simpa [Array.getElem?_eq_getElem hi] using q
  obtain ⟨i0, ei0⟩ := is_v ga0
  obtain rfl : w0 = (.int i0) := Option.some.inj ei0
  obtain ⟨i1, ei1⟩ := is_v gt1
  obtain rfl : w1 = (.int i1) := Option.some.inj ei1
  have S0 : Sta s s.heap "com/example/admission/admission/Lanes" "COUNT" "I" (.int (16 : Int32)) := Sta.start (own_eqi hn) (Or.inr ⟨hw _ (List.mem_of_getElem? (i := 2) rfl), hw _ (List.mem_of_getElem? (i := 5) rfl)⟩)
  obtain ⟨n, o, h1, h2, h3, _, L, rfl, ⟨rfl, N⟩, hq⟩ := rm_0 l s _ hw tables_1 i0 i1  s.heap s.heap.size (Nat.le_refl _) S0 p e ha hc hk s m _ below hf ((Spec.applies_iff_loose hf).mp happ).1 ⟨rfl, State.Warmed39.refl s, rfl⟩ trivial
  refine ⟨n, _, h1, h2, h3, hpost _ _ _ _ _ _ ⟨Cond.after_iff.mpr rfl, Cond.after_iff.mpr (eq_i res_at (Term.int_eval (1)) (congrArg Value.int (own_law _ _))), trivial⟩ ⟨hq.1, hq.2.1, (hq.2.2.sift fun y hy => Or.inr (N.1 y hy)).mono (by decide) (by decide)⟩⟩
theorem main_1_1 : Claimed_1_1 := comes_1 fun _ _ _ _ _ _ h hF => ⟨h.1, hF⟩
theorem main_1_2 : Claimed_1_2 := comes_1 fun _ _ _ _ _ _ h hF => ⟨h.2.1, hF⟩
end Jvm.Pilot.@@N@@
namespace Jvm.Pilot.@@N@@
open Jvm Jvm.ClassFile Sem Op Lib Jvm.Free Jvm.Stand Jvm.Pilot.@@N@@.Jvm.D
/-! MADE BY PROGRAM (witnessworld.py) out of the Statement's table words and the real class files: 11 classes; the members and pool entries that the words name. The judged class is class 1, her method 1. -/
namespace start1
open Jvm.ClassFile
def u (s : String) : CpInfo := .utf8 (stringToUtf16 s)
/-- a pool by its gaps: so many unusable entries, then the entry; so many at the end -/
def gap : Nat → List CpInfo → List CpInfo
  | 0, r => r
  | n + 1, r => .unusable :: gap n r
def poolList (es : List (Nat × CpInfo)) (last : Nat) : List CpInfo := es.foldr (fun e r => gap e.1 (e.2 :: r)) (gap last [])
def pool (es : List (Nat × CpInfo)) (last : Nat) : Array CpInfo := ⟨poolList es last⟩
def fileOf (pool : Array CpInfo) (this : Nat) (attrs : Array Attribute := #[]) (ms : Array MethodInfo := #[]) (fl : Nat := 33) (sup : Nat := 0) (ifs : Array Nat := #[]) (fds : Array FieldInfo := #[]) : ClassFile where
  minorVersion := 0
  majorVersion := 65
  constantPool := pool
  accessFlags := fl
  thisClass := this
  superClass := sup
  interfaces := ifs
  fields := fds
  methods := ms
  attributes := attrs
def plain (name : String) (sup : Option ClassId) : Class where
  name := name
  kind := .ordinary
  loader := none
  accessFlags := 33
  super := sup
  interfaces := #[]
  cf := none
  fields := #[]
  methods := #[]
  instanceTypes := #[]
  staticTypes := #[]
  resolved := #[]
  callSites := []
  init := .initialized
  statics := none
  mirror := none

def pool0 : Array CpInfo := pool [(5, u "<init>"), (0, u "()V"), (1, .class_ 10), (1, u "java/lang/Object")] 113

def k0m0 : Method := { name := "<init>", desc := "()V", sig := { parameters := [], returnType := none }, accessFlags := 1, code := none }
/-- java/lang/Object -/
def k0 : Class := { plain "java/lang/Object" none with
  accessFlags := 33
  interfaces := #[]
  cf := some (fileOf pool0 8 #[] #[{ accessFlags := 1, nameIndex := 5, descriptorIndex := 6, attributes := #[] }] 33 0 #[] #[])
  fields := #[]
  methods := #[k0m0]
  instanceTypes := #[]
  staticTypes := #[]
  resolved := Array.replicate 124 none
  statics := none }

def pool1 : Array CpInfo := pool [(2, .class_ 4), (1, u "java/lang/Object"), (0, u "<init>"), (0, u "()V"), (0, .methodref 8 9), (0, .class_ 10), (0, .nameAndType 11 12), (0, u "com/example/admission/admission/Lanes"), (0, u "words"), (0, u "()[J"), (0, .fieldref 8 14), (0, .nameAndType 15 16), (0, u "COUNT"), (0, u "I"), (0, .integer 2147483647), (0, .long 2), (1, .class_ 21), (0, u "com/example/admission/admission/LanesWordsPinLaw"), (2, u "law"), (0, u "(II)Z")] 5

def k1m0 : Method := { name := "<init>", desc := "()V", sig := { parameters := [], returnType := none }, accessFlags := 2, code := none }
def k1c1 : Code := { maxStack := 6, maxLocals := 10, code := code, exceptionTable := #[], attributes := #[] }
def k1m1 : Method := { name := "law", desc := "(II)Z", sig := { parameters := [.int, .int], returnType := some .boolean }, accessFlags := 9, code := some k1c1 }
/-- com/example/admission/admission/LanesWordsPinLaw -/
def k1 : Class := { plain "com/example/admission/admission/LanesWordsPinLaw" (some 0) with
  accessFlags := 49
  interfaces := #[]
  cf := some (fileOf pool1 20 #[] #[{ accessFlags := 2, nameIndex := 5, descriptorIndex := 6, attributes := #[] }, { accessFlags := 9, nameIndex := 24, descriptorIndex := 25, attributes := #[] }] 49 2 #[] #[])
  fields := #[]
  methods := #[k1m0, k1m1]
  instanceTypes := #[]
  staticTypes := #[]
  resolved := Array.replicate 31 none
  statics := none }

def pool2 : Array CpInfo := pool [(2, .class_ 4), (1, u "java/lang/Object"), (0, u "<init>"), (0, u "()V"), (0, .fieldref 8 9), (0, .class_ 10), (0, .nameAndType 11 12), (0, u "com/example/admission/admission/Lanes"), (0, u "COUNT"), (0, u "I"), (10, u "SHIFT"), (27, u "APART"), (4, u "words"), (0, u "()[J")] 5

def k2m0 : Method := { name := "<init>", desc := "()V", sig := { parameters := [], returnType := none }, accessFlags := 2, code := none }
def k2c1 : Code := { maxStack := 2, maxLocals := 0, code := prog_17_method_2_code, exceptionTable := #[], attributes := #[] }
def k2m1 : Method := { name := "words", desc := "()[J", sig := { parameters := [], returnType := some (.array .long) }, accessFlags := 8, code := some k2c1 }
/-- com/example/admission/admission/Lanes -/
def k2 : Class := { plain "com/example/admission/admission/Lanes" (some 0) with
  accessFlags := 48
  interfaces := #[]
  cf := some (fileOf pool2 8 #[] #[{ accessFlags := 2, nameIndex := 5, descriptorIndex := 6, attributes := #[] }, { accessFlags := 8, nameIndex := 56, descriptorIndex := 57, attributes := #[] }] 48 2 #[] #[{ accessFlags := 24, nameIndex := 51, descriptorIndex := 12, attributes := #[] }, { accessFlags := 24, nameIndex := 11, descriptorIndex := 12, attributes := #[] }, { accessFlags := 26, nameIndex := 23, descriptorIndex := 12, attributes := #[] }])
  fields := #[{ name := "APART", type := .int, accessFlags := 24, slot := 0, constantValue := 0 }, { name := "COUNT", type := .int, accessFlags := 24, slot := 1, constantValue := 0 }, { name := "SHIFT", type := .int, accessFlags := 26, slot := 2, constantValue := 0 }]
  methods := #[k2m0, k2m1]
  instanceTypes := #[]
  staticTypes := #[.int, .int, .int]
  resolved := Array.replicate 63 none
  statics := some 0 }

def pool3 : Array CpInfo := pool [(1, u "java/lang/Cloneable"), (0, .class_ 1), (0, u "java/lang/Object"), (0, .class_ 3)] 3

/-- java/lang/Cloneable -/
def k3 : Class := { plain "java/lang/Cloneable" (some 0) with
  accessFlags := 1537
  interfaces := #[]
  cf := some (fileOf pool3 2 #[] #[] 1537 4 #[] #[])
  fields := #[]
  methods := #[]
  instanceTypes := #[]
  staticTypes := #[]
  resolved := Array.replicate 8 none
  statics := none }

def pool4 : Array CpInfo := pool [(1, u "java/io/Serializable"), (0, .class_ 1), (0, u "java/lang/Object"), (0, .class_ 3)] 3

/-- java/io/Serializable -/
def k4 : Class := { plain "java/io/Serializable" (some 0) with
  accessFlags := 1537
  interfaces := #[]
  cf := some (fileOf pool4 2 #[] #[] 1537 4 #[] #[])
  fields := #[]
  methods := #[]
  instanceTypes := #[]
  staticTypes := #[]
  resolved := Array.replicate 8 none
  statics := none }

/-- the primitive byte -/
def k5 : Class := { plain "byte" none with kind := .primitive 'B', accessFlags := 0x411 }
/-- [B -/
def k6 : Class := { plain "[B" (some 0) with kind := .array 5 .byte, interfaces := #[3, 4], accessFlags := 1041 }

/-- the primitive int -/
def k7 : Class := { plain "int" none with kind := .primitive 'I', accessFlags := 0x411 }
/-- [I -/
def k8 : Class := { plain "[I" (some 0) with kind := .array 7 .int, interfaces := #[3, 4], accessFlags := 1041 }

/-- the primitive long -/
def k9 : Class := { plain "long" none with kind := .primitive 'J', accessFlags := 0x411 }
/-- [J -/
def k10 : Class := { plain "[J" (some 0) with kind := .array 9 .long, interfaces := #[3, 4], accessFlags := 1041 }

def heap : Heap := #[{ cls := 2, slots := #[.int 0, .int 16, .int 0], vm := .statics 2 }]
def classes : Array Class := #[k0, k1, k2, k3, k4, k5, k6, k7, k8, k9, k10]
def interned : List (Array UInt16 × Addr) := []
def slotsUsed : Nat := 3
def theMethod : MethodId := ⟨1, 1⟩
def args0 : Array Value := #[.int 5, .int 7]
def aboutOver (below : List Frame) : State where
  vm := { classes := classes, interned := interned.toArray }
  heap := heap
  slotsUsed := slotsUsed
  threads := #[{ frames := .invoking theMethod args0 :: below }]
def below0 : List Frame := [.native { method := ⟨0, 0⟩, args := #[] }]
def about1 : State := aboutOver below0
def p0 : Program := .bare "" "" ""
def e0 : Env := launch0.env 0 0 0
theorem w_frames : about1.frames = Frame.invoking theMethod args0 :: below0 := rfl
set_option maxRecDepth 65536 in
theorem w_args : argsFit about1.vm theMethod args0 = true := by decide +kernel
set_option maxRecDepth 65536 in
theorem w_heap : heapFits about1 = true := by decide +kernel
set_option maxRecDepth 65536 in
theorem w_runnable : about1.curStatus? = some .runnable := by decide +kernel
set_option maxRecDepth 65536 in
theorem w_alone : about1.alone = true := by decide +kernel
set_option maxRecDepth 65536 in
theorem w_named : about1.methodNamed? x = some theMethod := by decide +kernel
set_option maxRecDepth 65536 in
theorem w_hears : about1.hears theMethod below0 = true := by decide +kernel
set_option maxRecDepth 65536 in
theorem w_ripe : about1.ripe theMethod args0 below0 = true := by decide +kernel
theorem w_running : about1.status = .running := rfl
set_option maxRecDepth 65536 in
theorem w_room : about1.hasRoom e0.platform room_1 = true :=
  launch0.hasRoom_least _ room_1 (by decide +kernel) (by decide +kernel) (by decide +kernel) (by decide +kernel) (by decide +kernel) (by decide +kernel)
theorem allAtoms_all (ts : List Jvm.Cond) (a : Array Jvm.Value) (st : Jvm.State) : (allAtoms ts).before a st = ts.all (fun c => c.before a st) := by
  induction ts with
  | nil => rfl
  | cons c t ih =>
    show (Jvm.Cond.and c (allAtoms t)).before a st = _
    rw [Jvm.Cond.before_and, ih, List.all_cons]
def words1 : List Jvm.Cond := Jvm.Cond.code x code maxLocals ret :: tables_1
/-- a 'code' word, met by the world's own term for the bytes: nothing is compared byte by byte -/
theorem code_word {y : MethodName} {bytes : ByteArray} {mx : Nat} {rt : Option FieldType} {a : Array Value} {s : State} {m : MethodId} {meth : Method} {c : Code} (h1 : s.methodNamed? y = some m) (h2 : s.vm.method? m = some meth) (h3 : meth.code = some c) (h4 : c.code = bytes)
    (h5 : (c.maxLocals == mx && c.exceptionTable.isEmpty && decide (c.maxStack ≤ mostOperands) && decide (meth.sig.returnType = rt) && !meth.locks && decide (parseMethodDescriptor y.desc = some meth.sig)) = true) : (Jvm.Cond.code y bytes mx rt).before a s = true := by
  simp only [Bool.and_eq_true, beq_iff_eq, Bool.not_eq_true', decide_eq_true_eq] at h5
  obtain ⟨⟨⟨⟨⟨g1, g2⟩, g3⟩, g4⟩, g5⟩, g6⟩ := h5
  simp [Cond.before, Cond.holds, Cond.value, h1, h2, h3, h4, g1, g2, g3, g4, g5, g6]
def isCode : Jvm.Cond → Bool
  | .code _ _ _ _ => true
  | _ => false
theorem all_split {L : List Jvm.Cond} {P : Jvm.Cond → Bool} (h1 : L.all (fun c => isCode c || P c) = true) (h2 : ∀ c ∈ L.filter isCode, P c = true) : L.all P = true := by
  refine List.all_eq_true.mpr fun c hc => ?_
  have h := List.all_eq_true.mp h1 c hc
  rcases Bool.eq_false_or_eq_true (isCode c) with hi | hi
  · exact h2 c (List.mem_filter.mpr ⟨hc, hi⟩)
  · simpa [hi] using h
set_option maxRecDepth 65536 in
theorem w_c0 : (Jvm.Cond.code x code maxLocals ret).before args0 about1 = true := code_word (m := ⟨1, 1⟩) (meth := k1m1) (c := k1c1) (by decide +kernel) rfl rfl rfl (by decide +kernel)
set_option maxRecDepth 65536 in
theorem w_c1 : (Jvm.Cond.code ({ cls := "com/example/admission/admission/Lanes", name := "words", desc := "()[J" } : Jvm.MethodName) prog_17_method_2_code (0 : Nat) (Option.some (Jvm.ClassFile.FieldType.array Jvm.ClassFile.FieldType.long))).before args0 about1 = true := code_word (m := ⟨2, 1⟩) (meth := k2m1) (c := k2c1) (by decide +kernel) rfl rfl rfl (by decide +kernel)
def codes1 : List Jvm.Cond := [Jvm.Cond.code x code maxLocals ret, Jvm.Cond.code ({ cls := "com/example/admission/admission/Lanes", name := "words", desc := "()[J" } : Jvm.MethodName) prog_17_method_2_code (0 : Nat) (Option.some (Jvm.ClassFile.FieldType.array Jvm.ClassFile.FieldType.long))]
set_option maxRecDepth 65536 in
theorem codes_eq : words1.filter isCode = codes1 := rfl
theorem w_codes : ∀ c ∈ words1.filter isCode, c.before args0 about1 = true := by
  rw [codes_eq]
  intro c hc
  simp only [codes1, List.mem_cons, List.not_mem_nil, or_false] at hc
  rcases hc with rfl | rfl
  · exact w_c0
  · exact w_c1
set_option maxRecDepth 65536 in
theorem w_t1 : words1.all (fun c => isCode c || c.before args0 about1) = true := by decide +kernel
theorem w_tables : (allAtoms (Jvm.Cond.code x code maxLocals ret :: tables_1)).before args0 about1 = true := by
  rw [allAtoms_all]
  show words1.all (fun c => c.before args0 about1) = true
  refine all_split ?_ w_codes
  rw [w_t1]
set_option maxRecDepth 65536 in
theorem w_case : (Jvm.Cond.and given_1 narrow_1).before args0 about1 = true := by decide +kernel
theorem w_applies : (headSpec (Jvm.Cond.code x code maxLocals ret :: tables_1) room_1).applies x e0.platform about1 = true :=
  (Spec.applies_iff w_frames).mpr ⟨w_running, w_runnable, w_alone, w_named, w_hears, w_ripe, w_room, w_tables⟩
theorem atStart : AtStart classFile x code maxLocals ret World_1 tables_1 room_1 Calls_1 rest_1 Pre_1 launch0 p0 e0 about1 theMethod args0 below0 :=
  ⟨lists_1, trivial, launch0.admits_env _ _ _, launch0.least_env, fairChoices_fair.cas, fairChoices_fair.clock, w_frames, w_args, w_heap, w_applies, trivial, trivial, w_case⟩
end start1
theorem witness_1 : WitnessClaimed_1 := ⟨start1.p0, start1.e0, start1.about1, start1.theMethod, start1.args0, start1.below0, start1.atStart⟩
end Jvm.Pilot.@@N@@
