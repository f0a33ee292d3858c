import JvmDerived
import JvmDerived.Pilot.@@N@@Statement
import JvmDerived.Pilot.@@N@@Code
set_option linter.unusedVariables false
set_option linter.unusedSimpArgs false
namespace Jvm.RoadKit
open Sem ClassFile Op Lib Jvm.Stand Jvm.Free Jvm.LawKit
section New
variable {p : Program} {l : Launch} {e : Env} {R : Room} {s : State} {m : MethodId} {args : Array Value} {below : List Frame} {meth : Method} {c : Code} {T : State} {locs : List Loc} {cells slots : Nat}
theorem retI (X : Stand p l e R s m args below meth c T locs cells slots) (hx : p.tables.exec = Jvm.exec) {pc : Nat} {Ls : Array Slot} {z : Int32} {rest : List Value} (hret : meth.sig.returnType = some .int) (hd : decode c.code pc = .ok (.ireturn, 1)) {fs : List Frame}
    (hl : ∀ (f : JFrame) (acts : List Action), f.method = m → f.locked = none → f.entered = [] → (doReturn e (T.setTop f) acts (some (.int z))).1 = T.setFrames fs) : Steps p.tables e below (T.setTop (mkF m pc Ls (.int z :: rest))) (T.setFrames fs) := by
  have hm' : T.vm.method? m = some meth := X.method'
  have hn : narrow .int (.int z) = .int z := rfl
  show Steps p.tables e below (T.setTop { method := m, pc := pc, locals := Ls, stack := _ :: rest, locked := none }) _
  jvm_step X.here [X.here.top, hx, hd, hm', hret, hn]
  first | (intro acts; rw [hl _ acts rfl rfl rfl]) | rw [hl _ _ rfl rfl rfl]
  exact Steps.refl _
theorem own_lremM {g : JFrame} {target : State} (X : Stand p l e R s m args below meth c T locs cells slots) (hx : p.tables.exec = Jvm.exec) (hg : g.method = m) {x y : Int64} {rest : List Value} (hd : decode c.code g.pc = .ok (.lrem, 1)) (hs : g.stack = .long y :: .long x :: rest) (hy : y ≠ 0)
    (hr : Steps p.tables e below (T.setTop { g with pc := g.pc + 1, stack := .long (x % y) :: rest }) target) : Steps p.tables e below (T.setTop g) target := by
  have q : x - x / y * y = x % y := lrem_mod x y
  exact XS.lrem X.here hx hg hd hs hy (by rw [q]; exact hr)
end New
end Jvm.RoadKit
namespace Jvm.RoadKit
open Sem ClassFile Op Lib Jvm.Stand Jvm.Free Jvm.LawKit
section OwnA
variable {p : Program} {l : Launch} {e : Env} {R : Room} {s : State} {m : MethodId} {args : Array Value} {below : List Frame} {meth : Method} {c : Code} {T : State} {locs : List Loc} {cells slots : Nat} {Z : State} {a0 : Array Value} {h h' : Heap} {a b : Addr} {ty : FieldType} {n : Nat} {G : Nat → Value}
def own_upd {α : Type} (g : Nat → α) (k : Nat) (x : α) (i : Nat) : α := if i = k then x else g i
def own_zI (_ : Nat) : Int32 := 0
def own_zJ (_ : Nat) : Int64 := 0
def own_A (Z : State) (h : Heap) (a : Addr) (ty : FieldType) (n : Nat) (G : Nat → Value) : Prop := ∃ c : Cell, Arr Z h a c ty ∧ c.slots.size = n ∧ ∀ i, i < n → c.slots[i]? = some (G i) ∧ fits ty (G i) = true
theorem own_A.lt (F : own_A Z h a ty n G) : a < h.size := by obtain ⟨c, A, -⟩ := F; exact A.lt
theorem own_A.ext (F : own_A Z h a ty n G) (E : Ext h h') : own_A Z h' a ty n G := by obtain ⟨c, A, r⟩ := F; exact ⟨c, A.ext E, r⟩
theorem own_A.other {sl : Nat} {v : Value} (F : own_A Z h b ty n G) (W : Wr h h' a sl v) (q : b ≠ a) : own_A Z h' b ty n G := by obtain ⟨c, A, r⟩ := F; exact ⟨c, A.other W q, r⟩
theorem own_A.keep {ws : List Addr} (F : own_A Z h a ty n G) (K : Keep h h' ws) (q : a ∉ ws) : own_A Z h' a ty n G := by obtain ⟨c, A, r⟩ := F; exact ⟨c, ⟨K.2.1 a c A.1 q, A.2⟩, r⟩
theorem own_A.new {k : ClassId} {z : Int32} (A : Arr Z h a (newA k ty z) ty) (q : z.toNatClampNeg = n) (hG : ∀ i, G i = defaultValue ty) : own_A Z h a ty n G :=
  ⟨_, A, by rw [sz_new, q], fun i hi => ⟨by rw [hG]; rw [← q] at hi; simp [newA, hi], by rw [hG]; cases ty <;> rfl⟩⟩
theorem own_A.set {k : Nat} {v : Value} (F : own_A Z h a ty n G) (W : Wr h h' a k v) (hk : k < n) (hf : fits ty v = true) : own_A Z h' a ty n (own_upd G k v) := by
  obtain ⟨c, A, q, r⟩ := F
  refine ⟨c.setSlot k v, A.same W, by rw [sz_set, q], fun i hi => ?_⟩
  by_cases e : i = k
  · subst e
    exact ⟨by simp [Cell.setSlot, own_upd, q, hk], by simpa [own_upd] using hf⟩
  · have r1 := r i hi
    have r2 : (c.setSlot k v).slots[i]? = c.slots[i]? := Array.getElem?_setIfInBounds_ne (Ne.symm e)
    have r3 : own_upd G k v i = G i := if_neg e
    rw [r2, r3]; exact r1
theorem own_upd_int (g : Nat → Int32) (k : Nat) (x : Int32) : own_upd (fun i => Value.int (g i)) k (.int x) = fun i => Value.int (own_upd g k x i) := by funext i; unfold own_upd; split <;> rfl
theorem own_upd_long (g : Nat → Int64) (k : Nat) (x : Int64) : own_upd (fun i => Value.long (g i)) k (.long x) = fun i => Value.long (own_upd g k x i) := by funext i; unfold own_upd; split <;> rfl
theorem own_inb {c : Cell} {j : Int32} {k : Nat} (q : c.slots.size = n) (hj0 : ¬ j < 0) (hk : j.toNatClampNeg = k) (hkn : k < n) : ¬ (j < 0 ∨ c.slots.size ≤ j.toNatClampNeg) := fun y => y.elim hj0 fun z => by rw [q, hk] at z; exact absurd hkn (Nat.not_lt.mpr z)
theorem own_stI {g0 : Nat → Int32} (X : Stand p l e R s m args below meth c T locs cells slots) (hx : p.tables.exec = Jvm.exec) (hZ : Z.Warmed39 s.vm) (eT : T.heap = h) (F : own_A Z h a .int n (fun i => .int (g0 i))) {j x : Int32} {k : Nat} (hj0 : ¬ j < 0) (hk : j.toNatClampNeg = k) (hkn : k < n) {g : JFrame} (hg : g.method = m) {rest : List Value} (hs : g.stack = .int x :: .int j :: .ref a :: rest) (hd : decode c.code g.pc = .ok (.iastore, 1)) :
    ∃ T' h', Stand p l e R s m args below meth c T' (locs ++ [⟨a, j.toNatClampNeg⟩]) cells slots ∧ T'.heap = h' ∧ Wr h h' a j.toNatClampNeg (.int x) ∧ own_A Z h' a .int n (fun i => .int (own_upd g0 k x i)) ∧ ∀ target, Steps p.tables e below (T'.setTop { g with pc := g.pc + 1, stack := rest }) target → Steps p.tables e below (T.setTop g) target := by
  obtain ⟨cl, A, q, r⟩ := id F
  obtain ⟨T', h', X', e', W, st⟩ := stI X hx hZ eT A (j := j) (x := x) (own_inb q hj0 hk hkn) hg hs hd
  exact ⟨T', h', X', e', W, own_upd_int g0 k x ▸ hk ▸ F.set W (by rw [hk]; exact hkn) rfl, st⟩
theorem own_stJ {g0 : Nat → Int64} (X : Stand p l e R s m args below meth c T locs cells slots) (hx : p.tables.exec = Jvm.exec) (hZ : Z.Warmed39 s.vm) (eT : T.heap = h) (F : own_A Z h a .long n (fun i => .long (g0 i))) {j : Int32} {x : Int64} {k : Nat} (hj0 : ¬ j < 0) (hk : j.toNatClampNeg = k) (hkn : k < n) {g : JFrame} (hg : g.method = m) {rest : List Value} (hs : g.stack = .long x :: .int j :: .ref a :: rest) (hd : decode c.code g.pc = .ok (.lastore, 1)) :
    ∃ T' h', Stand p l e R s m args below meth c T' (locs ++ [⟨a, j.toNatClampNeg⟩]) cells slots ∧ T'.heap = h' ∧ Wr h h' a j.toNatClampNeg (.long x) ∧ own_A Z h' a .long n (fun i => .long (own_upd g0 k x i)) ∧ ∀ target, Steps p.tables e below (T'.setTop { g with pc := g.pc + 1, stack := rest }) target → Steps p.tables e below (T.setTop g) target := by
  obtain ⟨cl, A, q, r⟩ := id F
  obtain ⟨T', h', X', e', W, st⟩ := stJ X hx hZ eT A (j := j) (x := x) (own_inb q hj0 hk hkn) hg hs hd
  exact ⟨T', h', X', e', W, own_upd_long g0 k x ▸ hk ▸ F.set W (by rw [hk]; exact hkn) rfl, st⟩
theorem own_stB {g0 : Nat → Int32} (X : Stand p l e R s m args below meth c T locs cells slots) (hx : p.tables.exec = Jvm.exec) (hZ : Z.Warmed39 s.vm) (eT : T.heap = h) (F : own_A Z h a .byte n (fun i => .int (g0 i))) {j x : Int32} {k : Nat} (hj0 : ¬ j < 0) (hk : j.toNatClampNeg = k) (hkn : k < n) {g : JFrame} (hg : g.method = m) {rest : List Value} (hs : g.stack = .int x :: .int j :: .ref a :: rest) (hd : decode c.code g.pc = .ok (.bastore, 1)) :
    ∃ T' h', Stand p l e R s m args below meth c T' (locs ++ [⟨a, j.toNatClampNeg⟩]) cells slots ∧ T'.heap = h' ∧ Wr h h' a j.toNatClampNeg (.int x.toInt8.toInt32) ∧ own_A Z h' a .byte n (fun i => .int (own_upd g0 k x.toInt8.toInt32 i)) ∧ ∀ target, Steps p.tables e below (T'.setTop { g with pc := g.pc + 1, stack := rest }) target → Steps p.tables e below (T.setTop g) target := by
  obtain ⟨cl, A, q, r⟩ := id F
  obtain ⟨T', h', X', e', W, st⟩ := stB X hx hZ eT A (j := j) (x := x) (own_inb q hj0 hk hkn) hg hs hd
  have hfb : fits .byte (.int (nar .byte x)) = true := fits_nar_byte x
  exact ⟨T', h', X', e', W, own_upd_int g0 k _ ▸ hk ▸ F.set W (by rw [hk]; exact hkn) hfb, st⟩
theorem own_stC {g0 : Nat → Int32} (X : Stand p l e R s m args below meth c T locs cells slots) (hx : p.tables.exec = Jvm.exec) (hZ : Z.Warmed39 s.vm) (eT : T.heap = h) (F : own_A Z h a .char n (fun i => .int (g0 i))) {j x : Int32} {k : Nat} (hj0 : ¬ j < 0) (hk : j.toNatClampNeg = k) (hkn : k < n) {g : JFrame} (hg : g.method = m) {rest : List Value} (hs : g.stack = .int x :: .int j :: .ref a :: rest) (hd : decode c.code g.pc = .ok (.castore, 1)) :
    ∃ T' h', Stand p l e R s m args below meth c T' (locs ++ [⟨a, j.toNatClampNeg⟩]) cells slots ∧ T'.heap = h' ∧ Wr h h' a j.toNatClampNeg (.int x.toUInt32.toUInt16.toUInt32.toInt32) ∧ own_A Z h' a .char n (fun i => .int (own_upd g0 k x.toUInt32.toUInt16.toUInt32.toInt32 i)) ∧ ∀ target, Steps p.tables e below (T'.setTop { g with pc := g.pc + 1, stack := rest }) target → Steps p.tables e below (T.setTop g) target := by
  obtain ⟨cl, A, q, r⟩ := id F
  obtain ⟨T', h', X', e', W, st⟩ := stC X hx hZ eT A (j := j) (x := x) (own_inb q hj0 hk hkn) hg hs hd
  have hfc : fits .char (.int (nar .char x)) = true := fits_nar_char x
  exact ⟨T', h', X', e', W, own_upd_int g0 k _ ▸ hk ▸ F.set W (by rw [hk]; exact hkn) hfc, st⟩
theorem own_ldI {g0 : Nat → Int32} (X : Stand p l e R s m args below meth c T locs cells slots) (hx : p.tables.exec = Jvm.exec) (hZ : Z.Warmed39 s.vm) (eT : T.heap = h) (F : own_A Z h a .int n (fun i => .int (g0 i))) {j : Int32} {k : Nat} (hj0 : ¬ j < 0) (hk : j.toNatClampNeg = k) (hkn : k < n) {g : JFrame} (hg : g.method = m) {rest : List Value} (hs : g.stack = .int j :: .ref a :: rest) (hd : decode c.code g.pc = .ok (.iaload, 1)) {target : State}
    (hr : Steps p.tables e below (T.setTop { g with pc := g.pc + 1, stack := .int (g0 k) :: rest }) target) : Steps p.tables e below (T.setTop g) target := by
  obtain ⟨cl, A, q, r⟩ := F
  exact X.iaload hx (j := j) (v := .int (g0 k)) (by rw [eT]; exact A.1) (State.isArrayOf_alike hZ.alike A.2.1) A.2.2 (own_inb q hj0 hk hkn) (by rw [hk]; exact (r k hkn).1) hg hs hd _ hr
theorem own_ldJ {g0 : Nat → Int64} (X : Stand p l e R s m args below meth c T locs cells slots) (hx : p.tables.exec = Jvm.exec) (hZ : Z.Warmed39 s.vm) (eT : T.heap = h) (F : own_A Z h a .long n (fun i => .long (g0 i))) {j : Int32} {k : Nat} (hj0 : ¬ j < 0) (hk : j.toNatClampNeg = k) (hkn : k < n) {g : JFrame} (hg : g.method = m) {rest : List Value} (hs : g.stack = .int j :: .ref a :: rest) (hd : decode c.code g.pc = .ok (.laload, 1)) {target : State}
    (hr : Steps p.tables e below (T.setTop { g with pc := g.pc + 1, stack := .long (g0 k) :: rest }) target) : Steps p.tables e below (T.setTop g) target := by
  obtain ⟨cl, A, q, r⟩ := F
  exact X.laload hx (j := j) (v := .long (g0 k)) (by rw [eT]; exact A.1) (State.isArrayOf_alike hZ.alike A.2.1) A.2.2 (own_inb q hj0 hk hkn) (by rw [hk]; exact (r k hkn).1) hg hs hd _ hr
theorem own_ldB {g0 : Nat → Int32} (X : Stand p l e R s m args below meth c T locs cells slots) (hx : p.tables.exec = Jvm.exec) (hZ : Z.Warmed39 s.vm) (eT : T.heap = h) (F : own_A Z h a .byte n (fun i => .int (g0 i))) {j : Int32} {k : Nat} (hj0 : ¬ j < 0) (hk : j.toNatClampNeg = k) (hkn : k < n) {g : JFrame} (hg : g.method = m) {rest : List Value} (hs : g.stack = .int j :: .ref a :: rest) (hd : decode c.code g.pc = .ok (.baload, 1)) {target : State}
    (hr : Steps p.tables e below (T.setTop { g with pc := g.pc + 1, stack := .int (g0 k) :: rest }) target) : Steps p.tables e below (T.setTop g) target := by
  obtain ⟨cl, A, q, r⟩ := F
  exact X.baloadBytes hx (j := j) (v := .int (g0 k)) (by rw [eT]; exact A.1) (State.isArrayOf_alike hZ.alike A.2.1) A.2.2 (own_inb q hj0 hk hkn) (by rw [hk]; exact (r k hkn).1) hg hs hd _ hr
theorem own_ldC {g0 : Nat → Int32} (X : Stand p l e R s m args below meth c T locs cells slots) (hx : p.tables.exec = Jvm.exec) (hZ : Z.Warmed39 s.vm) (eT : T.heap = h) (F : own_A Z h a .char n (fun i => .int (g0 i))) {j : Int32} {k : Nat} (hj0 : ¬ j < 0) (hk : j.toNatClampNeg = k) (hkn : k < n) {g : JFrame} (hg : g.method = m) {rest : List Value} (hs : g.stack = .int j :: .ref a :: rest) (hd : decode c.code g.pc = .ok (.caload, 1)) {target : State}
    (hr : Steps p.tables e below (T.setTop { g with pc := g.pc + 1, stack := .int (g0 k) :: rest }) target) : Steps p.tables e below (T.setTop g) target := by
  obtain ⟨cl, A, q, r⟩ := F
  exact X.caload hx (j := j) (v := .int (g0 k)) (by rw [eT]; exact A.1) (State.isArrayOf_alike hZ.alike A.2.1) A.2.2 (own_inb q hj0 hk hkn) (by rw [hk]; exact (r k hkn).1) hg hs hd _ hr
theorem own_ldR {G : Nat → Value} (X : Stand p l e R s m args below meth c T locs cells slots) (hx : p.tables.exec = Jvm.exec) (hZ : Z.Warmed39 s.vm) (eT : T.heap = h) (F : own_A Z h a ty n G) (hty : ty.isReference = true) {j : Int32} {k : Nat} {v : Value} (hv : G k = v) (hj0 : ¬ j < 0) (hk : j.toNatClampNeg = k) (hkn : k < n) {g : JFrame} (hg : g.method = m) {rest : List Value} (hs : g.stack = .int j :: .ref a :: rest) (hd : decode c.code g.pc = .ok (.aaload, 1)) {target : State}
    (hr : Steps p.tables e below (T.setTop { g with pc := g.pc + 1, stack := v :: rest }) target) : Steps p.tables e below (T.setTop g) target := by
  obtain ⟨cl, A, q, r⟩ := F
  exact X.aaload hx (j := j) (v := v) (by rw [eT]; exact A.1) (State.isArrayOf_alike hZ.alike A.2.1) hty A.2.2 (own_inb q hj0 hk hkn) (by rw [hk, ← hv]; exact (r k hkn).1) hg hs hd _ hr
theorem own_len (X : Stand p l e R s m args below meth c T locs cells slots) (hx : p.tables.exec = Jvm.exec) (hZ : Z.Warmed39 s.vm) (eT : T.heap = h) (F : own_A Z h a ty n G) {z : Int32} (hz : n.toInt32 = z) {g : JFrame} (hg : g.method = m) {rest : List Value} (hs : g.stack = .ref a :: rest) (hd : decode c.code g.pc = .ok (.arraylength, 1)) {target : State}
    (hr : Steps p.tables e below (T.setTop { g with pc := g.pc + 1, stack := .int z :: rest }) target) : Steps p.tables e below (T.setTop g) target := by
  obtain ⟨cl, A, q, r⟩ := F
  exact X.arraylength hx (by rw [eT]; exact A.1) (State.isArrayOf_alike hZ.alike A.2.1) hg hs hd _ (by rw [q, hz]; exact hr)
theorem own_newP {aty : ArrayType} (X : Stand p l e R s m args below meth c T locs cells slots) (hx : p.tables.exec = Jvm.exec) (hZ : Z.Warmed39 s.vm) (w : (Cond.arrayClass (newarray.typeOf aty)).before a0 Z = true) (eT : T.heap = h) {g : JFrame} (hg : g.method = m) (hd : decode c.code g.pc = .ok (.newarray aty, 2)) {z : Int32} {rest : List Value} (hs : g.stack = .int z :: rest)
    (hn : ¬ z < 0) (hzn : z.toNatClampNeg = n) {G : Nat → Value} (hG : ∀ i, G i = defaultValue (newarray.typeOf aty)) {cap : Nat} (hcap : n ≤ cap) (hb : cap * 8 ≤ 536870912) (hc : cells + 1 ≤ R.cells) (hl : slots + cap ≤ R.slots) :
    ∃ (T' : State) (h' : Heap) (b : Addr), b = h.size ∧ Stand p l e R s m args below meth c T' locs (cells + 1) (slots + cap) ∧ T'.heap = h' ∧ Ext h h' ∧ own_A Z h' b (newarray.typeOf aty) n G ∧
      ∀ target, Steps p.tables e below (T'.setTop { g with pc := g.pc + 2, stack := .ref b :: rest }) target → Steps p.tables e below (T.setTop g) target := by
  obtain ⟨T', h', cA, X', e', E', A', st⟩ := newP X hx hZ w eT hg hd hs hn (cap := cap) (by rw [hzn]; exact hcap) hb hc hl
  exact ⟨T', h', _, rfl, X', e', E', own_A.new A' hzn hG, st⟩
theorem own_newPE {aty : ArrayType} (X : Stand p l e R s m args below meth c T locs cells slots) (hx : p.tables.exec = Jvm.exec) (hZ : Z.Warmed39 s.vm) (w : (Cond.arrayClass (newarray.typeOf aty)).before a0 Z = true) (eT : T.heap = h) {g : JFrame} (hg : g.method = m) (hd : decode c.code g.pc = .ok (.newarray aty, 2)) {z : Int32} {rest : List Value} (hs : g.stack = .int z :: rest)
    (hn : ¬ z < 0) (hzn : z.toNatClampNeg = n) {G : Nat → Value} (hG : ∀ i, G i = defaultValue (newarray.typeOf aty)) {cap : Nat} (hcap : n ≤ cap) (hb : cap * 8 ≤ 536870912) (hc : cells + 1 ≤ R.cells) (hl : slots + cap ≤ R.slots) {ad : String} (had : "[" ++ (newarray.typeOf aty).toString = ad) :
    ∃ (T' : State) (h' : Heap) (b : Addr), b = h.size ∧ Stand p l e R s m args below meth c T' locs (cells + 1) (slots + cap) ∧ T'.heap = h' ∧ Ext h h' ∧ own_A Z h' b (newarray.typeOf aty) n G ∧ Exa Z h' b ad ∧
      ∀ target, Steps p.tables e below (T'.setTop { g with pc := g.pc + 2, stack := .ref b :: rest }) target → Steps p.tables e below (T.setTop g) target := by
  obtain ⟨T', h', cA, X', e', E', A', B', st⟩ := newPE X hx hZ w eT hg hd hs hn (cap := cap) (by rw [hzn]; exact hcap) hb hc hl had
  exact ⟨T', h', _, rfl, X', e', E', own_A.new A' hzn hG, B', st⟩
theorem own_clone (X : Stand p l e R s m args below meth c T locs cells slots) (hx : p.tables.exec = Jvm.exec) (hZ : Z.Warmed39 s.vm) {own ad : String} {index : Nat} (hown : s.vm.findClass own = some m.cls)
    (w1 : (Cond.methodLink own index ⟨ad, "clone", "()Ljava/lang/Object;"⟩).before a0 Z = true) (w2 : (Cond.sameMethod ad "java/lang/Object" "clone" "()Ljava/lang/Object;").before a0 Z = true) (w3 : (Cond.native ⟨"java/lang/Object", "clone", "()Ljava/lang/Object;"⟩).before a0 Z = true)
    (w4 : (Cond.instanceMethod ⟨"java/lang/Object", "clone", "()Ljava/lang/Object;"⟩).before a0 Z = true) (w5 : (Cond.selects ad ⟨ad, "clone", "()Ljava/lang/Object;"⟩ ⟨"java/lang/Object", "clone", "()Ljava/lang/Object;"⟩).before a0 Z = true) (w6 : (Cond.castable ad "java/lang/Cloneable").before a0 Z = true)
    (eT : T.heap = h) (F : own_A Z h a ty n G) (E : Exa Z h a ad) {g : JFrame} (hg : g.method = m) (hsize : g.locals.size = c.maxLocals) {rest : List Value} (hs : g.stack = .ref a :: rest) (hd : decode c.code g.pc = .ok (.invokevirtual index, 3))
    (hf : 1 ≤ R.frames) {W cap : Nat} (hW : 2 * g.monitorRoom + (rest.map fun v => v.category).sum ≤ W) (hl : W + 14 ≤ R.locals) (hcap : n ≤ cap) (hc : cells + 1 ≤ R.cells) (hsl : slots + cap ≤ R.slots) :
    ∃ (T' : State) (h' : Heap) (b : Addr), b = h.size ∧ Stand p l e R s m args below meth c T' locs (cells + 1) (slots + cap) ∧ T'.heap = h' ∧ Ext h h' ∧ own_A Z h' b ty n G ∧ Exa Z h' b ad ∧
      ∀ target, Steps p.tables e below (T'.setTop { g with pc := g.pc + 3, stack := .ref b :: rest }) target → Steps p.tables e below (T.setTop g) target := by
  obtain ⟨cl, A, q, r⟩ := F
  have FC : FitC Z cl := fitC_of A fun i hi v hv => by
    have r1 := r i (by rw [← q]; exact hi)
    rw [r1.1] at hv; cases hv; exact r1.2
  obtain ⟨T', h', X', e', ex, A', E', st⟩ := cloneA X hx hZ hown w1 w2 w3 w4 w5 w6 eT A E FC hg hsize hs hd hf hW hl (by rw [q]; exact hcap) hc hsl
  exact ⟨T', h', _, rfl, X', e', ex, ⟨cloneOf cl, A', q, r⟩, E', st⟩
theorem own_A.congr {G' : Nat → Value} (F : own_A Z h a ty n G) (q : ∀ i, i < n → G i = G' i) : own_A Z h a ty n G' := by
  obtain ⟨c, A, s, r⟩ := F
  exact ⟨c, A, s, fun i hi => by rw [← q i hi]; exact r i hi⟩
theorem own_A_plain (F : own_A Z h a ty n G) : ∀ c : Cell, h[a]? = some c → c.vm.isStatics = false := fun c hc => by
  obtain ⟨cl, A, -⟩ := F
  cases hc.symm.trans A.1
  exact A.plain
theorem own_E_plain {C : String} (F : Exa Z h a C) : ∀ c : Cell, h[a]? = some c → c.vm.isStatics = false := fun c hc => by
  obtain ⟨cl, k, h1, -, -, h4, -⟩ := F
  cases hc.symm.trans h1
  exact h4
theorem own_sta_keep {C f d : String} {v : Value} {ws : List Addr} (F : Sta Z h C f d v) (K : Keep h h' ws) (q : ∀ x ∈ ws, ∀ c : Cell, h[x]? = some c → c.vm.isStatics = false) : Sta Z h' C f d v := by
  obtain ⟨cf, i, k, f, st, cell, h1, h2, h3, h4, h5, h6, h7⟩ := F
  exact ⟨cf, i, k, f, st, cell, h1, h2, h3, h4, K.2.1 st cell h5 (fun z => by rw [q st z cell h5] at h6; cases h6), h6, h7⟩
end OwnA
end Jvm.RoadKit
namespace Jvm.RoadKit
open Sem ClassFile Op Lib Jvm.Stand Jvm.Free Jvm.LawKit
section OwnS
variable {Z : State} {a0 : Array Value}
theorem own_root {O K : String} {n : Nat} (w : (Cond.noSuperclass O).before a0 Z = true) (wk : (Cond.instantiable K n).before a0 Z = true) (hn : O ≠ K) : NS Z O K := by
  obtain ⟨c, k, h1, h2, h3, -, -⟩ := Cond.noSuperclass_spec w
  obtain ⟨t, k', g1, -⟩ := Cond.instantiable_spec wk
  have ne := ids_ne h1 g1 hn
  refine ⟨c, t, h1, g1, fun fuel => ?_⟩
  cases fuel with
  | zero => rfl
  | succ f => simp [Vm.isSubclassAux, ne, h2, h3]
theorem own_no {C S K : String} {n : Nat} (w : (Cond.superclass C S).before a0 Z = true) (wk : (Cond.instantiable K n).before a0 Z = true) (N : NS Z C K) (hn : C ≠ K) : ∃ c t, Z.vm.findClass C = some c ∧ Z.vm.findClass K = some t ∧ Z.vm.assignable c t = false := by
  obtain ⟨c, t, h0, g0, n3⟩ := N
  obtain ⟨p, k, kp, h1, h2, h3, h4, h5, -, h7⟩ := Cond.superclass_spec h0 w
  obtain ⟨t', k', g1, g2, g5, g7, -⟩ := Cond.instantiable_spec wk
  cases g0.symm.trans g1
  have ne := ids_ne h0 g0 hn
  have g8 : k'.isInterface = false := (Bool.or_eq_false_iff.mp g7).1
  refine ⟨c, t, h0, g0, ?_⟩
  show Z.vm.assignableAux (255 + 1) c t = false
  simp [Vm.assignableAux, ne, h2, g2, h5, g5, g8, Vm.isSubclass, n3]
end OwnS
end Jvm.RoadKit
namespace Jvm.RoadKit
open Sem ClassFile Op Lib Bundle Jvm.Stand Jvm.Free Jvm.LawKit Jvm.Free.SB Jvm.Free.SBG
section OwnH
variable {p : Program} {l : Launch} {e : Env} {R : Room} {s : State} {m : MethodId} {args : Array Value} {below : List Frame} {meth : Method} {c : Code} {T : State} {locs : List Loc} {cells slots : Nat} {Z : State} {a0 : Array Value} {h h' : Heap} {vm vm' : Vm} {own text : String} {ix : Nat}
def own_at (Z : State) (vm : Vm) (h : Heap) : State := { Z with vm := vm, heap := h }
def own_H (cs : List (String × Nat × String)) (Z : State) (vm : Vm) (h : Heap) : Prop := ∀ q ∈ cs, ConstHeldL (own_at Z vm h) q.1 q.2.1
/-- no held String lies at w, nor her bytes -/
def own_apart (Z : State) (vm : Vm) (h : Heap) (w : Addr) : Prop := ∀ (q : SQ) (cS : ClassId), Sl q cS (own_at Z vm h) → q.sa ≠ w ∧ q.sd ≠ w
theorem own_sl_keep {ws : List Addr} {a : Addr} {u : Array UInt16} (H : SlOf (own_at Z vm h) a u) (hal : vm.Alike vm') (K : Keep h h' ws) (A : ∀ w ∈ ws, own_apart Z vm h w) : SlOf (own_at Z vm' h') a u := by
  obtain ⟨q, cS, h1, h2, ⟨kS, k1, k2, k3⟩, h4, h5⟩ := H
  obtain ⟨kS', hk', ek⟩ := hal.2.2 _ _ k1
  have n1 : q.sa ∉ ws := fun z => (A _ z q cS h2).1 rfl
  have n2 : q.sd ∉ ws := fun z => (A _ z q cS h2).2 rfl
  exact ⟨q, cS, h1, h2.carry (U' := own_at Z vm' h') hal (K.2.1 _ _ h2.1.1 n1) (K.2.1 _ _ h2.1.2.2.2.2.2.2.2.2.2.1 n2), ⟨kS', hk', by rw [ek]; exact k2, by rw [ek]; exact k3⟩, by show vm'.findClass _ = _; rw [hal.findClass]; exact h4, h5⟩
/-- one constant, over tables that may have interned other texts -/
theorem own_carry {B : State} (hB : Z.Warmed39 B.vm) (w : (Cond.stringLink own ix text).before a0 Z = true) (hW : B.Warmed39 vm') (hint : ∀ (u : Array UInt16) (a : Addr), utf16ToString? u = some text → vm'.interned.find? (fun p => p.1 == u) = some (u, a) → B.vm.interned.find? (fun p => p.1 == u) = some (u, a))
    (hsl : ∀ a u, SlOf (own_at Z B.vm h) a u → SlOf (own_at Z vm' h') a u) (H : ConstHeldL (own_at Z B.vm h) own ix) : ConstHeldL (own_at Z vm' h') own ix := by
  intro c k' cf i units a hc' hk' hcf' hp hu hor
  have hc : B.vm.findClass own = some c := by rw [← hW.alike.findClass]; exact hc'
  have w' : (Cond.stringLink own ix text).before a0 B = true := mvS (s := B) hB w
  obtain ⟨k, cf0, i0, units0, hk, hcf, hp0, hu0, hnm, htext, -⟩ := Cond.stringLink_spec hc w'
  obtain ⟨k'', hk'', hke, -, ee, -⟩ := hW.2.2.2 c k hk
  cases (show vm'.classes[c]? = some k' from hk').symm.trans hk''
  have hcfk : k'.cf = k.cf := by rw [hke]
  cases (hcfk ▸ hcf').symm.trans hcf
  cases hp.symm.trans hp0
  cases hu.symm.trans hu0
  refine hsl _ _ ?_
  rcases ee ix with e0 | ⟨hop, r, e1, hr | ⟨a3, t, si, us, rfl, -, q3, q4, q5⟩⟩
  · rcases hor with h0 | ⟨h0, hf⟩
    · exact H c k cf i units a hc hk hcf hp hu (Or.inl (e0 ▸ h0))
    · exact H c k cf i units a hc hk hcf hp hu (Or.inr ⟨e0 ▸ h0, hint _ _ htext hf⟩)
  · exfalso
    cases r <;> simp [State.rightAt, hk, hcf, hnm] at hr
  · rw [hcf] at q3 q4
    have e3 : si = i := by
      have := q3.symm.trans hp
      simpa using this
    subst e3
    have e4 : us = units := by simpa [ConstantPool.utf8?, hu] using q4.symm
    subst e4
    rcases hor with h0 | ⟨h0, -⟩
    · have ea : a3 = a := by have := e1.symm.trans h0; simpa using this
      subst ea
      exact H c k cf si us a3 hc hk hcf hp hu (Or.inr ⟨hop, hint _ _ htext q5⟩)
    · have := e1.symm.trans h0; simp at this
/-- the same tables but for resolutions; the cells kept but for some that are apart -/
theorem own_H.go {cs : List (String × Nat × String)} {ws : List Addr} {B : State} (H : own_H cs Z B.vm h) (hB : Z.Warmed39 B.vm) (wl : ∀ q ∈ cs, (Cond.stringLink q.1 q.2.1 q.2.2).before a0 Z = true) (hW : B.WarmedH vm') (K : Keep h h' ws) (A : ∀ w ∈ ws, own_apart Z B.vm h w) : own_H cs Z vm' h' := fun q hq =>
  own_carry hB (wl q hq) hW.wide (fun u a _ hf => by rw [← hW.interned_eq]; exact hf) (fun a u S => own_sl_keep S hW.alike K A) (H q hq)
theorem own_apart_cls {w : Addr} {C : String} {n : Nat} (hal : Z.vm.Alike vm) (E : Exa Z h w C) (hne : C ≠ "java/lang/String") (wi : (Cond.instantiable C n).before a0 Z = true) : own_apart Z vm h w := by
  intro q cS hq
  obtain ⟨⟨s1, -, -, -, -, -, -, -, -, s10, s11, -⟩, hfS, hcS⟩ := hq
  obtain ⟨c1, k1, e1, f1, g1, -⟩ := E
  constructor
  · intro z
    have s1' : h[q.sa]? = some q.sC := s1
    rw [z] at s1'
    cases e1.symm.trans s1'
    have f2 : Z.vm.findClass "java/lang/String" = some q.sC.cls := by rw [← hal.findClass, hcS]; exact hfS
    obtain ⟨kk, g1, g2⟩ := Vm.findClass_spec f1
    obtain ⟨kk', g1', g2'⟩ := Vm.findClass_spec f2
    cases g1.symm.trans g1'
    exact hne (g2.symm.trans g2')
  · intro z
    have s10' : h[q.sd]? = some q.SA := s10
    rw [z] at s10'
    cases e1.symm.trans s10'
    simp only [Cond.before, Cond.holds, Cond.value, f1, Option.bind_some, g1, Option.map_some] at wi
    have ho : k1.kind = .ordinary := by
      simp only [beq_iff_eq, Option.some.injEq, Bool.and_eq_true, decide_eq_true_eq] at wi; exact wi.1.1.1
    obtain ⟨-, kk, hk, comp, hkind⟩ := s11
    obtain ⟨k1', hk1', ek⟩ := hal.2.2 _ _ g1
    cases (show vm.classes[q.SA.cls]? = some kk from hk).symm.trans hk1'
    rw [ek] at hkind
    rw [show _ = k1.kind from rfl, ho] at hkind; cases hkind
theorem own_apart_null {w : Addr} {n : Nat} (hal : Z.vm.Alike vm) (E : Exa Z h w "java/lang/String") (F : Fld Z h w "java/lang/String" "value" "[B" .null) (wi : (Cond.instantiable "java/lang/String" n).before a0 Z = true) : own_apart Z vm h w := by
  intro q cS hq
  obtain ⟨⟨s1, -, -, ⟨cv, kv, iv, s4, -⟩, -, -, -, s8, -, s10, s11, -⟩, hfS, hcS⟩ := hq
  obtain ⟨c1, k1, e1, f1, g1, -⟩ := E
  obtain ⟨c2, cf2, kf2, i2, f2, g1', g2', -, -, -, -, g7'⟩ := F
  constructor
  · intro z
    have s1' : h[q.sa]? = some q.sC := s1
    rw [z] at s1'
    cases g1'.symm.trans s1'
    obtain ⟨kv', z4⟩ := ff_back (U := own_at Z vm h) hal s4
    cases g2'.symm.trans z4
    have := g7'.symm.trans s8
    simp at this
  · intro z
    have s10' : h[q.sd]? = some q.SA := s10
    rw [z] at s10'
    cases e1.symm.trans s10'
    simp only [Cond.before, Cond.holds, Cond.value, f1, Option.bind_some, g1, Option.map_some] at wi
    have ho : k1.kind = .ordinary := by
      simp only [beq_iff_eq, Option.some.injEq, Bool.and_eq_true, decide_eq_true_eq] at wi; exact wi.1.1.1
    obtain ⟨-, kk, hk, comp, hkind⟩ := s11
    obtain ⟨k1', hk1', ek⟩ := hal.2.2 _ _ g1
    cases (show vm.classes[q.SA.cls]? = some kk from hk).symm.trans hk1'
    rw [ek] at hkind
    rw [show _ = k1.kind from rfl, ho] at hkind; cases hkind
theorem own_ld {cs : List (String × Nat × String)} {h0 : Heap} (X : Stand p l e R s m args below meth c T locs cells slots) (hx : p.tables.exec = Jvm.exec) (hZ : Z.Warmed39 s.vm) (hown : s.vm.findClass own = some m.cls) (hq : (own, ix, text) ∈ cs) (wl : ∀ q ∈ cs, (Cond.stringLink q.1 q.2.1 q.2.2).before a0 Z = true) (hcs : ∀ q ∈ cs, q = (own, ix, text) ∨ q.2.2 ≠ text)
    (wS : ∀ a ∈ Bundle.stringAtoms, a.before a0 Z = true) (eT : T.heap = h) (eS : s.heap = h0) (K : Keep h0 h []) (H : own_H cs Z s.vm h0) (ht : ∀ c ∈ text.toList, c.toNat < 256)
    {g : JFrame} (hg : g.method = m) (hd : decode c.code g.pc = .ok (.ldc ix, 2)) {n : Nat} (hn : 4 * text.toList.length ≤ n) (hbig : n ≤ 536870912) (hc : cells + 2 ≤ R.cells) (hl' : slots + (n + 4) ≤ R.slots) :
    ∃ (a b : Addr) (T' : State) (h' : Heap), Stand p l e R (s.setVm T'.vm) m args below meth c T' locs (cells + 2) (slots + (n + 4)) ∧ T'.heap = h' ∧ Ext h h' ∧ s.Since T'.vm h'.size ∧ Z.Warmed39 (s.setVm T'.vm).vm ∧ (s.setVm T'.vm).vm.findClass own = some m.cls ∧
      Exa Z h' a "java/lang/String" ∧ Fld Z h' a "java/lang/String" "coder" "B" (.int 0) ∧ Fld Z h' a "java/lang/String" "value" "[B" (.ref b) ∧ (∀ G, text = "" → own_A Z h' b .byte 0 G) ∧ own_H cs Z T'.vm h' ∧ Lit (s.setVm T'.vm) own ix a ∧
      ∀ target, Steps p.tables e below (T'.setTop { g with pc := g.pc + 2, stack := .ref a :: g.stack }) target → Steps p.tables e below (T.setTop g) target := by
  have w := wl _ hq
  have hH : ConstHeldL s own ix := by
    have q := H _ hq
    rw [← eS] at q
    exact q
  have hold : ∀ (b : Addr) (cl : Cell), s.heap[b]? = some cl → T.heap[b]? = some cl := fun b cl q => by rw [eT]; rw [eS] at q; exact K.2.1 b cl q nin0
  obtain ⟨a, T', X', hS', ⟨kk, hkk, hrr⟩, hb, -, hint, ⟨units, htext, hin⟩, st⟩ := X.ldcColdF hold hx (own := own) hown (mvS hZ w) (fun d hd => by
    have q := wS d hd
    simp only [Bundle.stringAtoms, List.mem_cons, List.not_mem_nil, or_false] at hd
    rcases hd with rfl | rfl | rfl | rfl | rfl | rfl | rfl
    · exact mv hZ q
    · exact mv hZ q
    · exact mvA hZ q
    · exact mv hZ q
    · exact mv hZ q
    · exact mv hZ q
    · exact mv hZ q) hH (fun units hu => Jvm.ClassFile.lat_of_text hu ht) hg hd hn hbig hc hl'
  subst eT
  have E := ext_of hb
  have hW : Z.Warmed39 T'.vm := State.Warmed39.trans (t := s) hZ hS'.1
  have hal : Z.vm.Alike T'.vm := hW.alike
  have hTi : T.vm.interned = s.vm.interned := X.warmed.interned_eq
  have hlat := Jvm.ClassFile.lat_of_text htext ht
  have hf : T'.vm.findClass own = some m.cls := by rw [hS'.1.alike.findClass]; exact hown
  have hHn : own_H cs Z T'.vm T'.heap := by
    intro q hqm
    rcases hcs q hqm with rfl | hne
    · intro c2 k' cf i u a' hc' hk' hcf' hp hu hor
      cases (show T'.vm.findClass own = some c2 from hc').symm.trans hf
      cases (show T'.vm.classes[m.cls]? = some k' from hk').symm.trans hkk
      have hwT : (Cond.stringLink own ix text).before a0 (Z.setVm T'.vm) = true := mvS (s := Z.setVm T'.vm) hW w
      obtain ⟨k2, cf2, i2, u2, r1, r2, r3, r4, -, r5, -⟩ := Cond.stringLink_spec (s := Z.setVm T'.vm) hf hwT
      cases (show T'.vm.classes[m.cls]? = some k2 from r1).symm.trans hkk
      cases hcf'.symm.trans r2
      cases hp.symm.trans r3
      cases hu.symm.trans r4
      have ea : a' = a := by
        rcases hor with h0 | ⟨h0, -⟩
        · have := h0.symm.trans hrr; simpa using this
        · have := h0.symm.trans hrr; simp at this
      subst ea
      have eu : u = units := by
        have e1 := Jvm.ClassFile.units_of_text r5 ht
        have e2 := Jvm.ClassFile.units_of_text htext ht
        exact Array.toList_inj.mp (e1.trans e2.symm)
      subst eu
      obtain ⟨q, cS, g1, g2, g3, g4, g5, -⟩ := hin
      exact ⟨q, cS, g1, g2, g3, g4, g5⟩
    · refine own_carry (h := h0) (B := s) hZ (wl q hqm) hS'.1 (fun u a hu hf => ?_) (fun a u S => own_sl_keep S hS'.1.alike (K.ext E) all0) (H q hqm)
      rcases hint with z | ⟨u', a', hu', z⟩
      · rw [← hTi, ← z]; exact hf
      · rw [z, Array.find?_push, hTi] at hf
        cases hs : s.vm.interned.find? (fun p => p.1 == u) with
        | some pr => rw [hs] at hf; simpa using hf
        | none =>
          rw [hs, Option.none_or] at hf
          have : u' = u := by
            by_cases hz : (u' == u) = true
            · simpa using hz
            · simp [hz] at hf
          subst this
          exact absurd (Option.some.inj (hu.symm.trans hu')) hne
  obtain ⟨q, cS, hqa, ⟨⟨s1, s2, s3, ⟨cv, kv, iv, s4, s4'⟩, ⟨cc, kc, ic, s5, s5'⟩, s6, s7, s8, s9, s10, s11, s12, s13, s14, s15, s16⟩, hfS, hcS⟩, ⟨kS, k1, k2, k3⟩, hB, hbyt, -⟩ := hin
  subst hqa
  obtain ⟨kv', z4⟩ := ff_back hal s4
  obtain ⟨kc', z5⟩ := ff_back hal s5
  have hfZ : Z.vm.findClass "java/lang/String" = some q.sC.cls := by rw [← hal.findClass, hcS]; exact hfS
  obtain ⟨kz, hkz, -⟩ := Vm.findClass_spec hfZ
  obtain ⟨kz', hkz', ekz⟩ := hal.2.2 _ _ hkz
  have ekS : kz' = kS := Option.some.inj (hkz'.symm.trans (hcS ▸ k1))
  have hBZ : Z.vm.findClass "[B" = some q.SA.cls := by rw [← hal.findClass]; exact hB
  obtain ⟨kb, hkb, -⟩ := Vm.findClass_spec hBZ
  obtain ⟨kb', hkb', ekb⟩ := hal.2.2 _ _ hkb
  obtain ⟨hst, k9, hk9, comp, hkind9⟩ := s11
  have ek9 : k9 = kb' := Option.some.inj (hk9.symm.trans hkb')
  have hAZ : Z.isArrayOf q.SA .byte := ⟨hst, kb, hkb, comp, by rw [ek9, ekb] at hkind9; exact hkind9⟩
  have hsl : q.SA.slots = units.map fun u => Value.int (Jvm.Lit.byteI u) := by rw [hbyt, SBG.stringBytes_lat hlat]; rfl
  have hsz : q.SA.slots.size = units.size := by rw [hsl, Array.size_map]
  refine ⟨q.sa, q.sd, T', _, X', rfl, E, hS', hW, by rw [show (s.setVm T'.vm).vm = T'.vm from rfl]; exact hf,
    ⟨q.sC, kz, s1, hfZ, hkz, s3, fun ho => by rw [k3, ← ekS, ekz]⟩, ⟨q.sC, cc, kc', ic, q.fSC, s1, z5, s7, s2, s3, by rw [← hal.assignable]; exact s5', s9⟩, ⟨q.sC, cv, kv', iv, q.fSV, s1, z4, s6, s2, s3, by rw [← hal.assignable]; exact s4', s8⟩,
    fun G et => ⟨q.SA, ⟨s10, hAZ, s12⟩, ?_, fun i hi => absurd hi (Nat.not_lt_zero i)⟩, hHn, ?_, st⟩
  · subst et
    have e2 := congrArg List.length (Jvm.ClassFile.units_of_text htext ht)
    rw [hsz]; simpa using e2
  · simp [Lit, State.resolvedAt?, hf, hkk, hrr]
theorem own_backOfS {cs : List (String × Nat × String)} {y : MethodName} {bytes : ByteArray} {maxL : Nat} {ret : Option FieldType} {rm : Room} {len W : Nat} {as' : Array Value} {Q : Option Value → Heap → List Loc → Prop}
    (hM : MetFree l y (head1 [Cond.code y bytes maxL ret] rm) (fun a U => a = as' ∧ Z.Warmed39 U.vm ∧ U.heap = h ∧ own_H cs Z U.vm h) (fun _ _ _ _ _ => True) (fun _ U o U' => ∃ v L, o = .returned v ∧ Q v U'.heap L ∧ own_H cs Z U'.vm U'.heap ∧ ReturnedEndW U o U' L rm.cells rm.slots))
    (hZ : Z.Warmed39 s.vm) (wc : (Cond.code y bytes maxL ret).before a0 Z = true) (wz : (Cond.initialized y.cls).before a0 Z = true) (hf : rm.frames + 1 ≤ R.frames) (hl : W + (maxL + 11) + rm.locals ≤ R.locals) :
    BackS l R p e below s args y len W (fun A a => a = as' ∧ A.U.heap = h ∧ own_H cs Z A.U.vm h ∧ A.cells + rm.cells ≤ R.cells ∧ A.slots + rm.slots ≤ R.slots)
      (fun A _ v B => ∃ L, Q v B.U.heap L ∧ own_H cs Z B.U.vm B.U.heap ∧ B.locs = A.locs ++ L ∧ B.cells = A.cells + rm.cells ∧ B.slots = A.slots + rm.slots) :=
  BackS.of_freeW (bytes := bytes) (maxL := maxL) (ret := ret) (E := fun _ _ o t L k n => k = rm.cells ∧ n = rm.slots ∧ own_H cs Z t.vm t.heap ∧ ∃ v, o = .returned v ∧ Q v t.heap L) hM hf hl
    (fun m meth c A a Y hp => have hU : Z.Warmed39 A.U.vm := wtrans hZ Y.warmed
      ⟨by show (Cond.and _ .tt).before a A.U = true; rw [Cond.before_and, mv hU wc]; rfl, mv hU wc, mv hU wz, hp.2.2.2.1, hp.2.2.2.2⟩)
    (fun m meth c A a g mk Y hp => ⟨hp.1, wtrans hZ Y.warmed, hp.2.1, hp.2.2.1⟩) (fun _ _ _ _ _ _ _ _ _ => trivial)
    (fun _ _ _ _ ⟨v, L, h1, h2, h3, h4⟩ => ⟨L, _, _, h4, rfl, rfl, h3, v, h1, h2⟩)
    (fun m meth c A a g mk v t L k n Y hp _ _ ⟨e1, e2, e0, v', e3, e4⟩ => by cases e3; subst e1 e2; exact ⟨L, e4, e0, rfl, rfl, rfl⟩)
theorem own_H.start {cs : List (String × Nat × String)} (hc : ∀ q ∈ cs, Jvm.Lit.constHeld Z q.1 q.2.1) (wl : ∀ q ∈ cs, (Cond.stringLink q.1 q.2.1 q.2.2).before a0 Z = true) (ht : ∀ q ∈ cs, ∀ c ∈ q.2.2.toList, c.toNat < 256) (hcw : Jvm.Lit.compactW.before a0 Z = true) (wa : (Cond.arrayClass .byte).before a0 Z = true) (wi : (Cond.instantiable "java/lang/String" 4).before a0 Z = true) : own_H cs Z Z.vm Z.heap :=
  fun q hq => heldStart (hc q hq) (wl q hq) (ht q hq) hcw wa wi
theorem own_keep_mono {ws ws' : List Addr} (K : Keep h h' ws) (q : ∀ x ∈ ws, x ∈ ws') : Keep h h' ws' := ⟨K.1, fun x c hx r => K.2.1 x c hx fun z => r (q x z), K.2.2⟩
theorem own_ne_fld {a b : Addr} {C n d : String} {v w : Value} (F : Fld Z h a C n d v) (G : Fld Z h b C n d w) (q : v ≠ w) : a ≠ b := fun z => by
  subst z
  obtain ⟨c1, cf1, k1, i1, f1, e1, e2, -, -, -, -, e7⟩ := F
  obtain ⟨c2, cf2, k2, i2, f2, g1, g2, -, -, -, -, g7⟩ := G
  cases e1.symm.trans g1
  cases e2.symm.trans g2
  exact q (Option.some.inj (e7.symm.trans g7))
theorem own_ne_arr {a b : Addr} {C : String} {ty : FieldType} {n k : Nat} {G : Nat → Value} (A : own_A Z h b ty n G) (E : Exa Z h a C) (wi : (Cond.instantiable C k).before a0 Z = true) : b ≠ a := fun q => by
  subst q
  obtain ⟨c1, k1, e1, f1, g1, -⟩ := E
  obtain ⟨c2, ⟨e2, hA, -⟩, -⟩ := A
  cases e1.symm.trans e2
  simp only [Cond.before, Cond.holds, Cond.value, f1, Option.bind_some, g1, Option.map_some] at wi
  have ho : k1.kind = .ordinary := by
    simp only [beq_iff_eq, Option.some.injEq, Bool.and_eq_true, decide_eq_true_eq] at wi; exact wi.1.1.1
  obtain ⟨-, kk, hk, comp, hkind⟩ := hA
  rw [g1] at hk; cases hk; rw [ho] at hkind; cases hkind
end OwnH
end Jvm.RoadKit
namespace Jvm.Pilot.@@N@@
open Jvm Jvm.ClassFile Sem Op Lib Jvm.Free Jvm.Stand Jvm.LawKit Jvm.RoadKit Bundle Jvm.Pilot.@@N@@.Jvm.D
def own_cs : List (String × Nat × String) := [("com/example/sequeue/sequeue/route/MessageQueue", 7, "brokerName"), ("java/lang/String", 7, "")]
theorem own_wl {a0 : Array Value} {Z : State} (hw : ∀ d ∈ tables_1, d.before a0 Z = true) : ∀ q ∈ own_cs, (Jvm.Cond.stringLink q.1 q.2.1 q.2.2).before a0 Z = true := fun q hq => by
  simp only [own_cs, List.mem_cons, List.not_mem_nil, or_false] at hq
  rcases hq with rfl | rfl
  · exact (hw _ (List.mem_of_getElem? (i := 46) rfl))
  · exact (hw _ (List.mem_of_getElem? (i := 80) rfl))
theorem own_wS {a0 : Array Value} {Z : State} (hw : ∀ d ∈ tables_1, d.before a0 Z = true) : ∀ a ∈ Bundle.stringAtoms, a.before a0 Z = true := fun d hd => by
  simp only [Bundle.stringAtoms, List.mem_cons, List.not_mem_nil, or_false] at hd
  rcases hd with rfl | rfl | rfl | rfl | rfl | rfl | rfl
  · exact (hw _ (List.mem_of_getElem? (i := 12) rfl))
  · exact (hw _ (List.mem_of_getElem? (i := 11) rfl))
  · exact (hw _ (List.mem_of_getElem? (i := 28) rfl))
  · exact (hw _ (List.mem_of_getElem? (i := 38) rfl))
  · exact (hw _ (List.mem_of_getElem? (i := 36) rfl))
  · exact (hw _ (List.mem_of_getElem? (i := 47) rfl))
  · exact (hw _ (List.mem_of_getElem? (i := 48) rfl))
theorem own_cs_0 : ∀ q ∈ own_cs, q = ("com/example/sequeue/sequeue/route/MessageQueue", 7, "brokerName") ∨ q.2.2 ≠ "brokerName" := by decide
theorem own_cs_1 : ∀ q ∈ own_cs, q = ("java/lang/String", 7, "") ∨ q.2.2 ≠ "" := by decide
theorem d2_0 : decode method_3_code 0 = .ok (.lload_n 0, 1) := by decide +kernel
theorem d2_1 : decode method_3_code 1 = .ok (.iconst 2, 1) := by decide +kernel
theorem d2_2 : decode method_3_code 2 = .ok (.bipush 8, 2) := by decide +kernel
theorem d2_4 : decode method_3_code 4 = .ok (.iload_n 2, 1) := by decide +kernel
theorem d2_5 : decode method_3_code 5 = .ok (.imul, 1) := by decide +kernel
theorem d2_6 : decode method_3_code 6 = .ok (.iadd, 1) := by decide +kernel
theorem d2_7 : decode method_3_code 7 = .ok (.lushr, 1) := by decide +kernel
theorem d2_8 : decode method_3_code 8 = .ok (.ldc2_w 26, 3) := by decide +kernel
theorem d2_11 : decode method_3_code 11 = .ok (.land, 1) := by decide +kernel
theorem d2_12 : decode method_3_code 12 = .ok (.l2i, 1) := by decide +kernel
theorem d2_13 : decode method_3_code 13 = .ok (.i2c, 1) := by decide +kernel
theorem d2_14 : decode method_3_code 14 = .ok (.ireturn, 1) := by decide +kernel
theorem pn_2 : plainName "com/example/sequeue/sequeue/route/MessageQueueEqualsPinLaw" = true := by first | (simp [plainName, overriddenIn]; done) | decide +kernel
theorem ef_2 (m : MethodId) (p0 : Int64) (p1 : Int32) : entryFrame m #[(.long p0), (.int p1)] 3 = mkF m 0 #[.val (.long p0), .second, .val (.int p1)] [] := by first | (simp [entryFrame, mkF, argsToLocals, Value.category]; done) | rfl
def f_2 (p0 : Int64) (p1 : Int32) : Int32 := (nar .char (((((p0.toUInt64 >>> (((2 : Int32) + ((8 : Int32) * p1)) &&& 0x3f).toInt64.toUInt64).toInt64) &&& (255 : Int64)).toInt32).toUInt32.toUInt16.toUInt32.toInt32))
def Q_2 (Z : State) (p0 : Int64) (p1 : Int32)  (h0 : Heap) (n0 : Nat) (v : Option Value) (h : Heap) (L : List Loc) : Prop := v = some (.int (f_2 p0 p1)) ∧ Fr n0 L ∧ h = h0
set_option maxRecDepth 65536 in
set_option maxHeartbeats 40000000 in
theorem rm_2 (l : Launch) (Z : State) (a0 : Array Value) (hw : ∀ d ∈ tables_1, d.before a0 Z = true) (ws : List Jvm.Cond) (p0 : Int64) (p1 : Int32)  (h0 : Heap) (n0 : Nat) (Z0 : n0 ≤ h0.size)  :
    MetFree l (⟨"com/example/sequeue/sequeue/route/MessageQueueEqualsPinLaw", "ch", "(JI)C"⟩ : MethodName) (head1 (Jvm.Cond.code (⟨"com/example/sequeue/sequeue/route/MessageQueueEqualsPinLaw", "ch", "(JI)C"⟩ : MethodName) method_3_code 3 (some .char) :: ws) ({ frames := 0, cells := 0, slots := 0, locals := 0 } : Room)) (fun a U => a = #[(.long p0), (.int p1)] ∧ Z.Warmed39 U.vm ∧ U.heap = h0) (fun _ _ _ _ _ => True) (fun _ U o U' => ∃ v L, o = .returned v ∧ Q_2 Z p0 p1 h0 n0 v U'.heap L ∧ FrameEnd U o U' L ({ frames := 0, cells := 0, slots := 0, locals := 0 } : Room).cells ({ frames := 0, cells := 0, slots := 0, locals := 0 } : Room).slots) := by
  refine MetFree.of_bodySF (plainFor_of_name pn_2) hisR ?_
  intro p e s m args below meth c s₁ Bd hml0 hP hK
  obtain ⟨rfl, hZ, hh⟩ := hP
  have hx := Bd.exec
  have hby := Bd.bytes
  have hml : c.maxLocals = 3 := hml0
  have hown : s.vm.findClass "com/example/sequeue/sequeue/route/MessageQueueEqualsPinLaw" = some m.cls := findClass_of_methodNamed Bd.named
  have hnm := (name_of_methodNamed Bd.named Bd.method).1
  have X0 : Stand p l e ({ frames := 0, cells := 0, slots := 0, locals := 0 } : Room) s m #[(.long p0), (.int p1)] below meth c s₁ [] 0 0 := Stand.of_body Bd
  have e0 : s₁.heap = h0 := by rw [← hh, Bd.state]; rfl
  have N0 := Fr.nil n0
  have K0 : Keep h0 h0 [] := Keep.refl h0 _
  have pre0 : ∀ t, Steps p.tables e below (s₁.setTop (mkF m 0 #[.val (.long p0), .second, .val (.int p1)] [])) t → Steps p.tables e below (s₁.setTop (entryFrame m #[(.long p0), (.int p1)] 3)) t := fun t k => castTop (ef_2 m p0 p1) k
  obtain ⟨fs, hr, hrun, hended, hW, hsame⟩ := X0.leave (v := some (.int (nar .char (((((p0.toUInt64 >>> (((2 : Int32) + ((8 : Int32) * p1)) &&& 0x3f).toInt64.toUInt64).toInt64) &&& (255 : Int64)).toInt32).toUInt32.toUInt16.toUInt32.toInt32)))) (fun h => by rw [Bd.returns] at h; cases h) (BodyLoose.notSynchronized Bd)
  refine ⟨_, _, pre0 _ ?_, hrun, hended, _, _, rfl, ?_, ⟨_, rfl⟩, hW, hsame.mono (by decide) (by decide)⟩
  · show Steps p.tables e below (s₁.setTop (mkF m 0 #[.val (.long p0), .second, .val (.int p1)] [])) _
    refine XS.lloadN X0.here hx rfl (hb hby d2_0) rfl  ?_
    show Steps p.tables e below (s₁.setTop (mkF m 1 #[.val (.long p0), .second, .val (.int p1)] [(.long p0)])) _
    refine XS.iconst X0.here hx rfl (hb hby d2_1) ?_
    show Steps p.tables e below (s₁.setTop (mkF m 2 #[.val (.long p0), .second, .val (.int p1)] [(.int (2 : Int32)), (.long p0)])) _
    refine XS.bipush X0.here hx rfl (hb hby d2_2) ?_
    show Steps p.tables e below (s₁.setTop (mkF m 4 #[.val (.long p0), .second, .val (.int p1)] [(.int (8 : Int32)), (.int (2 : Int32)), (.long p0)])) _
    refine XS.iloadN X0.here hx rfl (hb hby d2_4) rfl  ?_
    show Steps p.tables e below (s₁.setTop (mkF m 5 #[.val (.long p0), .second, .val (.int p1)] [(.int p1), (.int (8 : Int32)), (.int (2 : Int32)), (.long p0)])) _
    refine XS.imul X0.here hx rfl (hb hby d2_5) rfl ?_
    show Steps p.tables e below (s₁.setTop (mkF m 6 #[.val (.long p0), .second, .val (.int p1)] [(.int ((8 : Int32) * p1)), (.int (2 : Int32)), (.long p0)])) _
    refine XS.iadd X0.here hx rfl (hb hby d2_6) rfl ?_
    show Steps p.tables e below (s₁.setTop (mkF m 7 #[.val (.long p0), .second, .val (.int p1)] [(.int ((2 : Int32) + ((8 : Int32) * p1))), (.long p0)])) _
    refine XS.lushr X0.here hx rfl (hb hby d2_7) rfl ?_
    show Steps p.tables e below (s₁.setTop (mkF m 8 #[.val (.long p0), .second, .val (.int p1)] [(.long ((p0.toUInt64 >>> (((2 : Int32) + ((8 : Int32) * p1)) &&& 0x3f).toInt64.toUInt64).toInt64))])) _
    refine X0.ldc2Long hx hown (mvT hZ (hw _ (List.mem_of_getElem? (i := 9) rfl))) (g := (mkF m 8 #[.val (.long p0), .second, .val (.int p1)] [(.long ((p0.toUInt64 >>> (((2 : Int32) + ((8 : Int32) * p1)) &&& 0x3f).toInt64.toUInt64).toInt64))])) rfl (hb hby d2_8) _ ?_
    show Steps p.tables e below (s₁.setTop (mkF m 11 #[.val (.long p0), .second, .val (.int p1)] [(.long (255 : Int64)), (.long ((p0.toUInt64 >>> (((2 : Int32) + ((8 : Int32) * p1)) &&& 0x3f).toInt64.toUInt64).toInt64))])) _
    refine XS.land X0.here hx rfl (hb hby d2_11) rfl ?_
    show Steps p.tables e below (s₁.setTop (mkF m 12 #[.val (.long p0), .second, .val (.int p1)] [(.long (((p0.toUInt64 >>> (((2 : Int32) + ((8 : Int32) * p1)) &&& 0x3f).toInt64.toUInt64).toInt64) &&& (255 : Int64)))])) _
    refine XS.l2i X0.here hx rfl (hb hby d2_12) rfl ?_
    show Steps p.tables e below (s₁.setTop (mkF m 13 #[.val (.long p0), .second, .val (.int p1)] [(.int ((((p0.toUInt64 >>> (((2 : Int32) + ((8 : Int32) * p1)) &&& 0x3f).toInt64.toUInt64).toInt64) &&& (255 : Int64)).toInt32))])) _
    refine XS.i2c X0.here hx rfl (hb hby d2_13) rfl ?_
    show Steps p.tables e below (s₁.setTop (mkF m 14 #[.val (.long p0), .second, .val (.int p1)] [(.int (((((p0.toUInt64 >>> (((2 : Int32) + ((8 : Int32) * p1)) &&& 0x3f).toInt64.toUInt64).toInt64) &&& (255 : Int64)).toInt32).toUInt32.toUInt16.toUInt32.toInt32))])) _
    exact retN X0 hx (t := .char) Bd.returns (by simp) (hb hby d2_14) hr
  · show Q_2 Z p0 p1 h0 n0 _ s₁.heap _
    rw [e0]
    exact ⟨congrArg (fun z => some (Value.int z)) (by rfl : (nar .char (((((p0.toUInt64 >>> (((2 : Int32) + ((8 : Int32) * p1)) &&& 0x3f).toInt64.toUInt64).toInt64) &&& (255 : Int64)).toInt32).toUInt32.toUInt16.toUInt32.toInt32)) = f_2 p0 p1), N0, rfl⟩
theorem own_f2r (x : Int64) (i : Int32) : 0 ≤ (f_2 x i).toInt ∧ (f_2 x i).toInt < 256 := by
  obtain ⟨z, hz⟩ : ∃ z, z = ((x.toUInt64 >>> (((2 : Int32) + ((8 : Int32) * i)) &&& 0x3f).toInt64.toUInt64).toInt64) := ⟨_, rfl⟩
  have e : f_2 x i = ((z &&& (255 : Int64)).toInt32.toUInt32.toUInt16.toUInt32.toInt32).toUInt32.toUInt16.toUInt32.toInt32 := by rw [hz]; rfl
  rw [e]
  have m := c_maskL z (255 : Int64) 8 (by decide) (by decide)
  have l := c_l2i (z &&& (255 : Int64))
  have c := c_i2c (z &&& (255 : Int64)).toInt32
  have d := c_i2c ((z &&& (255 : Int64)).toInt32.toUInt32.toUInt16.toUInt32.toInt32)
  omega
theorem own_c255 (x : Int64) (i : Int32) : ¬ ((255 : Int32) < (f_2 x i).toUInt32.toUInt16.toUInt32.toInt32) := by
  rw [Int32.lt_iff_toInt_lt, show ((255 : Int32)).toInt = 255 from rfl]
  have r := own_f2r x i
  have c := c_i2c (f_2 x i)
  omega
theorem d8_0 : decode jdk_52_method_15_code 0 = .ok (.iload_n 1, 1) := by decide +kernel
theorem d8_1 : decode jdk_52_method_15_code 1 = .ok (.aload_n 0, 1) := by decide +kernel
theorem d8_2 : decode jdk_52_method_15_code 2 = .ok (.arraylength, 1) := by decide +kernel
theorem d8_3 : decode jdk_52_method_15_code 3 = .ok (.isub, 1) := by decide +kernel
theorem d8_4 : decode jdk_52_method_15_code 4 = .ok (.bipush 31, 2) := by decide +kernel
theorem d8_6 : decode jdk_52_method_15_code 6 = .ok (.iushr, 1) := by decide +kernel
theorem d8_7 : decode jdk_52_method_15_code 7 = .ok (.i2b, 1) := by decide +kernel
theorem d8_8 : decode jdk_52_method_15_code 8 = .ok (.ireturn, 1) := by decide +kernel
theorem pn_8 : plainName "java/lang/StringUTF16" = true := by first | (simp [plainName, overriddenIn]; done) | decide +kernel
theorem ef_8t1 (m : MethodId) (p0 : Addr) : entryFrame m #[(.ref p0), (.int (1 : Int32))] 2 = mkF m 0 #[.val (.ref p0), .val (.int (1 : Int32))] [] := by first | (simp [entryFrame, mkF, argsToLocals, Value.category]; done) | rfl
def f_8t1 (d_ : Nat → Int32) : Int32 := (nar .byte (((((1 : Int32) - (1 : Int32)).toUInt32 >>> ((31 : Int32) &&& 31).toUInt32).toInt32).toInt8.toInt32))
def Q_8t1 (Z : State) (p0 : Addr) (d_ : Nat → Int32) (h0 : Heap) (n0 : Nat) (v : Option Value) (h : Heap) (L : List Loc) : Prop := v = some (.int (f_8t1 d_)) ∧ Fr n0 L ∧ h = h0
set_option maxRecDepth 65536 in
set_option maxHeartbeats 40000000 in
theorem rm_8t1 (l : Launch) (Z : State) (a0 : Array Value) (hw : ∀ d ∈ tables_1, d.before a0 Z = true) (ws : List Jvm.Cond) (p0 : Addr) (d_ : Nat → Int32) (h0 : Heap) (n0 : Nat) (Z0 : n0 ≤ h0.size) (A_p0 : own_A Z h0 p0 .byte 1 (fun i => .int (d_ i))) :
    MetFree l (⟨"java/lang/StringUTF16", "coderFromArrayLen", "([BI)B"⟩ : MethodName) (head1 (Jvm.Cond.code (⟨"java/lang/StringUTF16", "coderFromArrayLen", "([BI)B"⟩ : MethodName) jdk_52_method_15_code 2 (some .byte) :: ws) ({ frames := 0, cells := 0, slots := 0, locals := 0 } : Room)) (fun a U => a = #[(.ref p0), (.int (1 : Int32))] ∧ Z.Warmed39 U.vm ∧ U.heap = h0) (fun _ _ _ _ _ => True) (fun _ U o U' => ∃ v L, o = .returned v ∧ Q_8t1 Z p0 d_ h0 n0 v U'.heap L ∧ FrameEnd U o U' L ({ frames := 0, cells := 0, slots := 0, locals := 0 } : Room).cells ({ frames := 0, cells := 0, slots := 0, locals := 0 } : Room).slots) := by
  refine MetFree.of_bodySF (plainFor_of_name pn_8) hisR ?_
  intro p e s m args below meth c s₁ Bd hml0 hP hK
  obtain ⟨rfl, hZ, hh⟩ := hP
  have hx := Bd.exec
  have hby := Bd.bytes
  have hml : c.maxLocals = 2 := hml0
  have hown : s.vm.findClass "java/lang/StringUTF16" = some m.cls := findClass_of_methodNamed Bd.named
  have hnm := (name_of_methodNamed Bd.named Bd.method).1
  have X0 : Stand p l e ({ frames := 0, cells := 0, slots := 0, locals := 0 } : Room) s m #[(.ref p0), (.int (1 : Int32))] below meth c s₁ [] 0 0 := Stand.of_body Bd
  have e0 : s₁.heap = h0 := by rw [← hh, Bd.state]; rfl
  have N0 := Fr.nil n0
  have K0 : Keep h0 h0 [] := Keep.refl h0 _
  have pre0 : ∀ t, Steps p.tables e below (s₁.setTop (mkF m 0 #[.val (.ref p0), .val (.int (1 : Int32))] [])) t → Steps p.tables e below (s₁.setTop (entryFrame m #[(.ref p0), (.int (1 : Int32))] 2)) t := fun t k => castTop (ef_8t1 m p0) k
  obtain ⟨fs, hr, hrun, hended, hW, hsame⟩ := X0.leave (v := some (.int (nar .byte (((((1 : Int32) - (1 : Int32)).toUInt32 >>> ((31 : Int32) &&& 31).toUInt32).toInt32).toInt8.toInt32)))) (fun h => by rw [Bd.returns] at h; cases h) (BodyLoose.notSynchronized Bd)
  refine ⟨_, _, pre0 _ ?_, hrun, hended, _, _, rfl, ?_, ⟨_, rfl⟩, hW, hsame.mono (by decide) (by decide)⟩
  · show Steps p.tables e below (s₁.setTop (mkF m 0 #[.val (.ref p0), .val (.int (1 : Int32))] [])) _
    refine XS.iloadN X0.here hx rfl (hb hby d8_0) rfl  ?_
    show Steps p.tables e below (s₁.setTop (mkF m 1 #[.val (.ref p0), .val (.int (1 : Int32))] [(.int (1 : Int32))])) _
    refine XS.aloadN X0.here hx rfl (hb hby d8_1) rfl rfl ?_
    show Steps p.tables e below (s₁.setTop (mkF m 2 #[.val (.ref p0), .val (.int (1 : Int32))] [(.ref p0), (.int (1 : Int32))])) _
    refine own_len X0 hx hZ e0 A_p0 (z := (1 : Int32)) rfl (g := (mkF m 2 #[.val (.ref p0), .val (.int (1 : Int32))] [(.ref p0), (.int (1 : Int32))])) rfl rfl (hb hby d8_2) ?_
    show Steps p.tables e below (s₁.setTop (mkF m 3 #[.val (.ref p0), .val (.int (1 : Int32))] [(.int (1 : Int32)), (.int (1 : Int32))])) _
    refine XS.isub X0.here hx rfl (hb hby d8_3) rfl ?_
    show Steps p.tables e below (s₁.setTop (mkF m 4 #[.val (.ref p0), .val (.int (1 : Int32))] [(.int ((1 : Int32) - (1 : Int32)))])) _
    refine XS.bipush X0.here hx rfl (hb hby d8_4) ?_
    show Steps p.tables e below (s₁.setTop (mkF m 6 #[.val (.ref p0), .val (.int (1 : Int32))] [(.int (31 : Int32)), (.int ((1 : Int32) - (1 : Int32)))])) _
    refine XS.iushr X0.here hx rfl (hb hby d8_6) rfl ?_
    show Steps p.tables e below (s₁.setTop (mkF m 7 #[.val (.ref p0), .val (.int (1 : Int32))] [(.int ((((1 : Int32) - (1 : Int32)).toUInt32 >>> ((31 : Int32) &&& 31).toUInt32).toInt32))])) _
    refine XS.i2b X0.here hx rfl (hb hby d8_7) rfl ?_
    show Steps p.tables e below (s₁.setTop (mkF m 8 #[.val (.ref p0), .val (.int (1 : Int32))] [(.int (((((1 : Int32) - (1 : Int32)).toUInt32 >>> ((31 : Int32) &&& 31).toUInt32).toInt32).toInt8.toInt32))])) _
    exact retN X0 hx (t := .byte) Bd.returns (by simp) (hb hby d8_8) hr
  · show Q_8t1 Z p0 d_ h0 n0 _ s₁.heap _
    rw [e0]
    exact ⟨congrArg (fun z => some (Value.int z)) (by rfl : (nar .byte (((((1 : Int32) - (1 : Int32)).toUInt32 >>> ((31 : Int32) &&& 31).toUInt32).toInt32).toInt8.toInt32)) = f_8t1 d_), N0, rfl⟩
theorem d7_0 : decode jdk_52_method_21_code 0 = .ok (.iconst 0, 1) := by decide +kernel
theorem d7_1 : decode jdk_52_method_21_code 1 = .ok (.istore 5, 2) := by decide +kernel
theorem d7_3 : decode jdk_52_method_21_code 3 = .ok (.iload 5, 2) := by decide +kernel
theorem d7_5 : decode jdk_52_method_21_code 5 = .ok (.iload 4, 2) := by decide +kernel
theorem d7_7 : decode jdk_52_method_21_code 7 = .ok (.if_icmp .ge 37, 3) := by decide +kernel
theorem d7_10 : decode jdk_52_method_21_code 10 = .ok (.aload_n 0, 1) := by decide +kernel
theorem d7_11 : decode jdk_52_method_21_code 11 = .ok (.iload_n 1, 1) := by decide +kernel
theorem d7_12 : decode jdk_52_method_21_code 12 = .ok (.caload, 1) := by decide +kernel
theorem d7_13 : decode jdk_52_method_21_code 13 = .ok (.istore 6, 2) := by decide +kernel
theorem d7_15 : decode jdk_52_method_21_code 15 = .ok (.iload 6, 2) := by decide +kernel
theorem d7_17 : decode jdk_52_method_21_code 17 = .ok (.sipush 255, 3) := by decide +kernel
theorem d7_20 : decode jdk_52_method_21_code 20 = .ok (.if_icmp .le 6, 3) := by decide +kernel
theorem d7_26 : decode jdk_52_method_21_code 26 = .ok (.aload_n 2, 1) := by decide +kernel
theorem d7_27 : decode jdk_52_method_21_code 27 = .ok (.iload_n 3, 1) := by decide +kernel
theorem d7_28 : decode jdk_52_method_21_code 28 = .ok (.iload 6, 2) := by decide +kernel
theorem d7_30 : decode jdk_52_method_21_code 30 = .ok (.i2b, 1) := by decide +kernel
theorem d7_31 : decode jdk_52_method_21_code 31 = .ok (.bastore, 1) := by decide +kernel
theorem d7_32 : decode jdk_52_method_21_code 32 = .ok (.iinc 1 1, 3) := by decide +kernel
theorem d7_35 : decode jdk_52_method_21_code 35 = .ok (.iinc 3 1, 3) := by decide +kernel
theorem d7_38 : decode jdk_52_method_21_code 38 = .ok (.iinc 5 1, 3) := by decide +kernel
theorem d7_41 : decode jdk_52_method_21_code 41 = .ok (.goto (-38), 3) := by decide +kernel
theorem d7_44 : decode jdk_52_method_21_code 44 = .ok (.iload 4, 2) := by decide +kernel
theorem d7_46 : decode jdk_52_method_21_code 46 = .ok (.ireturn, 1) := by decide +kernel
theorem pn_7 : plainName "java/lang/StringUTF16" = true := by first | (simp [plainName, overriddenIn]; done) | decide +kernel
theorem ef_7t1 (m : MethodId) (p0 : Addr) (p2 : Addr) : entryFrame m #[(.ref p0), (.int (0 : Int32)), (.ref p2), (.int (0 : Int32)), (.int (1 : Int32))] 7 = mkF m 0 #[.val (.ref p0), .val (.int (0 : Int32)), .val (.ref p2), .val (.int (0 : Int32)), .val (.int (1 : Int32)), .unset, .unset] [] := by first | (simp [entryFrame, mkF, argsToLocals, Value.category]; done) | rfl
def f_7t1 (g_ : Nat → Int32) (d_ : Nat → Int32) : Int32 := let v6_13 : Int32 := (g_ 0); let g_31 : Nat → Int32 := (own_upd d_ 0 (v6_13.toInt8.toInt32).toInt8.toInt32); (1 : Int32)
def f_7t1_1 (g_ : Nat → Int32) (d_ : Nat → Int32) : Nat → Int32 := let v6_13 : Int32 := (g_ 0); let g_31 : Nat → Int32 := (own_upd d_ 0 (v6_13.toInt8.toInt32).toInt8.toInt32); g_31
def Q_7t1 (Z : State) (p0 : Addr) (p2 : Addr) (g_ : Nat → Int32) (d_ : Nat → Int32) (h0 : Heap) (n0 : Nat) (v : Option Value) (h : Heap) (L : List Loc) : Prop := v = some (.int (f_7t1 g_ d_)) ∧ Fr n0 L ∧ Keep h0 h [p2] ∧ own_A Z h p2 .byte 1 (fun i => .int ((f_7t1_1 g_ d_) i))
set_option maxRecDepth 65536 in
set_option maxHeartbeats 40000000 in
theorem rm_7t1 (l : Launch) (Z : State) (a0 : Array Value) (hw : ∀ d ∈ tables_1, d.before a0 Z = true) (ws : List Jvm.Cond) (p0 : Addr) (p2 : Addr) (g_ : Nat → Int32) (d_ : Nat → Int32) (h0 : Heap) (n0 : Nat) (Z0 : n0 ≤ h0.size) (A_p0 : own_A Z h0 p0 .char 1 (fun i => .int (g_ i))) (A_p2 : own_A Z h0 p2 .byte 1 (fun i => .int (d_ i))) (ge_p2 : n0 ≤ p2) (ne_p0_p2 : p0 ≠ p2) (hc0_ : ¬ ((255 : Int32) < (g_ 0))) :
    MetFree l (⟨"java/lang/StringUTF16", "compress", "([CI[BII)I"⟩ : MethodName) (head1 (Jvm.Cond.code (⟨"java/lang/StringUTF16", "compress", "([CI[BII)I"⟩ : MethodName) jdk_52_method_21_code 7 (some .int) :: ws) ({ frames := 0, cells := 0, slots := 0, locals := 0 } : Room)) (fun a U => a = #[(.ref p0), (.int (0 : Int32)), (.ref p2), (.int (0 : Int32)), (.int (1 : Int32))] ∧ Z.Warmed39 U.vm ∧ U.heap = h0) (fun _ _ _ _ _ => True) (fun _ U o U' => ∃ v L, o = .returned v ∧ Q_7t1 Z p0 p2 g_ d_ h0 n0 v U'.heap L ∧ FrameEnd U o U' L ({ frames := 0, cells := 0, slots := 0, locals := 0 } : Room).cells ({ frames := 0, cells := 0, slots := 0, locals := 0 } : Room).slots) := by
  refine MetFree.of_bodySF (plainFor_of_name pn_7) hisR ?_
  intro p e s m args below meth c s₁ Bd hml0 hP hK
  obtain ⟨rfl, hZ, hh⟩ := hP
  have hx := Bd.exec
  have hby := Bd.bytes
  have hml : c.maxLocals = 7 := hml0
  have hown : s.vm.findClass "java/lang/StringUTF16" = some m.cls := findClass_of_methodNamed Bd.named
  have hnm := (name_of_methodNamed Bd.named Bd.method).1
  have X0 : Stand p l e ({ frames := 0, cells := 0, slots := 0, locals := 0 } : Room) s m #[(.ref p0), (.int (0 : Int32)), (.ref p2), (.int (0 : Int32)), (.int (1 : Int32))] below meth c s₁ [] 0 0 := Stand.of_body Bd
  have e0 : s₁.heap = h0 := by rw [← hh, Bd.state]; rfl
  have N0 := Fr.nil n0
  have K0 : Keep h0 h0 [p2] := Keep.refl h0 _
  have pre0 : ∀ t, Steps p.tables e below (s₁.setTop (mkF m 0 #[.val (.ref p0), .val (.int (0 : Int32)), .val (.ref p2), .val (.int (0 : Int32)), .val (.int (1 : Int32)), .unset, .unset] [])) t → Steps p.tables e below (s₁.setTop (entryFrame m #[(.ref p0), (.int (0 : Int32)), (.ref p2), (.int (0 : Int32)), (.int (1 : Int32))] 7)) t := fun t k => castTop (ef_7t1 m p0 p2) k
  obtain ⟨v6_13, hv6_13⟩ : ∃ z : Int32, z = (g_ 0) := ⟨_, rfl⟩
  have pre1 : ∀ t, Steps p.tables e below (s₁.setTop (mkF m 31 #[.val (.ref p0), .val (.int (0 : Int32)), .val (.ref p2), .val (.int (0 : Int32)), .val (.int (1 : Int32)), .val (.int (0 : Int32)), .val (.int v6_13)] [(.int (v6_13.toInt8.toInt32)), (.int (0 : Int32)), (.ref p2)])) t → Steps p.tables e below (s₁.setTop (entryFrame m #[(.ref p0), (.int (0 : Int32)), (.ref p2), (.int (0 : Int32)), (.int (1 : Int32))] 7)) t := by
    intro t k
    refine pre0 t ?_
    show Steps p.tables e below (s₁.setTop (mkF m 0 #[.val (.ref p0), .val (.int (0 : Int32)), .val (.ref p2), .val (.int (0 : Int32)), .val (.int (1 : Int32)), .unset, .unset] [])) _
    refine XS.iconst X0.here hx rfl (hb hby d7_0) ?_
    show Steps p.tables e below (s₁.setTop (mkF m 1 #[.val (.ref p0), .val (.int (0 : Int32)), .val (.ref p2), .val (.int (0 : Int32)), .val (.int (1 : Int32)), .unset, .unset] [(.int (0 : Int32))])) _
    refine XS.istore X0.here hx rfl (hb hby d7_1) rfl (l' := #[.val (.ref p0), .val (.int (0 : Int32)), .val (.ref p2), .val (.int (0 : Int32)), .val (.int (1 : Int32)), .val (.int (0 : Int32)), .unset]) rfl ?_
    show Steps p.tables e below (s₁.setTop (mkF m 3 #[.val (.ref p0), .val (.int (0 : Int32)), .val (.ref p2), .val (.int (0 : Int32)), .val (.int (1 : Int32)), .val (.int (0 : Int32)), .unset] [])) _
    refine XS.iload X0.here hx rfl (hb hby d7_3) rfl  ?_
    show Steps p.tables e below (s₁.setTop (mkF m 5 #[.val (.ref p0), .val (.int (0 : Int32)), .val (.ref p2), .val (.int (0 : Int32)), .val (.int (1 : Int32)), .val (.int (0 : Int32)), .unset] [(.int (0 : Int32))])) _
    refine XS.iload X0.here hx rfl (hb hby d7_5) rfl  ?_
    show Steps p.tables e below (s₁.setTop (mkF m 7 #[.val (.ref p0), .val (.int (0 : Int32)), .val (.ref p2), .val (.int (0 : Int32)), .val (.int (1 : Int32)), .val (.int (0 : Int32)), .unset] [(.int (1 : Int32)), (.int (0 : Int32))])) _
    refine XS.icmpNo X0.here hx rfl (hb hby d7_7) rfl (tlt (by decide : (0 : Int32) < (1 : Int32))).2.1 ?_
    show Steps p.tables e below (s₁.setTop (mkF m 10 #[.val (.ref p0), .val (.int (0 : Int32)), .val (.ref p2), .val (.int (0 : Int32)), .val (.int (1 : Int32)), .val (.int (0 : Int32)), .unset] [])) _
    refine XS.aloadN X0.here hx rfl (hb hby d7_10) rfl rfl ?_
    show Steps p.tables e below (s₁.setTop (mkF m 11 #[.val (.ref p0), .val (.int (0 : Int32)), .val (.ref p2), .val (.int (0 : Int32)), .val (.int (1 : Int32)), .val (.int (0 : Int32)), .unset] [(.ref p0)])) _
    refine XS.iloadN X0.here hx rfl (hb hby d7_11) rfl  ?_
    show Steps p.tables e below (s₁.setTop (mkF m 12 #[.val (.ref p0), .val (.int (0 : Int32)), .val (.ref p2), .val (.int (0 : Int32)), .val (.int (1 : Int32)), .val (.int (0 : Int32)), .unset] [(.int (0 : Int32)), (.ref p0)])) _
    refine own_ldC X0 hx hZ e0 A_p0 (j := (0 : Int32)) (k := 0) (by decide) (by decide) (by decide) (g := (mkF m 12 #[.val (.ref p0), .val (.int (0 : Int32)), .val (.ref p2), .val (.int (0 : Int32)), .val (.int (1 : Int32)), .val (.int (0 : Int32)), .unset] [(.int (0 : Int32)), (.ref p0)])) rfl rfl (hb hby d7_12) ?_
    show Steps p.tables e below (s₁.setTop (mkF m 13 #[.val (.ref p0), .val (.int (0 : Int32)), .val (.ref p2), .val (.int (0 : Int32)), .val (.int (1 : Int32)), .val (.int (0 : Int32)), .unset] [(.int (g_ 0))])) _
    refine XS.istore X0.here hx rfl (hb hby d7_13) rfl (l' := #[.val (.ref p0), .val (.int (0 : Int32)), .val (.ref p2), .val (.int (0 : Int32)), .val (.int (1 : Int32)), .val (.int (0 : Int32)), .val (.int v6_13)]) (by rw [hv6_13]; rfl) ?_
    show Steps p.tables e below (s₁.setTop (mkF m 15 #[.val (.ref p0), .val (.int (0 : Int32)), .val (.ref p2), .val (.int (0 : Int32)), .val (.int (1 : Int32)), .val (.int (0 : Int32)), .val (.int v6_13)] [])) _
    refine XS.iload X0.here hx rfl (hb hby d7_15) rfl  ?_
    show Steps p.tables e below (s₁.setTop (mkF m 17 #[.val (.ref p0), .val (.int (0 : Int32)), .val (.ref p2), .val (.int (0 : Int32)), .val (.int (1 : Int32)), .val (.int (0 : Int32)), .val (.int v6_13)] [(.int v6_13)])) _
    refine XS.sipush X0.here hx rfl (hb hby d7_17) ?_
    show Steps p.tables e below (s₁.setTop (mkF m 20 #[.val (.ref p0), .val (.int (0 : Int32)), .val (.ref p2), .val (.int (0 : Int32)), .val (.int (1 : Int32)), .val (.int (0 : Int32)), .val (.int v6_13)] [(.int (255 : Int32)), (.int v6_13)])) _
    refine XS.icmpYes X0.here hx rfl (pc0 := 20) (pc' := 26) rfl (hb hby d7_20) rfl (flt ((by rw [hv6_13]; exact hc0_) : ¬ ((255 : Int32) < v6_13))).2.2.2 (by decide) (by decide) ?_
    show Steps p.tables e below (s₁.setTop (mkF m 26 #[.val (.ref p0), .val (.int (0 : Int32)), .val (.ref p2), .val (.int (0 : Int32)), .val (.int (1 : Int32)), .val (.int (0 : Int32)), .val (.int v6_13)] [])) _
    refine XS.aloadN X0.here hx rfl (hb hby d7_26) rfl rfl ?_
    show Steps p.tables e below (s₁.setTop (mkF m 27 #[.val (.ref p0), .val (.int (0 : Int32)), .val (.ref p2), .val (.int (0 : Int32)), .val (.int (1 : Int32)), .val (.int (0 : Int32)), .val (.int v6_13)] [(.ref p2)])) _
    refine XS.iloadN X0.here hx rfl (hb hby d7_27) rfl  ?_
    show Steps p.tables e below (s₁.setTop (mkF m 28 #[.val (.ref p0), .val (.int (0 : Int32)), .val (.ref p2), .val (.int (0 : Int32)), .val (.int (1 : Int32)), .val (.int (0 : Int32)), .val (.int v6_13)] [(.int (0 : Int32)), (.ref p2)])) _
    refine XS.iload X0.here hx rfl (hb hby d7_28) rfl  ?_
    show Steps p.tables e below (s₁.setTop (mkF m 30 #[.val (.ref p0), .val (.int (0 : Int32)), .val (.ref p2), .val (.int (0 : Int32)), .val (.int (1 : Int32)), .val (.int (0 : Int32)), .val (.int v6_13)] [(.int v6_13), (.int (0 : Int32)), (.ref p2)])) _
    refine XS.i2b X0.here hx rfl (hb hby d7_30) rfl ?_
    exact k
  obtain ⟨T2, h2, X2, e2, W2, A2, st2⟩ := own_stB X0 hx hZ e0 A_p2 (j := (0 : Int32)) (x := (v6_13.toInt8.toInt32)) (k := 0) (by decide) (by decide) (by decide) (g := (mkF m 31 #[.val (.ref p0), .val (.int (0 : Int32)), .val (.ref p2), .val (.int (0 : Int32)), .val (.int (1 : Int32)), .val (.int (0 : Int32)), .val (.int v6_13)] [(.int (v6_13.toInt8.toInt32)), (.int (0 : Int32)), (.ref p2)])) rfl rfl (hb hby d7_31)
  obtain ⟨g_31, hg_31⟩ : ∃ z : Nat → Int32, z = (own_upd d_ 0 (v6_13.toInt8.toInt32).toInt8.toInt32) := ⟨_, rfl⟩
  rw [← hg_31] at A2
  have arr_p0_2 := A_p0.other W2 ne_p0_p2
  have K2 := K0.wr W2 (Or.inl (List.mem_of_getElem? (i := 0) rfl))
  have Z2 := Nat.le_trans Z0 (Nat.le_of_eq W2.size.symm)
  have N2 := Fr.snoc X2 N0 ge_p2
  obtain ⟨fs, hr, hrun, hended, hW, hsame⟩ := X2.leave (v := some (.int (1 : Int32))) (fun h => by rw [Bd.returns] at h; cases h) (BodyLoose.notSynchronized Bd)
  refine ⟨_, _, pre1 _ ?_, hrun, hended, _, _, rfl, ?_, ⟨_, rfl⟩, hW, hsame.mono (by decide) (by decide)⟩
  · show Steps p.tables e below (s₁.setTop (mkF m 31 #[.val (.ref p0), .val (.int (0 : Int32)), .val (.ref p2), .val (.int (0 : Int32)), .val (.int (1 : Int32)), .val (.int (0 : Int32)), .val (.int v6_13)] [(.int (v6_13.toInt8.toInt32)), (.int (0 : Int32)), (.ref p2)])) _
    refine st2 _ ?_
    show Steps p.tables e below (T2.setTop (mkF m 32 #[.val (.ref p0), .val (.int (0 : Int32)), .val (.ref p2), .val (.int (0 : Int32)), .val (.int (1 : Int32)), .val (.int (0 : Int32)), .val (.int v6_13)] [])) _
    refine XS.iinc X2.here hx rfl (hb hby d7_32) rfl (l' := #[.val (.ref p0), .val (.int (1 : Int32)), .val (.ref p2), .val (.int (0 : Int32)), .val (.int (1 : Int32)), .val (.int (0 : Int32)), .val (.int v6_13)]) rfl ?_
    show Steps p.tables e below (T2.setTop (mkF m 35 #[.val (.ref p0), .val (.int (1 : Int32)), .val (.ref p2), .val (.int (0 : Int32)), .val (.int (1 : Int32)), .val (.int (0 : Int32)), .val (.int v6_13)] [])) _
    refine XS.iinc X2.here hx rfl (hb hby d7_35) rfl (l' := #[.val (.ref p0), .val (.int (1 : Int32)), .val (.ref p2), .val (.int (1 : Int32)), .val (.int (1 : Int32)), .val (.int (0 : Int32)), .val (.int v6_13)]) rfl ?_
    show Steps p.tables e below (T2.setTop (mkF m 38 #[.val (.ref p0), .val (.int (1 : Int32)), .val (.ref p2), .val (.int (1 : Int32)), .val (.int (1 : Int32)), .val (.int (0 : Int32)), .val (.int v6_13)] [])) _
    refine XS.iinc X2.here hx rfl (hb hby d7_38) rfl (l' := #[.val (.ref p0), .val (.int (1 : Int32)), .val (.ref p2), .val (.int (1 : Int32)), .val (.int (1 : Int32)), .val (.int (1 : Int32)), .val (.int v6_13)]) rfl ?_
    show Steps p.tables e below (T2.setTop (mkF m 41 #[.val (.ref p0), .val (.int (1 : Int32)), .val (.ref p2), .val (.int (1 : Int32)), .val (.int (1 : Int32)), .val (.int (1 : Int32)), .val (.int v6_13)] [])) _
    refine XS.goto X2.here hx rfl (pc0 := 41) (pc' := 3) rfl (hb hby d7_41) (by decide) (by decide) ?_
    show Steps p.tables e below (T2.setTop (mkF m 3 #[.val (.ref p0), .val (.int (1 : Int32)), .val (.ref p2), .val (.int (1 : Int32)), .val (.int (1 : Int32)), .val (.int (1 : Int32)), .val (.int v6_13)] [])) _
    refine XS.iload X2.here hx rfl (hb hby d7_3) rfl  ?_
    show Steps p.tables e below (T2.setTop (mkF m 5 #[.val (.ref p0), .val (.int (1 : Int32)), .val (.ref p2), .val (.int (1 : Int32)), .val (.int (1 : Int32)), .val (.int (1 : Int32)), .val (.int v6_13)] [(.int (1 : Int32))])) _
    refine XS.iload X2.here hx rfl (hb hby d7_5) rfl  ?_
    show Steps p.tables e below (T2.setTop (mkF m 7 #[.val (.ref p0), .val (.int (1 : Int32)), .val (.ref p2), .val (.int (1 : Int32)), .val (.int (1 : Int32)), .val (.int (1 : Int32)), .val (.int v6_13)] [(.int (1 : Int32)), (.int (1 : Int32))])) _
    refine XS.icmpYes X2.here hx rfl (pc0 := 7) (pc' := 44) rfl (hb hby d7_7) rfl (flt (by decide : ¬ ((1 : Int32) < (1 : Int32)))).2.1 (by decide) (by decide) ?_
    show Steps p.tables e below (T2.setTop (mkF m 44 #[.val (.ref p0), .val (.int (1 : Int32)), .val (.ref p2), .val (.int (1 : Int32)), .val (.int (1 : Int32)), .val (.int (1 : Int32)), .val (.int v6_13)] [])) _
    refine XS.iload X2.here hx rfl (hb hby d7_44) rfl  ?_
    show Steps p.tables e below (T2.setTop (mkF m 46 #[.val (.ref p0), .val (.int (1 : Int32)), .val (.ref p2), .val (.int (1 : Int32)), .val (.int (1 : Int32)), .val (.int (1 : Int32)), .val (.int v6_13)] [(.int (1 : Int32))])) _
    exact retI X2 hx Bd.returns (hb hby d7_46) hr
  · show Q_7t1 Z p0 p2 g_ d_ h0 n0 _ T2.heap _
    rw [e2]
    have o1 := (by subst hv6_13 hg_31; rfl : g_31 = f_7t1_1 g_ d_)
    have r1 := A2
    rw [o1] at r1
    exact ⟨congrArg (fun z => some (Value.int z)) (by subst hv6_13 hg_31; rfl : (1 : Int32) = f_7t1 g_ d_), N2, K2, r1⟩
theorem pd_0 : parseMethodDescriptor "([CI[BII)I" = some ⟨[(.array .char), .int, (.array .byte), .int, .int], some .int⟩ := by decide +kernel
theorem d6_0 : decode jdk_52_method_16_code 0 = .ok (.iload_n 2, 1) := by decide +kernel
theorem d6_1 : decode jdk_52_method_16_code 1 = .ok (.newarray .byte, 2) := by decide +kernel
theorem d6_3 : decode jdk_52_method_16_code 3 = .ok (.astore_n 3, 1) := by decide +kernel
theorem d6_4 : decode jdk_52_method_16_code 4 = .ok (.aload_n 0, 1) := by decide +kernel
theorem d6_5 : decode jdk_52_method_16_code 5 = .ok (.iload_n 1, 1) := by decide +kernel
theorem d6_6 : decode jdk_52_method_16_code 6 = .ok (.aload_n 3, 1) := by decide +kernel
theorem d6_7 : decode jdk_52_method_16_code 7 = .ok (.iconst 0, 1) := by decide +kernel
theorem d6_8 : decode jdk_52_method_16_code 8 = .ok (.iload_n 2, 1) := by decide +kernel
theorem d6_9 : decode jdk_52_method_16_code 9 = .ok (.invokestatic 115, 3) := by decide +kernel
theorem d6_12 : decode jdk_52_method_16_code 12 = .ok (.istore 4, 2) := by decide +kernel
theorem d6_14 : decode jdk_52_method_16_code 14 = .ok (.iload 4, 2) := by decide +kernel
theorem d6_16 : decode jdk_52_method_16_code 16 = .ok (.iload_n 2, 1) := by decide +kernel
theorem d6_17 : decode jdk_52_method_16_code 17 = .ok (.if_icmp .eq 40, 3) := by decide +kernel
theorem d6_57 : decode jdk_52_method_16_code 57 = .ok (.aload_n 3, 1) := by decide +kernel
theorem d6_58 : decode jdk_52_method_16_code 58 = .ok (.areturn, 1) := by decide +kernel
theorem pn_6 : plainName "java/lang/StringUTF16" = true := by first | (simp [plainName, overriddenIn]; done) | decide +kernel
theorem ef_6t1 (m : MethodId) (p0 : Addr) : entryFrame m #[(.ref p0), (.int (0 : Int32)), (.int (1 : Int32))] 6 = mkF m 0 #[.val (.ref p0), .val (.int (0 : Int32)), .val (.int (1 : Int32)), .unset, .unset, .unset] [] := by first | (simp [entryFrame, mkF, argsToLocals, Value.category]; done) | rfl
def f_6t1_1 (g_ : Nat → Int32) : Nat → Int32 := let v4_12 : Int32 := (f_7t1 g_ own_zI); (f_7t1_1 g_ own_zI)
def Q_6t1 (Z : State) (p0 : Addr) (g_ : Nat → Int32) (h0 : Heap) (n0 : Nat) (v : Option Value) (h : Heap) (L : List Loc) : Prop := ∃ r : Addr, v = some (.ref r) ∧ Fr n0 L ∧ h0.size ≤ r ∧ Keep h0 h [] ∧ own_A Z h r .byte 1 (fun i => .int ((f_6t1_1 g_) i))
set_option maxRecDepth 65536 in
set_option maxHeartbeats 40000000 in
theorem rm_6t1 (l : Launch) (Z : State) (a0 : Array Value) (hw : ∀ d ∈ tables_1, d.before a0 Z = true) (ws : List Jvm.Cond) (p0 : Addr) (g_ : Nat → Int32) (h0 : Heap) (n0 : Nat) (Z0 : n0 ≤ h0.size) (A_p0 : own_A Z h0 p0 .char 1 (fun i => .int (g_ i))) (hc0_ : ¬ ((255 : Int32) < (g_ 0))) :
    MetFree l (⟨"java/lang/StringUTF16", "compress", "([CII)[B"⟩ : MethodName) (head1 (Jvm.Cond.code (⟨"java/lang/StringUTF16", "compress", "([CII)[B"⟩ : MethodName) jdk_52_method_16_code 6 (some (.array .byte)) :: ws) ({ frames := 1, cells := 1, slots := 1, locals := 18 } : Room)) (fun a U => a = #[(.ref p0), (.int (0 : Int32)), (.int (1 : Int32))] ∧ Z.Warmed39 U.vm ∧ U.heap = h0) (fun _ _ _ _ _ => True) (fun _ U o U' => ∃ v L, o = .returned v ∧ Q_6t1 Z p0 g_ h0 n0 v U'.heap L ∧ FrameEnd U o U' L ({ frames := 1, cells := 1, slots := 1, locals := 18 } : Room).cells ({ frames := 1, cells := 1, slots := 1, locals := 18 } : Room).slots) := by
  refine MetFree.of_bodySF (plainFor_of_name pn_6) hisR ?_
  intro p e s m args below meth c s₁ Bd hml0 hP hK
  obtain ⟨rfl, hZ, hh⟩ := hP
  have hx := Bd.exec
  have hby := Bd.bytes
  have hml : c.maxLocals = 6 := hml0
  have hown : s.vm.findClass "java/lang/StringUTF16" = some m.cls := findClass_of_methodNamed Bd.named
  have hnm := (name_of_methodNamed Bd.named Bd.method).1
  have X0 : Stand p l e ({ frames := 1, cells := 1, slots := 1, locals := 18 } : Room) s m #[(.ref p0), (.int (0 : Int32)), (.int (1 : Int32))] below meth c s₁ [] 0 0 := Stand.of_body Bd
  have e0 : s₁.heap = h0 := by rw [← hh, Bd.state]; rfl
  have N0 := Fr.nil n0
  have K0 : Keep h0 h0 [] := Keep.refl h0 _
  have pre0 : ∀ t, Steps p.tables e below (s₁.setTop (mkF m 0 #[.val (.ref p0), .val (.int (0 : Int32)), .val (.int (1 : Int32)), .unset, .unset, .unset] [])) t → Steps p.tables e below (s₁.setTop (entryFrame m #[(.ref p0), (.int (0 : Int32)), (.int (1 : Int32))] 6)) t := fun t k => castTop (ef_6t1 m p0) k
  have pre1 : ∀ t, Steps p.tables e below (s₁.setTop (mkF m 1 #[.val (.ref p0), .val (.int (0 : Int32)), .val (.int (1 : Int32)), .unset, .unset, .unset] [(.int (1 : Int32))])) t → Steps p.tables e below (s₁.setTop (entryFrame m #[(.ref p0), (.int (0 : Int32)), (.int (1 : Int32))] 6)) t := by
    intro t k
    refine pre0 t ?_
    show Steps p.tables e below (s₁.setTop (mkF m 0 #[.val (.ref p0), .val (.int (0 : Int32)), .val (.int (1 : Int32)), .unset, .unset, .unset] [])) _
    refine XS.iloadN X0.here hx rfl (hb hby d6_0) rfl  ?_
    exact k
  obtain ⟨T2, h2, b2, gb2, X2, e2, E2, A2, st2⟩ := own_newP X0 hx hZ (hw _ (List.mem_of_getElem? (i := 28) rfl)) e0 (g := (mkF m 1 #[.val (.ref p0), .val (.int (0 : Int32)), .val (.int (1 : Int32)), .unset, .unset, .unset] [(.int (1 : Int32))])) rfl (hb hby d6_1) rfl (by decide) (n := 1) rfl (G := fun i => .int (own_zI i)) (fun _ => rfl) (cap := 1) (by decide) (by decide) (by decide) (by decide)
  have ne_p0_b2 : p0 ≠ b2 := Nat.ne_of_lt (Nat.lt_of_lt_of_le A_p0.lt (Nat.le_of_eq gb2.symm))
  have sz_b2 : h0.size ≤ b2 := Nat.le_trans K0.1 (Nat.le_of_eq gb2.symm)
  have ge_b2 : n0 ≤ b2 := Nat.le_trans Z0 (Nat.le_of_eq gb2.symm)
  have arr_p0_2 := A_p0.ext E2
  have K2 := K0.ext E2
  have Z2 := Nat.le_trans Z0 E2.1
  have pre4 : ∀ t, Steps p.tables e below (T2.setTop (mkF m 9 #[.val (.ref p0), .val (.int (0 : Int32)), .val (.int (1 : Int32)), .val (.ref b2), .unset, .unset] [(.int (1 : Int32)), (.int (0 : Int32)), (.ref b2), (.int (0 : Int32)), (.ref p0)])) t → Steps p.tables e below (s₁.setTop (entryFrame m #[(.ref p0), (.int (0 : Int32)), (.int (1 : Int32))] 6)) t := by
    intro t k
    refine pre1 t ?_
    show Steps p.tables e below (s₁.setTop (mkF m 1 #[.val (.ref p0), .val (.int (0 : Int32)), .val (.int (1 : Int32)), .unset, .unset, .unset] [(.int (1 : Int32))])) _
    refine st2 _ ?_
    show Steps p.tables e below (T2.setTop (mkF m 3 #[.val (.ref p0), .val (.int (0 : Int32)), .val (.int (1 : Int32)), .unset, .unset, .unset] [(.ref b2)])) _
    refine XS.astoreN X2.here hx rfl (hb hby d6_3) rfl rfl (l' := #[.val (.ref p0), .val (.int (0 : Int32)), .val (.int (1 : Int32)), .val (.ref b2), .unset, .unset]) rfl ?_
    show Steps p.tables e below (T2.setTop (mkF m 4 #[.val (.ref p0), .val (.int (0 : Int32)), .val (.int (1 : Int32)), .val (.ref b2), .unset, .unset] [])) _
    refine XS.aloadN X2.here hx rfl (hb hby d6_4) rfl rfl ?_
    show Steps p.tables e below (T2.setTop (mkF m 5 #[.val (.ref p0), .val (.int (0 : Int32)), .val (.int (1 : Int32)), .val (.ref b2), .unset, .unset] [(.ref p0)])) _
    refine XS.iloadN X2.here hx rfl (hb hby d6_5) rfl  ?_
    show Steps p.tables e below (T2.setTop (mkF m 6 #[.val (.ref p0), .val (.int (0 : Int32)), .val (.int (1 : Int32)), .val (.ref b2), .unset, .unset] [(.int (0 : Int32)), (.ref p0)])) _
    refine XS.aloadN X2.here hx rfl (hb hby d6_6) rfl rfl ?_
    show Steps p.tables e below (T2.setTop (mkF m 7 #[.val (.ref p0), .val (.int (0 : Int32)), .val (.int (1 : Int32)), .val (.ref b2), .unset, .unset] [(.ref b2), (.int (0 : Int32)), (.ref p0)])) _
    refine XS.iconst X2.here hx rfl (hb hby d6_7) ?_
    show Steps p.tables e below (T2.setTop (mkF m 8 #[.val (.ref p0), .val (.int (0 : Int32)), .val (.int (1 : Int32)), .val (.ref b2), .unset, .unset] [(.int (0 : Int32)), (.ref b2), (.int (0 : Int32)), (.ref p0)])) _
    refine XS.iloadN X2.here hx rfl (hb hby d6_8) rfl  ?_
    exact k
  obtain ⟨_, _, ⟨T3, L3, k3, n3⟩, -, X3, ⟨Lc3, hQ3, l3, y3, z3⟩, st3⟩ := Jvm.LawKit.callS X2 hx (y := (⟨"java/lang/StringUTF16", "compress", "([CI[BII)I"⟩ : MethodName)) hown (mvT hZ (hw _ (List.mem_of_getElem? (i := 29) rfl))) (mvT hZ (hw _ (List.mem_of_getElem? (i := 30) rfl))) (mvT hZ (hw _ (List.mem_of_getElem? (i := 26) rfl))) (mvT hZ (hw _ (List.mem_of_getElem? (i := 31) rfl))) (by decide) (backOf (W := 0) (rm_7t1 l Z a0 hw [] p0 b2 g_ own_zI h2 n0 Z2 arr_p0_2 A2 ge_b2 ne_p0_b2 hc0_) hZ (hw _ (List.mem_of_getElem? (i := 31) rfl)) (hw _ (List.mem_of_getElem? (i := 26) rfl)) (by decide) (by decide)) (g := (mkF m 9 #[.val (.ref p0), .val (.int (0 : Int32)), .val (.int (1 : Int32)), .val (.ref b2), .unset, .unset] [(.int (1 : Int32)), (.int (0 : Int32)), (.ref b2), (.int (0 : Int32)), (.ref p0)])) rfl (by rw [hml]; rfl) (argsL := [(.ref p0), (.int (0 : Int32)), (.ref b2), (.int (0 : Int32)), (.int (1 : Int32))]) (rest := []) (lenOf pd_0 rfl) rfl (by show 2 * 0 + _ ≤ _; exact Nat.le_of_eq rfl) (hb hby d6_9) (fun _ _ => ⟨rfl, e2, (by decide : 1 + 0 ≤ _), (by decide : 1 + 0 ≤ _)⟩)
  dsimp only [Pt.U, Pt.locs, Pt.cells, Pt.slots] at X3 l3 y3 z3 st3 hQ3
  rw [l3, y3, z3] at X3
  obtain ⟨rfl, N3q, Kc3, Q3_0⟩ := hQ3
  have Kd3 : Keep h2 T3.heap [b2] := Kc3
  have arr_p0_3 := arr_p0_2.keep Kd3 (ninS ne_p0_b2 nin0)
  have K3 := K2.trans Kd3 (allS (Or.inr sz_b2) all0)
  have Z3 := Nat.le_trans Z2 Kd3.1
  have N3 := Fr.app N0 N3q
  obtain ⟨v4_12, hv4_12⟩ : ∃ z : Int32, z = (f_7t1 g_ own_zI) := ⟨_, rfl⟩
  obtain ⟨fs, hr, hrun, hended, hW, hsame⟩ := X3.leave (v := some (.ref b2)) (fun h => by rw [Bd.returns] at h; cases h) (BodyLoose.notSynchronized Bd)
  refine ⟨_, _, pre4 _ ?_, hrun, hended, _, _, rfl, ?_, ⟨_, rfl⟩, hW, hsame.mono (by decide) (by decide)⟩
  · show Steps p.tables e below (T2.setTop (mkF m 9 #[.val (.ref p0), .val (.int (0 : Int32)), .val (.int (1 : Int32)), .val (.ref b2), .unset, .unset] [(.int (1 : Int32)), (.int (0 : Int32)), (.ref b2), (.int (0 : Int32)), (.ref p0)])) _
    refine st3 _ ?_
    show Steps p.tables e below (T3.setTop (mkF m 12 #[.val (.ref p0), .val (.int (0 : Int32)), .val (.int (1 : Int32)), .val (.ref b2), .unset, .unset] [(.int (f_7t1 g_ own_zI))])) _
    refine XS.istore X3.here hx rfl (hb hby d6_12) rfl (l' := #[.val (.ref p0), .val (.int (0 : Int32)), .val (.int (1 : Int32)), .val (.ref b2), .val (.int v4_12), .unset]) (by rw [hv4_12]; rfl) ?_
    show Steps p.tables e below (T3.setTop (mkF m 14 #[.val (.ref p0), .val (.int (0 : Int32)), .val (.int (1 : Int32)), .val (.ref b2), .val (.int v4_12), .unset] [])) _
    refine XS.iload X3.here hx rfl (hb hby d6_14) rfl  ?_
    show Steps p.tables e below (T3.setTop (mkF m 16 #[.val (.ref p0), .val (.int (0 : Int32)), .val (.int (1 : Int32)), .val (.ref b2), .val (.int v4_12), .unset] [(.int v4_12)])) _
    refine XS.iloadN X3.here hx rfl (hb hby d6_16) rfl  ?_
    show Steps p.tables e below (T3.setTop (mkF m 17 #[.val (.ref p0), .val (.int (0 : Int32)), .val (.int (1 : Int32)), .val (.ref b2), .val (.int v4_12), .unset] [(.int (1 : Int32)), (.int v4_12)])) _
    refine XS.icmpYes X3.here hx rfl (pc0 := 17) (pc' := 57) rfl (hb hby d6_17) rfl (teq ((by rw [hv4_12]; rfl) : v4_12 = (1 : Int32))).1 (by decide) (by decide) ?_
    show Steps p.tables e below (T3.setTop (mkF m 57 #[.val (.ref p0), .val (.int (0 : Int32)), .val (.int (1 : Int32)), .val (.ref b2), .val (.int v4_12), .unset] [])) _
    refine XS.aloadN X3.here hx rfl (hb hby d6_57) rfl rfl ?_
    show Steps p.tables e below (T3.setTop (mkF m 58 #[.val (.ref p0), .val (.int (0 : Int32)), .val (.int (1 : Int32)), .val (.ref b2), .val (.int v4_12), .unset] [(.ref b2)])) _
    exact retOut X3 hx Bd.returns rfl (Or.inr (Or.inr (Or.inr (Or.inr ⟨rfl, rfl, rfl⟩)))) (hb hby d6_58) hr
  · show Q_6t1 Z p0 g_ h0 n0 _ T3.heap _
    have o1 := (by subst hv4_12; rfl : (f_7t1_1 g_ own_zI) = f_6t1_1 g_)
    have r1 := Q3_0
    rw [o1] at r1
    exact ⟨b2, rfl, N3, sz_b2, K3, r1⟩
theorem pd_1 : parseMethodDescriptor "([CII)[B" = some ⟨[(.array .char), .int, .int], some (.array .byte)⟩ := by decide +kernel
theorem pd_2 : parseMethodDescriptor "([BI)B" = some ⟨[(.array .byte), .int], some .byte⟩ := by decide +kernel
theorem d4_0 : decode jdk_42_method_149_code 0 = .ok (.aload_n 0, 1) := by decide +kernel
theorem d4_1 : decode jdk_42_method_149_code 1 = .ok (.invokespecial 1, 3) := by decide +kernel
theorem d4_4 : decode jdk_42_method_149_code 4 = .ok (.iload_n 3, 1) := by decide +kernel
theorem d4_5 : decode jdk_42_method_149_code 5 = .ok (.ifCond .ne 22, 3) := by decide +kernel
theorem d4_27 : decode jdk_42_method_149_code 27 = .ok (.getstatic 38, 3) := by decide +kernel
theorem d4_30 : decode jdk_42_method_149_code 30 = .ok (.ifCond .eq 28, 3) := by decide +kernel
theorem d4_33 : decode jdk_42_method_149_code 33 = .ok (.aload_n 1, 1) := by decide +kernel
theorem d4_34 : decode jdk_42_method_149_code 34 = .ok (.iload_n 2, 1) := by decide +kernel
theorem d4_35 : decode jdk_42_method_149_code 35 = .ok (.iload_n 3, 1) := by decide +kernel
theorem d4_36 : decode jdk_42_method_149_code 36 = .ok (.invokestatic 177, 3) := by decide +kernel
theorem d4_39 : decode jdk_42_method_149_code 39 = .ok (.astore 5, 2) := by decide +kernel
theorem d4_41 : decode jdk_42_method_149_code 41 = .ok (.aload_n 0, 1) := by decide +kernel
theorem d4_42 : decode jdk_42_method_149_code 42 = .ok (.aload 5, 2) := by decide +kernel
theorem d4_44 : decode jdk_42_method_149_code 44 = .ok (.iload_n 3, 1) := by decide +kernel
theorem d4_45 : decode jdk_42_method_149_code 45 = .ok (.invokestatic 47, 3) := by decide +kernel
theorem d4_48 : decode jdk_42_method_149_code 48 = .ok (.putfield 15, 3) := by decide +kernel
theorem d4_51 : decode jdk_42_method_149_code 51 = .ok (.aload_n 0, 1) := by decide +kernel
theorem d4_52 : decode jdk_42_method_149_code 52 = .ok (.aload 5, 2) := by decide +kernel
theorem d4_54 : decode jdk_42_method_149_code 54 = .ok (.putfield 9, 3) := by decide +kernel
theorem d4_57 : decode jdk_42_method_149_code 57 = .ok (.return_, 1) := by decide +kernel
theorem pn_4 : plainName "java/lang/String" = true := by first | (simp [plainName, overriddenIn]; done) | decide +kernel
theorem ef_4t1 (m : MethodId) (p0 : Addr) (p1 : Addr) : entryFrame m #[(.ref p0), (.ref p1), (.int (0 : Int32)), (.int (1 : Int32)), .null] 6 = mkF m 0 #[.val (.ref p0), .val (.ref p1), .val (.int (0 : Int32)), .val (.int (1 : Int32)), .val .null, .unset] [] := by first | (simp [entryFrame, mkF, argsToLocals, Value.category]; done) | rfl
def f_4t1_1 (g_ : Nat → Int32) (cs_ : Int32) : Int32 := (nar .byte (f_8t1 (f_6t1_1 g_)))
def f_4t1_2 (g_ : Nat → Int32) (cs_ : Int32) : Nat → Int32 := (f_6t1_1 g_)
def Q_4t1 (Z : State) (p0 : Addr) (p1 : Addr) (g_ : Nat → Int32) (cs_ : Int32) (h0 : Heap) (n0 : Nat) (v : Option Value) (h : Heap) (L : List Loc) : Prop := ∃ w : Addr, v = none ∧ Fr n0 L ∧ h0.size ≤ w ∧ Keep h0 h [p0] ∧ Exa Z h p0 "java/lang/String" ∧ Fld Z h p0 "java/lang/String" "value" "[B" (.ref w) ∧ Fld Z h p0 "java/lang/String" "coder" "B" (.int (f_4t1_1 g_ cs_)) ∧ own_A Z h w .byte 1 (fun i => .int ((f_4t1_2 g_ cs_) i))
set_option maxRecDepth 65536 in
set_option maxHeartbeats 40000000 in
theorem rm_4t1 (l : Launch) (Z : State) (a0 : Array Value) (hw : ∀ d ∈ tables_1, d.before a0 Z = true) (ws : List Jvm.Cond) (p0 : Addr) (p1 : Addr) (g_ : Nat → Int32) (cs_ : Int32) (h0 : Heap) (n0 : Nat) (Z0 : n0 ≤ h0.size) (E_p0 : Exa Z h0 p0 "java/lang/String") (F_p0_value : Fld Z h0 p0 "java/lang/String" "value" "[B" .null) (F_p0_coder : Fld Z h0 p0 "java/lang/String" "coder" "B" (.int (0 : Int32))) (ge_p0 : n0 ≤ p0) (A_p1 : own_A Z h0 p1 .char 1 (fun i => .int (g_ i))) (ne_p0_p1 : p0 ≠ p1) (S_COMPACT_STRINGS : Sta Z h0 "java/lang/String" "COMPACT_STRINGS" "Z" (.int cs_)) (hcs : ¬ (cs_ = (0 : Int32))) (hc0_ : ¬ ((255 : Int32) < (g_ 0))) :
    MetFree l (⟨"java/lang/String", "<init>", "([CIILjava/lang/Void;)V"⟩ : MethodName) (head1 (Jvm.Cond.code (⟨"java/lang/String", "<init>", "([CIILjava/lang/Void;)V"⟩ : MethodName) jdk_42_method_149_code 6 none :: ws) ({ frames := 2, cells := 1, slots := 1, locals := 35 } : Room)) (fun a U => a = #[(.ref p0), (.ref p1), (.int (0 : Int32)), (.int (1 : Int32)), .null] ∧ Z.Warmed39 U.vm ∧ U.heap = h0) (fun _ _ _ _ _ => True) (fun _ U o U' => ∃ v L, o = .returned v ∧ Q_4t1 Z p0 p1 g_ cs_ h0 n0 v U'.heap L ∧ FrameEnd U o U' L ({ frames := 2, cells := 1, slots := 1, locals := 35 } : Room).cells ({ frames := 2, cells := 1, slots := 1, locals := 35 } : Room).slots) := by
  refine MetFree.of_bodySF (plainFor_of_name pn_4) hisR ?_
  intro p e s m args below meth c s₁ Bd hml0 hP hK
  obtain ⟨rfl, hZ, hh⟩ := hP
  have hx := Bd.exec
  have hby := Bd.bytes
  have hml : c.maxLocals = 6 := hml0
  have hown : s.vm.findClass "java/lang/String" = some m.cls := findClass_of_methodNamed Bd.named
  have hnm := (name_of_methodNamed Bd.named Bd.method).1
  have X0 : Stand p l e ({ frames := 2, cells := 1, slots := 1, locals := 35 } : Room) s m #[(.ref p0), (.ref p1), (.int (0 : Int32)), (.int (1 : Int32)), .null] below meth c s₁ [] 0 0 := Stand.of_body Bd
  have e0 : s₁.heap = h0 := by rw [← hh, Bd.state]; rfl
  have N0 := Fr.nil n0
  have K0 : Keep h0 h0 [p0] := Keep.refl h0 _
  have pre0 : ∀ t, Steps p.tables e below (s₁.setTop (mkF m 0 #[.val (.ref p0), .val (.ref p1), .val (.int (0 : Int32)), .val (.int (1 : Int32)), .val .null, .unset] [])) t → Steps p.tables e below (s₁.setTop (entryFrame m #[(.ref p0), (.ref p1), (.int (0 : Int32)), (.int (1 : Int32)), .null] 6)) t := fun t k => castTop (ef_4t1 m p0 p1) k
  have pre1 : ∀ t, Steps p.tables e below (s₁.setTop (mkF m 1 #[.val (.ref p0), .val (.ref p1), .val (.int (0 : Int32)), .val (.int (1 : Int32)), .val .null, .unset] [(.ref p0)])) t → Steps p.tables e below (s₁.setTop (entryFrame m #[(.ref p0), (.ref p1), (.int (0 : Int32)), (.int (1 : Int32)), .null] 6)) t := by
    intro t k
    refine pre0 t ?_
    show Steps p.tables e below (s₁.setTop (mkF m 0 #[.val (.ref p0), .val (.ref p1), .val (.int (0 : Int32)), .val (.int (1 : Int32)), .val .null, .unset] [])) _
    refine XS.aloadN X0.here hx rfl (hb hby d4_0) rfl rfl ?_
    exact k
  obtain ⟨T2, X2, e2, st2⟩ := initO X0 hx hZ hown (hw _ (List.mem_of_getElem? (i := 20) rfl)) (hw _ (List.mem_of_getElem? (i := 21) rfl)) (hw _ (List.mem_of_getElem? (i := 22) rfl)) e0 (g := (mkF m 1 #[.val (.ref p0), .val (.ref p1), .val (.int (0 : Int32)), .val (.int (1 : Int32)), .val .null, .unset] [(.ref p0)])) rfl (by rw [hml]; rfl) rfl (hb hby d4_1) (by decide) (W := 0) (by show 2 * 0 + _ ≤ _; exact Nat.le_of_eq rfl) (by decide)
  have pre3 : ∀ t, Steps p.tables e below (T2.setTop (mkF m 27 #[.val (.ref p0), .val (.ref p1), .val (.int (0 : Int32)), .val (.int (1 : Int32)), .val .null, .unset] [])) t → Steps p.tables e below (s₁.setTop (entryFrame m #[(.ref p0), (.ref p1), (.int (0 : Int32)), (.int (1 : Int32)), .null] 6)) t := by
    intro t k
    refine pre1 t ?_
    show Steps p.tables e below (s₁.setTop (mkF m 1 #[.val (.ref p0), .val (.ref p1), .val (.int (0 : Int32)), .val (.int (1 : Int32)), .val .null, .unset] [(.ref p0)])) _
    refine st2 _ ?_
    show Steps p.tables e below (T2.setTop (mkF m 4 #[.val (.ref p0), .val (.ref p1), .val (.int (0 : Int32)), .val (.int (1 : Int32)), .val .null, .unset] [])) _
    refine XS.iloadN X2.here hx rfl (hb hby d4_4) rfl  ?_
    show Steps p.tables e below (T2.setTop (mkF m 5 #[.val (.ref p0), .val (.ref p1), .val (.int (0 : Int32)), .val (.int (1 : Int32)), .val .null, .unset] [(.int (1 : Int32))])) _
    refine XS.ifYes X2.here hx rfl (pc0 := 5) (pc' := 27) rfl (hb hby d4_5) rfl ((if0 _ _).trans (feq (by decide : ¬ ((1 : Int32) = (0 : Int32)))).2) (by decide) (by decide) ?_
    exact k
  obtain ⟨T4, X4, e4, st4⟩ := getS2 X2 hx hZ hown (host := "") (Or.inl (hw _ (List.mem_of_getElem? (i := 23) rfl))) Via.refl e2 S_COMPACT_STRINGS (g := (mkF m 27 #[.val (.ref p0), .val (.ref p1), .val (.int (0 : Int32)), .val (.int (1 : Int32)), .val .null, .unset] [])) rfl (hb hby d4_27)
  have pre6 : ∀ t, Steps p.tables e below (T4.setTop (mkF m 36 #[.val (.ref p0), .val (.ref p1), .val (.int (0 : Int32)), .val (.int (1 : Int32)), .val .null, .unset] [(.int (1 : Int32)), (.int (0 : Int32)), (.ref p1)])) t → Steps p.tables e below (s₁.setTop (entryFrame m #[(.ref p0), (.ref p1), (.int (0 : Int32)), (.int (1 : Int32)), .null] 6)) t := by
    intro t k
    refine pre3 t ?_
    show Steps p.tables e below (T2.setTop (mkF m 27 #[.val (.ref p0), .val (.ref p1), .val (.int (0 : Int32)), .val (.int (1 : Int32)), .val .null, .unset] [])) _
    refine st4 _ ?_
    show Steps p.tables e below (T4.setTop (mkF m 30 #[.val (.ref p0), .val (.ref p1), .val (.int (0 : Int32)), .val (.int (1 : Int32)), .val .null, .unset] [(.int cs_)])) _
    refine XS.ifNo X4.here hx rfl (hb hby d4_30) rfl ((if0 _ _).trans (feq (hcs : ¬ (cs_ = (0 : Int32)))).1) ?_
    show Steps p.tables e below (T4.setTop (mkF m 33 #[.val (.ref p0), .val (.ref p1), .val (.int (0 : Int32)), .val (.int (1 : Int32)), .val .null, .unset] [])) _
    refine XS.aloadN X4.here hx rfl (hb hby d4_33) rfl rfl ?_
    show Steps p.tables e below (T4.setTop (mkF m 34 #[.val (.ref p0), .val (.ref p1), .val (.int (0 : Int32)), .val (.int (1 : Int32)), .val .null, .unset] [(.ref p1)])) _
    refine XS.iloadN X4.here hx rfl (hb hby d4_34) rfl  ?_
    show Steps p.tables e below (T4.setTop (mkF m 35 #[.val (.ref p0), .val (.ref p1), .val (.int (0 : Int32)), .val (.int (1 : Int32)), .val .null, .unset] [(.int (0 : Int32)), (.ref p1)])) _
    refine XS.iloadN X4.here hx rfl (hb hby d4_35) rfl  ?_
    exact k
  obtain ⟨_, _, ⟨T5, L5, k5, n5⟩, -, X5, ⟨Lc5, hQ5, l5, y5, z5⟩, st5⟩ := Jvm.LawKit.callS X4 hx (y := (⟨"java/lang/StringUTF16", "compress", "([CII)[B"⟩ : MethodName)) hown (mvT hZ (hw _ (List.mem_of_getElem? (i := 24) rfl))) (mvT hZ (hw _ (List.mem_of_getElem? (i := 25) rfl))) (mvT hZ (hw _ (List.mem_of_getElem? (i := 26) rfl))) (mvT hZ (hw _ (List.mem_of_getElem? (i := 27) rfl))) (by decide) (backOf (W := 0) (rm_6t1 l Z a0 hw [] p1 g_ h0 n0 Z0 A_p1 hc0_) hZ (hw _ (List.mem_of_getElem? (i := 27) rfl)) (hw _ (List.mem_of_getElem? (i := 26) rfl)) (by decide) (by decide)) (g := (mkF m 36 #[.val (.ref p0), .val (.ref p1), .val (.int (0 : Int32)), .val (.int (1 : Int32)), .val .null, .unset] [(.int (1 : Int32)), (.int (0 : Int32)), (.ref p1)])) rfl (by rw [hml]; rfl) (argsL := [(.ref p1), (.int (0 : Int32)), (.int (1 : Int32))]) (rest := []) (lenOf pd_1 rfl) rfl (by show 2 * 0 + _ ≤ _; exact Nat.le_of_eq rfl) (hb hby d4_36) (fun _ _ => ⟨rfl, e4, (by decide : 0 + 1 ≤ _), (by decide : 0 + 1 ≤ _)⟩)
  dsimp only [Pt.U, Pt.locs, Pt.cells, Pt.slots] at X5 l5 y5 z5 st5 hQ5
  rw [l5, y5, z5] at X5
  obtain ⟨r_5, rfl, N5q, sz0_r_5, Kc5, Q5_0⟩ := hQ5
  have Kd5 : Keep h0 T5.heap [] := Kc5
  have ne_p0_r_5 : p0 ≠ r_5 := Nat.ne_of_lt (Nat.lt_of_lt_of_le E_p0.lt sz0_r_5)
  have ne_p1_r_5 : p1 ≠ r_5 := Nat.ne_of_lt (Nat.lt_of_lt_of_le A_p1.lt sz0_r_5)
  have sz_r_5 : h0.size ≤ r_5 := Nat.le_trans K0.1 sz0_r_5
  have ge_r_5 : n0 ≤ r_5 := Nat.le_trans Z0 sz0_r_5
  have sta_java_lang_String_COMPACT_STRINGS_5 := own_sta_keep S_COMPACT_STRINGS Kd5 all0
  have exa_p0_5 := E_p0.keep Kd5
  have fld_p0_value_5 := F_p0_value.keep Kd5 nin0
  have fld_p0_coder_5 := F_p0_coder.keep Kd5 nin0
  have arr_p1_5 := A_p1.keep Kd5 nin0
  have K5 := K0.trans Kd5 all0
  have Z5 := Nat.le_trans Z0 Kd5.1
  have N5 := Fr.app N0 N5q
  have pre8 : ∀ t, Steps p.tables e below (T5.setTop (mkF m 45 #[.val (.ref p0), .val (.ref p1), .val (.int (0 : Int32)), .val (.int (1 : Int32)), .val .null, .val (.ref r_5)] [(.int (1 : Int32)), (.ref r_5), (.ref p0)])) t → Steps p.tables e below (s₁.setTop (entryFrame m #[(.ref p0), (.ref p1), (.int (0 : Int32)), (.int (1 : Int32)), .null] 6)) t := by
    intro t k
    refine pre6 t ?_
    show Steps p.tables e below (T4.setTop (mkF m 36 #[.val (.ref p0), .val (.ref p1), .val (.int (0 : Int32)), .val (.int (1 : Int32)), .val .null, .unset] [(.int (1 : Int32)), (.int (0 : Int32)), (.ref p1)])) _
    refine st5 _ ?_
    show Steps p.tables e below (T5.setTop (mkF m 39 #[.val (.ref p0), .val (.ref p1), .val (.int (0 : Int32)), .val (.int (1 : Int32)), .val .null, .unset] [(.ref r_5)])) _
    refine XS.astore X5.here hx rfl (hb hby d4_39) rfl rfl (l' := #[.val (.ref p0), .val (.ref p1), .val (.int (0 : Int32)), .val (.int (1 : Int32)), .val .null, .val (.ref r_5)]) rfl ?_
    show Steps p.tables e below (T5.setTop (mkF m 41 #[.val (.ref p0), .val (.ref p1), .val (.int (0 : Int32)), .val (.int (1 : Int32)), .val .null, .val (.ref r_5)] [])) _
    refine XS.aloadN X5.here hx rfl (hb hby d4_41) rfl rfl ?_
    show Steps p.tables e below (T5.setTop (mkF m 42 #[.val (.ref p0), .val (.ref p1), .val (.int (0 : Int32)), .val (.int (1 : Int32)), .val .null, .val (.ref r_5)] [(.ref p0)])) _
    refine XS.aload X5.here hx rfl (hb hby d4_42) rfl rfl ?_
    show Steps p.tables e below (T5.setTop (mkF m 44 #[.val (.ref p0), .val (.ref p1), .val (.int (0 : Int32)), .val (.int (1 : Int32)), .val .null, .val (.ref r_5)] [(.ref r_5), (.ref p0)])) _
    refine XS.iloadN X5.here hx rfl (hb hby d4_44) rfl  ?_
    exact k
  obtain ⟨_, _, ⟨T7, L7, k7, n7⟩, -, X7, ⟨Lc7, hQ7, l7, y7, z7⟩, st7⟩ := Jvm.LawKit.callS X5 hx (y := (⟨"java/lang/StringUTF16", "coderFromArrayLen", "([BI)B"⟩ : MethodName)) hown (mvT hZ (hw _ (List.mem_of_getElem? (i := 32) rfl))) (mvT hZ (hw _ (List.mem_of_getElem? (i := 33) rfl))) (mvT hZ (hw _ (List.mem_of_getElem? (i := 26) rfl))) (mvT hZ (hw _ (List.mem_of_getElem? (i := 34) rfl))) (by decide) (backOf (W := 1) (rm_8t1 l Z a0 hw [] r_5 (f_6t1_1 g_) T5.heap n0 Z5 Q5_0) hZ (hw _ (List.mem_of_getElem? (i := 34) rfl)) (hw _ (List.mem_of_getElem? (i := 26) rfl)) (by decide) (by decide)) (g := (mkF m 45 #[.val (.ref p0), .val (.ref p1), .val (.int (0 : Int32)), .val (.int (1 : Int32)), .val .null, .val (.ref r_5)] [(.int (1 : Int32)), (.ref r_5), (.ref p0)])) rfl (by rw [hml]; rfl) (argsL := [(.ref r_5), (.int (1 : Int32))]) (rest := [(.ref p0)]) (lenOf pd_2 rfl) rfl (by show 2 * 0 + _ ≤ _; exact Nat.le_of_eq rfl) (hb hby d4_45) (fun _ _ => ⟨rfl, rfl, (by decide : 1 + 0 ≤ _), (by decide : 1 + 0 ≤ _)⟩)
  dsimp only [Pt.U, Pt.locs, Pt.cells, Pt.slots] at X7 l7 y7 z7 st7 hQ7
  rw [l7, y7, z7] at X7
  obtain ⟨rfl, N7q, e7⟩ := hQ7
  have N7 := Fr.app N5 N7q
  have pre9 : ∀ t, Steps p.tables e below (T7.setTop (mkF m 48 #[.val (.ref p0), .val (.ref p1), .val (.int (0 : Int32)), .val (.int (1 : Int32)), .val .null, .val (.ref r_5)] [(.int (f_8t1 (f_6t1_1 g_))), (.ref p0)])) t → Steps p.tables e below (s₁.setTop (entryFrame m #[(.ref p0), (.ref p1), (.int (0 : Int32)), (.int (1 : Int32)), .null] 6)) t := by
    intro t k
    refine pre8 t ?_
    show Steps p.tables e below (T5.setTop (mkF m 45 #[.val (.ref p0), .val (.ref p1), .val (.int (0 : Int32)), .val (.int (1 : Int32)), .val .null, .val (.ref r_5)] [(.int (1 : Int32)), (.ref r_5), (.ref p0)])) _
    refine st7 _ ?_
    exact k
  obtain ⟨T10, h10, X10, e10, W10, st10⟩ := putFN X7 hx hZ hown (hw _ (List.mem_of_getElem? (i := 35) rfl)) Via.refl e7 fld_p0_coder_5 exa_p0_5 (Or.inr ⟨(hw _ (List.mem_of_getElem? (i := 36) rfl)), rfl, hnm⟩) (hw _ (List.mem_of_getElem? (i := 11) rfl)) (ty := .byte) (v' := .int (nar .byte (f_8t1 (f_6t1_1 g_)))) (by decide) rfl (fits_nar_byte _) (g := (mkF m 48 #[.val (.ref p0), .val (.ref p1), .val (.int (0 : Int32)), .val (.int (1 : Int32)), .val .null, .val (.ref r_5)] [(.int (f_8t1 (f_6t1_1 g_))), (.ref p0)])) rfl rfl (hb hby d4_48)
  have Fw10 := fld_p0_coder_5.same W10
  have sta_java_lang_String_COMPACT_STRINGS_10 := sta_java_lang_String_COMPACT_STRINGS_5.wr W10
  have exa_p0_10 := exa_p0_5.wr W10
  have fld_p0_value_10 := fld_p0_value_5.other W10 (Or.inr (slot_ne (Or.inr (hw _ (List.mem_of_getElem? (i := 38) rfl))) (Or.inr (hw _ (List.mem_of_getElem? (i := 36) rfl))) (by decide) (t := (.array .byte)) (t' := .byte) (by decide) (by decide)))
  have arr_p1_10 := arr_p1_5.other W10 ne_p0_p1.symm
  have arr_r_5_10 := Q5_0.other W10 ne_p0_r_5.symm
  have K10 := K5.wr W10 (Or.inl (List.mem_of_getElem? (i := 0) rfl))
  have Z10 := Nat.le_trans Z5 (Nat.le_of_eq W10.size.symm)
  have N10 := Fr.snoc X10 N7 ge_p0
  have pre11 : ∀ t, Steps p.tables e below (T10.setTop (mkF m 54 #[.val (.ref p0), .val (.ref p1), .val (.int (0 : Int32)), .val (.int (1 : Int32)), .val .null, .val (.ref r_5)] [(.ref r_5), (.ref p0)])) t → Steps p.tables e below (s₁.setTop (entryFrame m #[(.ref p0), (.ref p1), (.int (0 : Int32)), (.int (1 : Int32)), .null] 6)) t := by
    intro t k
    refine pre9 t ?_
    show Steps p.tables e below (T7.setTop (mkF m 48 #[.val (.ref p0), .val (.ref p1), .val (.int (0 : Int32)), .val (.int (1 : Int32)), .val .null, .val (.ref r_5)] [(.int (f_8t1 (f_6t1_1 g_))), (.ref p0)])) _
    refine st10 _ ?_
    show Steps p.tables e below (T10.setTop (mkF m 51 #[.val (.ref p0), .val (.ref p1), .val (.int (0 : Int32)), .val (.int (1 : Int32)), .val .null, .val (.ref r_5)] [])) _
    refine XS.aloadN X10.here hx rfl (hb hby d4_51) rfl rfl ?_
    show Steps p.tables e below (T10.setTop (mkF m 52 #[.val (.ref p0), .val (.ref p1), .val (.int (0 : Int32)), .val (.int (1 : Int32)), .val .null, .val (.ref r_5)] [(.ref p0)])) _
    refine XS.aload X10.here hx rfl (hb hby d4_52) rfl rfl ?_
    exact k
  obtain ⟨T12, h12, X12, e12, W12, st12⟩ := putF X10 hx hZ hown (host := "") (Or.inl (hw _ (List.mem_of_getElem? (i := 37) rfl))) Via.refl e10 fld_p0_value_10 exa_p0_10 (Or.inr ⟨(hw _ (List.mem_of_getElem? (i := 38) rfl)), rfl, hnm⟩) (hw _ (List.mem_of_getElem? (i := 11) rfl)) (ty := (.array .byte)) (by decide) rfl rfl (g := (mkF m 54 #[.val (.ref p0), .val (.ref p1), .val (.int (0 : Int32)), .val (.int (1 : Int32)), .val .null, .val (.ref r_5)] [(.ref r_5), (.ref p0)])) rfl rfl (hb hby d4_54)
  have Fw12 := fld_p0_value_10.same W12
  have sta_java_lang_String_COMPACT_STRINGS_12 := sta_java_lang_String_COMPACT_STRINGS_10.wr W12
  have exa_p0_12 := exa_p0_10.wr W12
  have fld_p0_coder_12 := Fw10.other W12 (Or.inr (slot_ne (Or.inr (hw _ (List.mem_of_getElem? (i := 36) rfl))) (Or.inr (hw _ (List.mem_of_getElem? (i := 38) rfl))) (by decide) (t := .byte) (t' := (.array .byte)) (by decide) (by decide)))
  have arr_p1_12 := arr_p1_10.other W12 ne_p0_p1.symm
  have arr_r_5_12 := arr_r_5_10.other W12 ne_p0_r_5.symm
  have K12 := K10.wr W12 (Or.inl (List.mem_of_getElem? (i := 0) rfl))
  have Z12 := Nat.le_trans Z10 (Nat.le_of_eq W12.size.symm)
  have N12 := Fr.snoc X12 N10 ge_p0
  obtain ⟨fs, hr, hrun, hended, hW, hsame⟩ := X12.leave (v := none) (fun _ => rfl) (BodyLoose.notSynchronized Bd)
  refine ⟨_, _, pre11 _ ?_, hrun, hended, _, _, rfl, ?_, ⟨_, rfl⟩, hW, hsame.mono (by decide) (by decide)⟩
  · show Steps p.tables e below (T10.setTop (mkF m 54 #[.val (.ref p0), .val (.ref p1), .val (.int (0 : Int32)), .val (.int (1 : Int32)), .val .null, .val (.ref r_5)] [(.ref r_5), (.ref p0)])) _
    refine st12 _ ?_
    show Steps p.tables e below (T12.setTop (mkF m 57 #[.val (.ref p0), .val (.ref p1), .val (.int (0 : Int32)), .val (.int (1 : Int32)), .val .null, .val (.ref r_5)] [])) _
    exact X12.returnOut hx Bd.returns (hb hby d4_57) hr
  · show Q_4t1 Z p0 p1 g_ cs_ h0 n0 _ T12.heap _
    rw [e12]
    have o1 := (by rfl : (nar .byte (f_8t1 (f_6t1_1 g_))) = f_4t1_1 g_ cs_)
    have r1 := fld_p0_coder_12
    rw [o1] at r1
    have o2 := (by rfl : (f_6t1_1 g_) = f_4t1_2 g_ cs_)
    have r2 := arr_r_5_12
    rw [o2] at r2
    exact ⟨r_5, rfl, N12, sz_r_5, K12, exa_p0_12, Fw12, r1, r2⟩
theorem pd_3 : parseMethodDescriptor "([CIILjava/lang/Void;)V" = some ⟨[(.array .char), .int, .int, (.object "java/lang/Void")], none⟩ := by decide +kernel
theorem d3_0 : decode jdk_42_method_3_code 0 = .ok (.aload_n 0, 1) := by decide +kernel
theorem d3_1 : decode jdk_42_method_3_code 1 = .ok (.aload_n 1, 1) := by decide +kernel
theorem d3_2 : decode jdk_42_method_3_code 2 = .ok (.iconst 0, 1) := by decide +kernel
theorem d3_3 : decode jdk_42_method_3_code 3 = .ok (.aload_n 1, 1) := by decide +kernel
theorem d3_4 : decode jdk_42_method_3_code 4 = .ok (.arraylength, 1) := by decide +kernel
theorem d3_5 : decode jdk_42_method_3_code 5 = .ok (.aconst_null, 1) := by decide +kernel
theorem d3_6 : decode jdk_42_method_3_code 6 = .ok (.invokespecial 27, 3) := by decide +kernel
theorem d3_9 : decode jdk_42_method_3_code 9 = .ok (.return_, 1) := by decide +kernel
theorem pn_3 : plainName "java/lang/String" = true := by first | (simp [plainName, overriddenIn]; done) | decide +kernel
theorem ef_3t1 (m : MethodId) (p0 : Addr) (p1 : Addr) : entryFrame m #[(.ref p0), (.ref p1)] 2 = mkF m 0 #[.val (.ref p0), .val (.ref p1)] [] := by first | (simp [entryFrame, mkF, argsToLocals, Value.category]; done) | rfl
def f_3t1_1 (g_ : Nat → Int32) (cs_ : Int32) : Int32 := (f_4t1_1 g_ cs_)
def f_3t1_2 (g_ : Nat → Int32) (cs_ : Int32) : Nat → Int32 := (f_4t1_2 g_ cs_)
def Q_3t1 (Z : State) (p0 : Addr) (p1 : Addr) (g_ : Nat → Int32) (cs_ : Int32) (h0 : Heap) (n0 : Nat) (v : Option Value) (h : Heap) (L : List Loc) : Prop := ∃ w : Addr, v = none ∧ Fr n0 L ∧ h0.size ≤ w ∧ Keep h0 h [p0] ∧ Exa Z h p0 "java/lang/String" ∧ Fld Z h p0 "java/lang/String" "value" "[B" (.ref w) ∧ Fld Z h p0 "java/lang/String" "coder" "B" (.int (f_3t1_1 g_ cs_)) ∧ own_A Z h w .byte 1 (fun i => .int ((f_3t1_2 g_ cs_) i))
set_option maxRecDepth 65536 in
set_option maxHeartbeats 40000000 in
theorem rm_3t1 (l : Launch) (Z : State) (a0 : Array Value) (hw : ∀ d ∈ tables_1, d.before a0 Z = true) (ws : List Jvm.Cond) (p0 : Addr) (p1 : Addr) (g_ : Nat → Int32) (cs_ : Int32) (h0 : Heap) (n0 : Nat) (Z0 : n0 ≤ h0.size) (E_p0 : Exa Z h0 p0 "java/lang/String") (F_p0_value : Fld Z h0 p0 "java/lang/String" "value" "[B" .null) (F_p0_coder : Fld Z h0 p0 "java/lang/String" "coder" "B" (.int (0 : Int32))) (ge_p0 : n0 ≤ p0) (A_p1 : own_A Z h0 p1 .char 1 (fun i => .int (g_ i))) (ne_p0_p1 : p0 ≠ p1) (S_COMPACT_STRINGS : Sta Z h0 "java/lang/String" "COMPACT_STRINGS" "Z" (.int cs_)) (hcs : ¬ (cs_ = (0 : Int32))) (hc0_ : ¬ ((255 : Int32) < (g_ 0))) :
    MetFree l (⟨"java/lang/String", "<init>", "([C)V"⟩ : MethodName) (head1 (Jvm.Cond.code (⟨"java/lang/String", "<init>", "([C)V"⟩ : MethodName) jdk_42_method_3_code 2 none :: ws) ({ frames := 3, cells := 1, slots := 1, locals := 52 } : Room)) (fun a U => a = #[(.ref p0), (.ref p1)] ∧ Z.Warmed39 U.vm ∧ U.heap = h0) (fun _ _ _ _ _ => True) (fun _ U o U' => ∃ v L, o = .returned v ∧ Q_3t1 Z p0 p1 g_ cs_ h0 n0 v U'.heap L ∧ FrameEnd U o U' L ({ frames := 3, cells := 1, slots := 1, locals := 52 } : Room).cells ({ frames := 3, cells := 1, slots := 1, locals := 52 } : Room).slots) := by
  refine MetFree.of_bodySF (plainFor_of_name pn_3) hisR ?_
  intro p e s m args below meth c s₁ Bd hml0 hP hK
  obtain ⟨rfl, hZ, hh⟩ := hP
  have hx := Bd.exec
  have hby := Bd.bytes
  have hml : c.maxLocals = 2 := hml0
  have hown : s.vm.findClass "java/lang/String" = some m.cls := findClass_of_methodNamed Bd.named
  have hnm := (name_of_methodNamed Bd.named Bd.method).1
  have X0 : Stand p l e ({ frames := 3, cells := 1, slots := 1, locals := 52 } : Room) s m #[(.ref p0), (.ref p1)] below meth c s₁ [] 0 0 := Stand.of_body Bd
  have e0 : s₁.heap = h0 := by rw [← hh, Bd.state]; rfl
  have N0 := Fr.nil n0
  have K0 : Keep h0 h0 [p0] := Keep.refl h0 _
  have pre0 : ∀ t, Steps p.tables e below (s₁.setTop (mkF m 0 #[.val (.ref p0), .val (.ref p1)] [])) t → Steps p.tables e below (s₁.setTop (entryFrame m #[(.ref p0), (.ref p1)] 2)) t := fun t k => castTop (ef_3t1 m p0 p1) k
  have pre2 : ∀ t, Steps p.tables e below (s₁.setTop (mkF m 6 #[.val (.ref p0), .val (.ref p1)] [.null, (.int (1 : Int32)), (.int (0 : Int32)), (.ref p1), (.ref p0)])) t → Steps p.tables e below (s₁.setTop (entryFrame m #[(.ref p0), (.ref p1)] 2)) t := by
    intro t k
    refine pre0 t ?_
    show Steps p.tables e below (s₁.setTop (mkF m 0 #[.val (.ref p0), .val (.ref p1)] [])) _
    refine XS.aloadN X0.here hx rfl (hb hby d3_0) rfl rfl ?_
    show Steps p.tables e below (s₁.setTop (mkF m 1 #[.val (.ref p0), .val (.ref p1)] [(.ref p0)])) _
    refine XS.aloadN X0.here hx rfl (hb hby d3_1) rfl rfl ?_
    show Steps p.tables e below (s₁.setTop (mkF m 2 #[.val (.ref p0), .val (.ref p1)] [(.ref p1), (.ref p0)])) _
    refine XS.iconst X0.here hx rfl (hb hby d3_2) ?_
    show Steps p.tables e below (s₁.setTop (mkF m 3 #[.val (.ref p0), .val (.ref p1)] [(.int (0 : Int32)), (.ref p1), (.ref p0)])) _
    refine XS.aloadN X0.here hx rfl (hb hby d3_3) rfl rfl ?_
    show Steps p.tables e below (s₁.setTop (mkF m 4 #[.val (.ref p0), .val (.ref p1)] [(.ref p1), (.int (0 : Int32)), (.ref p1), (.ref p0)])) _
    refine own_len X0 hx hZ e0 A_p1 (z := (1 : Int32)) rfl (g := (mkF m 4 #[.val (.ref p0), .val (.ref p1)] [(.ref p1), (.int (0 : Int32)), (.ref p1), (.ref p0)])) rfl rfl (hb hby d3_4) ?_
    show Steps p.tables e below (s₁.setTop (mkF m 5 #[.val (.ref p0), .val (.ref p1)] [(.int (1 : Int32)), (.int (0 : Int32)), (.ref p1), (.ref p0)])) _
    refine XS.aconstNull X0.here hx rfl (hb hby d3_5) ?_
    exact k
  obtain ⟨_, _, ⟨T1, L1, k1, n1⟩, -, X1, ⟨Lc1, hQ1, l1, y1, z1⟩, st1⟩ := X0.specialBack hx (y := (⟨"java/lang/String", "<init>", "([CIILjava/lang/Void;)V"⟩ : MethodName)) rfl hown (mvT hZ (hw _ (List.mem_of_getElem? (i := 16) rfl))) (mvT hZ (hw _ (List.mem_of_getElem? (i := 17) rfl))) (mvT hZ (hw _ (List.mem_of_getElem? (i := 19) rfl))) (by decide) (backOf (W := 0) (rm_4t1 l Z a0 hw [] p0 p1 g_ cs_ h0 n0 Z0 E_p0 F_p0_value F_p0_coder ge_p0 A_p1 ne_p0_p1 S_COMPACT_STRINGS hcs hc0_) hZ (hw _ (List.mem_of_getElem? (i := 19) rfl)) (hw _ (List.mem_of_getElem? (i := 12) rfl)) (by decide) (by decide)) (g := (mkF m 6 #[.val (.ref p0), .val (.ref p1)] [.null, (.int (1 : Int32)), (.int (0 : Int32)), (.ref p1), (.ref p0)])) rfl (by rw [hml]; rfl) (Steps.refl _) (a := p0) (argsL := [(.ref p1), (.int (0 : Int32)), (.int (1 : Int32)), .null]) (rest := []) (lenOf pd_3 rfl) rfl (by show 2 * 0 + _ ≤ _; exact Nat.le_of_eq rfl) (hb hby d3_6) (fun _ _ => ⟨rfl, e0, (by decide : 0 + 1 ≤ _), (by decide : 0 + 1 ≤ _)⟩)
  dsimp only [Pt.U, Pt.locs, Pt.cells, Pt.slots] at X1 l1 y1 z1 st1 hQ1
  rw [l1, y1, z1] at X1
  obtain ⟨w_1, rfl, N1q, sz0_w_1, Kc1, Q1_0, Q1_1, Q1_2, Q1_3⟩ := hQ1
  have Kd1 : Keep h0 T1.heap [p0] := Kc1
  have ne_p0_w_1 : p0 ≠ w_1 := Nat.ne_of_lt (Nat.lt_of_lt_of_le E_p0.lt sz0_w_1)
  have ne_p1_w_1 : p1 ≠ w_1 := Nat.ne_of_lt (Nat.lt_of_lt_of_le A_p1.lt sz0_w_1)
  have sz_w_1 : h0.size ≤ w_1 := Nat.le_trans K0.1 sz0_w_1
  have ge_w_1 : n0 ≤ w_1 := Nat.le_trans Z0 sz0_w_1
  have sta_java_lang_String_COMPACT_STRINGS_1 := own_sta_keep S_COMPACT_STRINGS Kd1 (allS (own_E_plain E_p0) all0)
  have exa_p0_1 := E_p0.keep Kd1
  have arr_p1_1 := A_p1.keep Kd1 (ninS ne_p0_p1.symm nin0)
  have K1 := K0.trans Kd1 (allS (Or.inl (List.mem_of_getElem? (i := 0) rfl)) all0)
  have Z1 := Nat.le_trans Z0 Kd1.1
  have N1 := Fr.app N0 N1q
  obtain ⟨fs, hr, hrun, hended, hW, hsame⟩ := X1.leave (v := none) (fun _ => rfl) (BodyLoose.notSynchronized Bd)
  refine ⟨_, _, pre2 _ ?_, hrun, hended, _, _, rfl, ?_, ⟨_, rfl⟩, hW, hsame.mono (by decide) (by decide)⟩
  · show Steps p.tables e below (s₁.setTop (mkF m 6 #[.val (.ref p0), .val (.ref p1)] [.null, (.int (1 : Int32)), (.int (0 : Int32)), (.ref p1), (.ref p0)])) _
    refine st1.trans ?_
    show Steps p.tables e below (T1.setTop (mkF m 9 #[.val (.ref p0), .val (.ref p1)] [])) _
    exact X1.returnOut hx Bd.returns (hb hby d3_9) hr
  · show Q_3t1 Z p0 p1 g_ cs_ h0 n0 _ T1.heap _
    have o1 := (by rfl : (f_4t1_1 g_ cs_) = f_3t1_1 g_ cs_)
    have r1 := Q1_2
    rw [o1] at r1
    have o2 := (by rfl : (f_4t1_2 g_ cs_) = f_3t1_2 g_ cs_)
    have r2 := Q1_3
    rw [o2] at r2
    exact ⟨w_1, rfl, N1, sz_w_1, K1, Q1_0, Q1_1, r1, r2⟩
theorem ef_8t2 (m : MethodId) (p0 : Addr) : entryFrame m #[(.ref p0), (.int (2 : Int32))] 2 = mkF m 0 #[.val (.ref p0), .val (.int (2 : Int32))] [] := by first | (simp [entryFrame, mkF, argsToLocals, Value.category]; done) | rfl
def f_8t2 (d_ : Nat → Int32) : Int32 := (nar .byte (((((2 : Int32) - (2 : Int32)).toUInt32 >>> ((31 : Int32) &&& 31).toUInt32).toInt32).toInt8.toInt32))
def Q_8t2 (Z : State) (p0 : Addr) (d_ : Nat → Int32) (h0 : Heap) (n0 : Nat) (v : Option Value) (h : Heap) (L : List Loc) : Prop := v = some (.int (f_8t2 d_)) ∧ Fr n0 L ∧ h = h0
set_option maxRecDepth 65536 in
set_option maxHeartbeats 40000000 in
theorem rm_8t2 (l : Launch) (Z : State) (a0 : Array Value) (hw : ∀ d ∈ tables_1, d.before a0 Z = true) (ws : List Jvm.Cond) (p0 : Addr) (d_ : Nat → Int32) (h0 : Heap) (n0 : Nat) (Z0 : n0 ≤ h0.size) (A_p0 : own_A Z h0 p0 .byte 2 (fun i => .int (d_ i))) :
    MetFree l (⟨"java/lang/StringUTF16", "coderFromArrayLen", "([BI)B"⟩ : MethodName) (head1 (Jvm.Cond.code (⟨"java/lang/StringUTF16", "coderFromArrayLen", "([BI)B"⟩ : MethodName) jdk_52_method_15_code 2 (some .byte) :: ws) ({ frames := 0, cells := 0, slots := 0, locals := 0 } : Room)) (fun a U => a = #[(.ref p0), (.int (2 : Int32))] ∧ Z.Warmed39 U.vm ∧ U.heap = h0) (fun _ _ _ _ _ => True) (fun _ U o U' => ∃ v L, o = .returned v ∧ Q_8t2 Z p0 d_ h0 n0 v U'.heap L ∧ FrameEnd U o U' L ({ frames := 0, cells := 0, slots := 0, locals := 0 } : Room).cells ({ frames := 0, cells := 0, slots := 0, locals := 0 } : Room).slots) := by
  refine MetFree.of_bodySF (plainFor_of_name pn_8) hisR ?_
  intro p e s m args below meth c s₁ Bd hml0 hP hK
  obtain ⟨rfl, hZ, hh⟩ := hP
  have hx := Bd.exec
  have hby := Bd.bytes
  have hml : c.maxLocals = 2 := hml0
  have hown : s.vm.findClass "java/lang/StringUTF16" = some m.cls := findClass_of_methodNamed Bd.named
  have hnm := (name_of_methodNamed Bd.named Bd.method).1
  have X0 : Stand p l e ({ frames := 0, cells := 0, slots := 0, locals := 0 } : Room) s m #[(.ref p0), (.int (2 : Int32))] below meth c s₁ [] 0 0 := Stand.of_body Bd
  have e0 : s₁.heap = h0 := by rw [← hh, Bd.state]; rfl
  have N0 := Fr.nil n0
  have K0 : Keep h0 h0 [] := Keep.refl h0 _
  have pre0 : ∀ t, Steps p.tables e below (s₁.setTop (mkF m 0 #[.val (.ref p0), .val (.int (2 : Int32))] [])) t → Steps p.tables e below (s₁.setTop (entryFrame m #[(.ref p0), (.int (2 : Int32))] 2)) t := fun t k => castTop (ef_8t2 m p0) k
  obtain ⟨fs, hr, hrun, hended, hW, hsame⟩ := X0.leave (v := some (.int (nar .byte (((((2 : Int32) - (2 : Int32)).toUInt32 >>> ((31 : Int32) &&& 31).toUInt32).toInt32).toInt8.toInt32)))) (fun h => by rw [Bd.returns] at h; cases h) (BodyLoose.notSynchronized Bd)
  refine ⟨_, _, pre0 _ ?_, hrun, hended, _, _, rfl, ?_, ⟨_, rfl⟩, hW, hsame.mono (by decide) (by decide)⟩
  · show Steps p.tables e below (s₁.setTop (mkF m 0 #[.val (.ref p0), .val (.int (2 : Int32))] [])) _
    refine XS.iloadN X0.here hx rfl (hb hby d8_0) rfl  ?_
    show Steps p.tables e below (s₁.setTop (mkF m 1 #[.val (.ref p0), .val (.int (2 : Int32))] [(.int (2 : Int32))])) _
    refine XS.aloadN X0.here hx rfl (hb hby d8_1) rfl rfl ?_
    show Steps p.tables e below (s₁.setTop (mkF m 2 #[.val (.ref p0), .val (.int (2 : Int32))] [(.ref p0), (.int (2 : Int32))])) _
    refine own_len X0 hx hZ e0 A_p0 (z := (2 : Int32)) rfl (g := (mkF m 2 #[.val (.ref p0), .val (.int (2 : Int32))] [(.ref p0), (.int (2 : Int32))])) rfl rfl (hb hby d8_2) ?_
    show Steps p.tables e below (s₁.setTop (mkF m 3 #[.val (.ref p0), .val (.int (2 : Int32))] [(.int (2 : Int32)), (.int (2 : Int32))])) _
    refine XS.isub X0.here hx rfl (hb hby d8_3) rfl ?_
    show Steps p.tables e below (s₁.setTop (mkF m 4 #[.val (.ref p0), .val (.int (2 : Int32))] [(.int ((2 : Int32) - (2 : Int32)))])) _
    refine XS.bipush X0.here hx rfl (hb hby d8_4) ?_
    show Steps p.tables e below (s₁.setTop (mkF m 6 #[.val (.ref p0), .val (.int (2 : Int32))] [(.int (31 : Int32)), (.int ((2 : Int32) - (2 : Int32)))])) _
    refine XS.iushr X0.here hx rfl (hb hby d8_6) rfl ?_
    show Steps p.tables e below (s₁.setTop (mkF m 7 #[.val (.ref p0), .val (.int (2 : Int32))] [(.int ((((2 : Int32) - (2 : Int32)).toUInt32 >>> ((31 : Int32) &&& 31).toUInt32).toInt32))])) _
    refine XS.i2b X0.here hx rfl (hb hby d8_7) rfl ?_
    show Steps p.tables e below (s₁.setTop (mkF m 8 #[.val (.ref p0), .val (.int (2 : Int32))] [(.int (((((2 : Int32) - (2 : Int32)).toUInt32 >>> ((31 : Int32) &&& 31).toUInt32).toInt32).toInt8.toInt32))])) _
    exact retN X0 hx (t := .byte) Bd.returns (by simp) (hb hby d8_8) hr
  · show Q_8t2 Z p0 d_ h0 n0 _ s₁.heap _
    rw [e0]
    exact ⟨congrArg (fun z => some (Value.int z)) (by rfl : (nar .byte (((((2 : Int32) - (2 : Int32)).toUInt32 >>> ((31 : Int32) &&& 31).toUInt32).toInt32).toInt8.toInt32)) = f_8t2 d_), N0, rfl⟩
theorem ef_7t2 (m : MethodId) (p0 : Addr) (p2 : Addr) : entryFrame m #[(.ref p0), (.int (0 : Int32)), (.ref p2), (.int (0 : Int32)), (.int (2 : Int32))] 7 = mkF m 0 #[.val (.ref p0), .val (.int (0 : Int32)), .val (.ref p2), .val (.int (0 : Int32)), .val (.int (2 : Int32)), .unset, .unset] [] := by first | (simp [entryFrame, mkF, argsToLocals, Value.category]; done) | rfl
def f_7t2 (g_ : Nat → Int32) (d_ : Nat → Int32) : Int32 := let v6_13 : Int32 := (g_ 0); let g_31 : Nat → Int32 := (own_upd d_ 0 (v6_13.toInt8.toInt32).toInt8.toInt32); let v6_13_3 : Int32 := (g_ 1); let g_31_5 : Nat → Int32 := (own_upd g_31 1 (v6_13_3.toInt8.toInt32).toInt8.toInt32); (2 : Int32)
def f_7t2_1 (g_ : Nat → Int32) (d_ : Nat → Int32) : Nat → Int32 := let v6_13 : Int32 := (g_ 0); let g_31 : Nat → Int32 := (own_upd d_ 0 (v6_13.toInt8.toInt32).toInt8.toInt32); let v6_13_3 : Int32 := (g_ 1); let g_31_5 : Nat → Int32 := (own_upd g_31 1 (v6_13_3.toInt8.toInt32).toInt8.toInt32); g_31_5
def Q_7t2 (Z : State) (p0 : Addr) (p2 : Addr) (g_ : Nat → Int32) (d_ : Nat → Int32) (h0 : Heap) (n0 : Nat) (v : Option Value) (h : Heap) (L : List Loc) : Prop := v = some (.int (f_7t2 g_ d_)) ∧ Fr n0 L ∧ Keep h0 h [p2] ∧ own_A Z h p2 .byte 2 (fun i => .int ((f_7t2_1 g_ d_) i))
set_option maxRecDepth 65536 in
set_option maxHeartbeats 40000000 in
theorem rm_7t2 (l : Launch) (Z : State) (a0 : Array Value) (hw : ∀ d ∈ tables_1, d.before a0 Z = true) (ws : List Jvm.Cond) (p0 : Addr) (p2 : Addr) (g_ : Nat → Int32) (d_ : Nat → Int32) (h0 : Heap) (n0 : Nat) (Z0 : n0 ≤ h0.size) (A_p0 : own_A Z h0 p0 .char 2 (fun i => .int (g_ i))) (A_p2 : own_A Z h0 p2 .byte 2 (fun i => .int (d_ i))) (ge_p2 : n0 ≤ p2) (ne_p0_p2 : p0 ≠ p2) (hc0_ : ¬ ((255 : Int32) < (g_ 0))) (hc1_ : ¬ ((255 : Int32) < (g_ 1))) :
    MetFree l (⟨"java/lang/StringUTF16", "compress", "([CI[BII)I"⟩ : MethodName) (head1 (Jvm.Cond.code (⟨"java/lang/StringUTF16", "compress", "([CI[BII)I"⟩ : MethodName) jdk_52_method_21_code 7 (some .int) :: ws) ({ frames := 0, cells := 0, slots := 0, locals := 0 } : Room)) (fun a U => a = #[(.ref p0), (.int (0 : Int32)), (.ref p2), (.int (0 : Int32)), (.int (2 : Int32))] ∧ Z.Warmed39 U.vm ∧ U.heap = h0) (fun _ _ _ _ _ => True) (fun _ U o U' => ∃ v L, o = .returned v ∧ Q_7t2 Z p0 p2 g_ d_ h0 n0 v U'.heap L ∧ FrameEnd U o U' L ({ frames := 0, cells := 0, slots := 0, locals := 0 } : Room).cells ({ frames := 0, cells := 0, slots := 0, locals := 0 } : Room).slots) := by
  refine MetFree.of_bodySF (plainFor_of_name pn_7) hisR ?_
  intro p e s m args below meth c s₁ Bd hml0 hP hK
  obtain ⟨rfl, hZ, hh⟩ := hP
  have hx := Bd.exec
  have hby := Bd.bytes
  have hml : c.maxLocals = 7 := hml0
  have hown : s.vm.findClass "java/lang/StringUTF16" = some m.cls := findClass_of_methodNamed Bd.named
  have hnm := (name_of_methodNamed Bd.named Bd.method).1
  have X0 : Stand p l e ({ frames := 0, cells := 0, slots := 0, locals := 0 } : Room) s m #[(.ref p0), (.int (0 : Int32)), (.ref p2), (.int (0 : Int32)), (.int (2 : Int32))] below meth c s₁ [] 0 0 := Stand.of_body Bd
  have e0 : s₁.heap = h0 := by rw [← hh, Bd.state]; rfl
  have N0 := Fr.nil n0
  have K0 : Keep h0 h0 [p2] := Keep.refl h0 _
  have pre0 : ∀ t, Steps p.tables e below (s₁.setTop (mkF m 0 #[.val (.ref p0), .val (.int (0 : Int32)), .val (.ref p2), .val (.int (0 : Int32)), .val (.int (2 : Int32)), .unset, .unset] [])) t → Steps p.tables e below (s₁.setTop (entryFrame m #[(.ref p0), (.int (0 : Int32)), (.ref p2), (.int (0 : Int32)), (.int (2 : Int32))] 7)) t := fun t k => castTop (ef_7t2 m p0 p2) k
  obtain ⟨v6_13, hv6_13⟩ : ∃ z : Int32, z = (g_ 0) := ⟨_, rfl⟩
  have pre1 : ∀ t, Steps p.tables e below (s₁.setTop (mkF m 31 #[.val (.ref p0), .val (.int (0 : Int32)), .val (.ref p2), .val (.int (0 : Int32)), .val (.int (2 : Int32)), .val (.int (0 : Int32)), .val (.int v6_13)] [(.int (v6_13.toInt8.toInt32)), (.int (0 : Int32)), (.ref p2)])) t → Steps p.tables e below (s₁.setTop (entryFrame m #[(.ref p0), (.int (0 : Int32)), (.ref p2), (.int (0 : Int32)), (.int (2 : Int32))] 7)) t := by
    intro t k
    refine pre0 t ?_
    show Steps p.tables e below (s₁.setTop (mkF m 0 #[.val (.ref p0), .val (.int (0 : Int32)), .val (.ref p2), .val (.int (0 : Int32)), .val (.int (2 : Int32)), .unset, .unset] [])) _
    refine XS.iconst X0.here hx rfl (hb hby d7_0) ?_
    show Steps p.tables e below (s₁.setTop (mkF m 1 #[.val (.ref p0), .val (.int (0 : Int32)), .val (.ref p2), .val (.int (0 : Int32)), .val (.int (2 : Int32)), .unset, .unset] [(.int (0 : Int32))])) _
    refine XS.istore X0.here hx rfl (hb hby d7_1) rfl (l' := #[.val (.ref p0), .val (.int (0 : Int32)), .val (.ref p2), .val (.int (0 : Int32)), .val (.int (2 : Int32)), .val (.int (0 : Int32)), .unset]) rfl ?_
    show Steps p.tables e below (s₁.setTop (mkF m 3 #[.val (.ref p0), .val (.int (0 : Int32)), .val (.ref p2), .val (.int (0 : Int32)), .val (.int (2 : Int32)), .val (.int (0 : Int32)), .unset] [])) _
    refine XS.iload X0.here hx rfl (hb hby d7_3) rfl  ?_
    show Steps p.tables e below (s₁.setTop (mkF m 5 #[.val (.ref p0), .val (.int (0 : Int32)), .val (.ref p2), .val (.int (0 : Int32)), .val (.int (2 : Int32)), .val (.int (0 : Int32)), .unset] [(.int (0 : Int32))])) _
    refine XS.iload X0.here hx rfl (hb hby d7_5) rfl  ?_
    show Steps p.tables e below (s₁.setTop (mkF m 7 #[.val (.ref p0), .val (.int (0 : Int32)), .val (.ref p2), .val (.int (0 : Int32)), .val (.int (2 : Int32)), .val (.int (0 : Int32)), .unset] [(.int (2 : Int32)), (.int (0 : Int32))])) _
    refine XS.icmpNo X0.here hx rfl (hb hby d7_7) rfl (tlt (by decide : (0 : Int32) < (2 : Int32))).2.1 ?_
    show Steps p.tables e below (s₁.setTop (mkF m 10 #[.val (.ref p0), .val (.int (0 : Int32)), .val (.ref p2), .val (.int (0 : Int32)), .val (.int (2 : Int32)), .val (.int (0 : Int32)), .unset] [])) _
    refine XS.aloadN X0.here hx rfl (hb hby d7_10) rfl rfl ?_
    show Steps p.tables e below (s₁.setTop (mkF m 11 #[.val (.ref p0), .val (.int (0 : Int32)), .val (.ref p2), .val (.int (0 : Int32)), .val (.int (2 : Int32)), .val (.int (0 : Int32)), .unset] [(.ref p0)])) _
    refine XS.iloadN X0.here hx rfl (hb hby d7_11) rfl  ?_
    show Steps p.tables e below (s₁.setTop (mkF m 12 #[.val (.ref p0), .val (.int (0 : Int32)), .val (.ref p2), .val (.int (0 : Int32)), .val (.int (2 : Int32)), .val (.int (0 : Int32)), .unset] [(.int (0 : Int32)), (.ref p0)])) _
    refine own_ldC X0 hx hZ e0 A_p0 (j := (0 : Int32)) (k := 0) (by decide) (by decide) (by decide) (g := (mkF m 12 #[.val (.ref p0), .val (.int (0 : Int32)), .val (.ref p2), .val (.int (0 : Int32)), .val (.int (2 : Int32)), .val (.int (0 : Int32)), .unset] [(.int (0 : Int32)), (.ref p0)])) rfl rfl (hb hby d7_12) ?_
    show Steps p.tables e below (s₁.setTop (mkF m 13 #[.val (.ref p0), .val (.int (0 : Int32)), .val (.ref p2), .val (.int (0 : Int32)), .val (.int (2 : Int32)), .val (.int (0 : Int32)), .unset] [(.int (g_ 0))])) _
    refine XS.istore X0.here hx rfl (hb hby d7_13) rfl (l' := #[.val (.ref p0), .val (.int (0 : Int32)), .val (.ref p2), .val (.int (0 : Int32)), .val (.int (2 : Int32)), .val (.int (0 : Int32)), .val (.int v6_13)]) (by rw [hv6_13]; rfl) ?_
    show Steps p.tables e below (s₁.setTop (mkF m 15 #[.val (.ref p0), .val (.int (0 : Int32)), .val (.ref p2), .val (.int (0 : Int32)), .val (.int (2 : Int32)), .val (.int (0 : Int32)), .val (.int v6_13)] [])) _
    refine XS.iload X0.here hx rfl (hb hby d7_15) rfl  ?_
    show Steps p.tables e below (s₁.setTop (mkF m 17 #[.val (.ref p0), .val (.int (0 : Int32)), .val (.ref p2), .val (.int (0 : Int32)), .val (.int (2 : Int32)), .val (.int (0 : Int32)), .val (.int v6_13)] [(.int v6_13)])) _
    refine XS.sipush X0.here hx rfl (hb hby d7_17) ?_
    show Steps p.tables e below (s₁.setTop (mkF m 20 #[.val (.ref p0), .val (.int (0 : Int32)), .val (.ref p2), .val (.int (0 : Int32)), .val (.int (2 : Int32)), .val (.int (0 : Int32)), .val (.int v6_13)] [(.int (255 : Int32)), (.int v6_13)])) _
    refine XS.icmpYes X0.here hx rfl (pc0 := 20) (pc' := 26) rfl (hb hby d7_20) rfl (flt ((by rw [hv6_13]; exact hc0_) : ¬ ((255 : Int32) < v6_13))).2.2.2 (by decide) (by decide) ?_
    show Steps p.tables e below (s₁.setTop (mkF m 26 #[.val (.ref p0), .val (.int (0 : Int32)), .val (.ref p2), .val (.int (0 : Int32)), .val (.int (2 : Int32)), .val (.int (0 : Int32)), .val (.int v6_13)] [])) _
    refine XS.aloadN X0.here hx rfl (hb hby d7_26) rfl rfl ?_
    show Steps p.tables e below (s₁.setTop (mkF m 27 #[.val (.ref p0), .val (.int (0 : Int32)), .val (.ref p2), .val (.int (0 : Int32)), .val (.int (2 : Int32)), .val (.int (0 : Int32)), .val (.int v6_13)] [(.ref p2)])) _
    refine XS.iloadN X0.here hx rfl (hb hby d7_27) rfl  ?_
    show Steps p.tables e below (s₁.setTop (mkF m 28 #[.val (.ref p0), .val (.int (0 : Int32)), .val (.ref p2), .val (.int (0 : Int32)), .val (.int (2 : Int32)), .val (.int (0 : Int32)), .val (.int v6_13)] [(.int (0 : Int32)), (.ref p2)])) _
    refine XS.iload X0.here hx rfl (hb hby d7_28) rfl  ?_
    show Steps p.tables e below (s₁.setTop (mkF m 30 #[.val (.ref p0), .val (.int (0 : Int32)), .val (.ref p2), .val (.int (0 : Int32)), .val (.int (2 : Int32)), .val (.int (0 : Int32)), .val (.int v6_13)] [(.int v6_13), (.int (0 : Int32)), (.ref p2)])) _
    refine XS.i2b X0.here hx rfl (hb hby d7_30) rfl ?_
    exact k
  obtain ⟨T2, h2, X2, e2, W2, A2, st2⟩ := own_stB X0 hx hZ e0 A_p2 (j := (0 : Int32)) (x := (v6_13.toInt8.toInt32)) (k := 0) (by decide) (by decide) (by decide) (g := (mkF m 31 #[.val (.ref p0), .val (.int (0 : Int32)), .val (.ref p2), .val (.int (0 : Int32)), .val (.int (2 : Int32)), .val (.int (0 : Int32)), .val (.int v6_13)] [(.int (v6_13.toInt8.toInt32)), (.int (0 : Int32)), (.ref p2)])) rfl rfl (hb hby d7_31)
  obtain ⟨g_31, hg_31⟩ : ∃ z : Nat → Int32, z = (own_upd d_ 0 (v6_13.toInt8.toInt32).toInt8.toInt32) := ⟨_, rfl⟩
  rw [← hg_31] at A2
  have arr_p0_2 := A_p0.other W2 ne_p0_p2
  have K2 := K0.wr W2 (Or.inl (List.mem_of_getElem? (i := 0) rfl))
  have Z2 := Nat.le_trans Z0 (Nat.le_of_eq W2.size.symm)
  have N2 := Fr.snoc X2 N0 ge_p2
  obtain ⟨v6_13_3, hv6_13_3⟩ : ∃ z : Int32, z = (g_ 1) := ⟨_, rfl⟩
  have pre4 : ∀ t, Steps p.tables e below (T2.setTop (mkF m 31 #[.val (.ref p0), .val (.int (1 : Int32)), .val (.ref p2), .val (.int (1 : Int32)), .val (.int (2 : Int32)), .val (.int (1 : Int32)), .val (.int v6_13_3)] [(.int (v6_13_3.toInt8.toInt32)), (.int (1 : Int32)), (.ref p2)])) t → Steps p.tables e below (s₁.setTop (entryFrame m #[(.ref p0), (.int (0 : Int32)), (.ref p2), (.int (0 : Int32)), (.int (2 : Int32))] 7)) t := by
    intro t k
    refine pre1 t ?_
    show Steps p.tables e below (s₁.setTop (mkF m 31 #[.val (.ref p0), .val (.int (0 : Int32)), .val (.ref p2), .val (.int (0 : Int32)), .val (.int (2 : Int32)), .val (.int (0 : Int32)), .val (.int v6_13)] [(.int (v6_13.toInt8.toInt32)), (.int (0 : Int32)), (.ref p2)])) _
    refine st2 _ ?_
    show Steps p.tables e below (T2.setTop (mkF m 32 #[.val (.ref p0), .val (.int (0 : Int32)), .val (.ref p2), .val (.int (0 : Int32)), .val (.int (2 : Int32)), .val (.int (0 : Int32)), .val (.int v6_13)] [])) _
    refine XS.iinc X2.here hx rfl (hb hby d7_32) rfl (l' := #[.val (.ref p0), .val (.int (1 : Int32)), .val (.ref p2), .val (.int (0 : Int32)), .val (.int (2 : Int32)), .val (.int (0 : Int32)), .val (.int v6_13)]) rfl ?_
    show Steps p.tables e below (T2.setTop (mkF m 35 #[.val (.ref p0), .val (.int (1 : Int32)), .val (.ref p2), .val (.int (0 : Int32)), .val (.int (2 : Int32)), .val (.int (0 : Int32)), .val (.int v6_13)] [])) _
    refine XS.iinc X2.here hx rfl (hb hby d7_35) rfl (l' := #[.val (.ref p0), .val (.int (1 : Int32)), .val (.ref p2), .val (.int (1 : Int32)), .val (.int (2 : Int32)), .val (.int (0 : Int32)), .val (.int v6_13)]) rfl ?_
    show Steps p.tables e below (T2.setTop (mkF m 38 #[.val (.ref p0), .val (.int (1 : Int32)), .val (.ref p2), .val (.int (1 : Int32)), .val (.int (2 : Int32)), .val (.int (0 : Int32)), .val (.int v6_13)] [])) _
    refine XS.iinc X2.here hx rfl (hb hby d7_38) rfl (l' := #[.val (.ref p0), .val (.int (1 : Int32)), .val (.ref p2), .val (.int (1 : Int32)), .val (.int (2 : Int32)), .val (.int (1 : Int32)), .val (.int v6_13)]) rfl ?_
    show Steps p.tables e below (T2.setTop (mkF m 41 #[.val (.ref p0), .val (.int (1 : Int32)), .val (.ref p2), .val (.int (1 : Int32)), .val (.int (2 : Int32)), .val (.int (1 : Int32)), .val (.int v6_13)] [])) _
    refine XS.goto X2.here hx rfl (pc0 := 41) (pc' := 3) rfl (hb hby d7_41) (by decide) (by decide) ?_
    show Steps p.tables e below (T2.setTop (mkF m 3 #[.val (.ref p0), .val (.int (1 : Int32)), .val (.ref p2), .val (.int (1 : Int32)), .val (.int (2 : Int32)), .val (.int (1 : Int32)), .val (.int v6_13)] [])) _
    refine XS.iload X2.here hx rfl (hb hby d7_3) rfl  ?_
    show Steps p.tables e below (T2.setTop (mkF m 5 #[.val (.ref p0), .val (.int (1 : Int32)), .val (.ref p2), .val (.int (1 : Int32)), .val (.int (2 : Int32)), .val (.int (1 : Int32)), .val (.int v6_13)] [(.int (1 : Int32))])) _
    refine XS.iload X2.here hx rfl (hb hby d7_5) rfl  ?_
    show Steps p.tables e below (T2.setTop (mkF m 7 #[.val (.ref p0), .val (.int (1 : Int32)), .val (.ref p2), .val (.int (1 : Int32)), .val (.int (2 : Int32)), .val (.int (1 : Int32)), .val (.int v6_13)] [(.int (2 : Int32)), (.int (1 : Int32))])) _
    refine XS.icmpNo X2.here hx rfl (hb hby d7_7) rfl (tlt (by decide : (1 : Int32) < (2 : Int32))).2.1 ?_
    show Steps p.tables e below (T2.setTop (mkF m 10 #[.val (.ref p0), .val (.int (1 : Int32)), .val (.ref p2), .val (.int (1 : Int32)), .val (.int (2 : Int32)), .val (.int (1 : Int32)), .val (.int v6_13)] [])) _
    refine XS.aloadN X2.here hx rfl (hb hby d7_10) rfl rfl ?_
    show Steps p.tables e below (T2.setTop (mkF m 11 #[.val (.ref p0), .val (.int (1 : Int32)), .val (.ref p2), .val (.int (1 : Int32)), .val (.int (2 : Int32)), .val (.int (1 : Int32)), .val (.int v6_13)] [(.ref p0)])) _
    refine XS.iloadN X2.here hx rfl (hb hby d7_11) rfl  ?_
    show Steps p.tables e below (T2.setTop (mkF m 12 #[.val (.ref p0), .val (.int (1 : Int32)), .val (.ref p2), .val (.int (1 : Int32)), .val (.int (2 : Int32)), .val (.int (1 : Int32)), .val (.int v6_13)] [(.int (1 : Int32)), (.ref p0)])) _
    refine own_ldC X2 hx hZ e2 arr_p0_2 (j := (1 : Int32)) (k := 1) (by decide) (by decide) (by decide) (g := (mkF m 12 #[.val (.ref p0), .val (.int (1 : Int32)), .val (.ref p2), .val (.int (1 : Int32)), .val (.int (2 : Int32)), .val (.int (1 : Int32)), .val (.int v6_13)] [(.int (1 : Int32)), (.ref p0)])) rfl rfl (hb hby d7_12) ?_
    show Steps p.tables e below (T2.setTop (mkF m 13 #[.val (.ref p0), .val (.int (1 : Int32)), .val (.ref p2), .val (.int (1 : Int32)), .val (.int (2 : Int32)), .val (.int (1 : Int32)), .val (.int v6_13)] [(.int (g_ 1))])) _
    refine XS.istore X2.here hx rfl (hb hby d7_13) rfl (l' := #[.val (.ref p0), .val (.int (1 : Int32)), .val (.ref p2), .val (.int (1 : Int32)), .val (.int (2 : Int32)), .val (.int (1 : Int32)), .val (.int v6_13_3)]) (by rw [hv6_13_3]; rfl) ?_
    show Steps p.tables e below (T2.setTop (mkF m 15 #[.val (.ref p0), .val (.int (1 : Int32)), .val (.ref p2), .val (.int (1 : Int32)), .val (.int (2 : Int32)), .val (.int (1 : Int32)), .val (.int v6_13_3)] [])) _
    refine XS.iload X2.here hx rfl (hb hby d7_15) rfl  ?_
    show Steps p.tables e below (T2.setTop (mkF m 17 #[.val (.ref p0), .val (.int (1 : Int32)), .val (.ref p2), .val (.int (1 : Int32)), .val (.int (2 : Int32)), .val (.int (1 : Int32)), .val (.int v6_13_3)] [(.int v6_13_3)])) _
    refine XS.sipush X2.here hx rfl (hb hby d7_17) ?_
    show Steps p.tables e below (T2.setTop (mkF m 20 #[.val (.ref p0), .val (.int (1 : Int32)), .val (.ref p2), .val (.int (1 : Int32)), .val (.int (2 : Int32)), .val (.int (1 : Int32)), .val (.int v6_13_3)] [(.int (255 : Int32)), (.int v6_13_3)])) _
    refine XS.icmpYes X2.here hx rfl (pc0 := 20) (pc' := 26) rfl (hb hby d7_20) rfl (flt ((by rw [hv6_13_3]; exact hc1_) : ¬ ((255 : Int32) < v6_13_3))).2.2.2 (by decide) (by decide) ?_
    show Steps p.tables e below (T2.setTop (mkF m 26 #[.val (.ref p0), .val (.int (1 : Int32)), .val (.ref p2), .val (.int (1 : Int32)), .val (.int (2 : Int32)), .val (.int (1 : Int32)), .val (.int v6_13_3)] [])) _
    refine XS.aloadN X2.here hx rfl (hb hby d7_26) rfl rfl ?_
    show Steps p.tables e below (T2.setTop (mkF m 27 #[.val (.ref p0), .val (.int (1 : Int32)), .val (.ref p2), .val (.int (1 : Int32)), .val (.int (2 : Int32)), .val (.int (1 : Int32)), .val (.int v6_13_3)] [(.ref p2)])) _
    refine XS.iloadN X2.here hx rfl (hb hby d7_27) rfl  ?_
    show Steps p.tables e below (T2.setTop (mkF m 28 #[.val (.ref p0), .val (.int (1 : Int32)), .val (.ref p2), .val (.int (1 : Int32)), .val (.int (2 : Int32)), .val (.int (1 : Int32)), .val (.int v6_13_3)] [(.int (1 : Int32)), (.ref p2)])) _
    refine XS.iload X2.here hx rfl (hb hby d7_28) rfl  ?_
    show Steps p.tables e below (T2.setTop (mkF m 30 #[.val (.ref p0), .val (.int (1 : Int32)), .val (.ref p2), .val (.int (1 : Int32)), .val (.int (2 : Int32)), .val (.int (1 : Int32)), .val (.int v6_13_3)] [(.int v6_13_3), (.int (1 : Int32)), (.ref p2)])) _
    refine XS.i2b X2.here hx rfl (hb hby d7_30) rfl ?_
    exact k
  obtain ⟨T5, h5, X5, e5, W5, A5, st5⟩ := own_stB X2 hx hZ e2 A2 (j := (1 : Int32)) (x := (v6_13_3.toInt8.toInt32)) (k := 1) (by decide) (by decide) (by decide) (g := (mkF m 31 #[.val (.ref p0), .val (.int (1 : Int32)), .val (.ref p2), .val (.int (1 : Int32)), .val (.int (2 : Int32)), .val (.int (1 : Int32)), .val (.int v6_13_3)] [(.int (v6_13_3.toInt8.toInt32)), (.int (1 : Int32)), (.ref p2)])) rfl rfl (hb hby d7_31)
  obtain ⟨g_31_5, hg_31_5⟩ : ∃ z : Nat → Int32, z = (own_upd g_31 1 (v6_13_3.toInt8.toInt32).toInt8.toInt32) := ⟨_, rfl⟩
  rw [← hg_31_5] at A5
  have arr_p0_5 := arr_p0_2.other W5 ne_p0_p2
  have K5 := K2.wr W5 (Or.inl (List.mem_of_getElem? (i := 0) rfl))
  have Z5 := Nat.le_trans Z2 (Nat.le_of_eq W5.size.symm)
  have N5 := Fr.snoc X5 N2 ge_p2
  obtain ⟨fs, hr, hrun, hended, hW, hsame⟩ := X5.leave (v := some (.int (2 : Int32))) (fun h => by rw [Bd.returns] at h; cases h) (BodyLoose.notSynchronized Bd)
  refine ⟨_, _, pre4 _ ?_, hrun, hended, _, _, rfl, ?_, ⟨_, rfl⟩, hW, hsame.mono (by decide) (by decide)⟩
  · show Steps p.tables e below (T2.setTop (mkF m 31 #[.val (.ref p0), .val (.int (1 : Int32)), .val (.ref p2), .val (.int (1 : Int32)), .val (.int (2 : Int32)), .val (.int (1 : Int32)), .val (.int v6_13_3)] [(.int (v6_13_3.toInt8.toInt32)), (.int (1 : Int32)), (.ref p2)])) _
    refine st5 _ ?_
    show Steps p.tables e below (T5.setTop (mkF m 32 #[.val (.ref p0), .val (.int (1 : Int32)), .val (.ref p2), .val (.int (1 : Int32)), .val (.int (2 : Int32)), .val (.int (1 : Int32)), .val (.int v6_13_3)] [])) _
    refine XS.iinc X5.here hx rfl (hb hby d7_32) rfl (l' := #[.val (.ref p0), .val (.int (2 : Int32)), .val (.ref p2), .val (.int (1 : Int32)), .val (.int (2 : Int32)), .val (.int (1 : Int32)), .val (.int v6_13_3)]) rfl ?_
    show Steps p.tables e below (T5.setTop (mkF m 35 #[.val (.ref p0), .val (.int (2 : Int32)), .val (.ref p2), .val (.int (1 : Int32)), .val (.int (2 : Int32)), .val (.int (1 : Int32)), .val (.int v6_13_3)] [])) _
    refine XS.iinc X5.here hx rfl (hb hby d7_35) rfl (l' := #[.val (.ref p0), .val (.int (2 : Int32)), .val (.ref p2), .val (.int (2 : Int32)), .val (.int (2 : Int32)), .val (.int (1 : Int32)), .val (.int v6_13_3)]) rfl ?_
    show Steps p.tables e below (T5.setTop (mkF m 38 #[.val (.ref p0), .val (.int (2 : Int32)), .val (.ref p2), .val (.int (2 : Int32)), .val (.int (2 : Int32)), .val (.int (1 : Int32)), .val (.int v6_13_3)] [])) _
    refine XS.iinc X5.here hx rfl (hb hby d7_38) rfl (l' := #[.val (.ref p0), .val (.int (2 : Int32)), .val (.ref p2), .val (.int (2 : Int32)), .val (.int (2 : Int32)), .val (.int (2 : Int32)), .val (.int v6_13_3)]) rfl ?_
    show Steps p.tables e below (T5.setTop (mkF m 41 #[.val (.ref p0), .val (.int (2 : Int32)), .val (.ref p2), .val (.int (2 : Int32)), .val (.int (2 : Int32)), .val (.int (2 : Int32)), .val (.int v6_13_3)] [])) _
    refine XS.goto X5.here hx rfl (pc0 := 41) (pc' := 3) rfl (hb hby d7_41) (by decide) (by decide) ?_
    show Steps p.tables e below (T5.setTop (mkF m 3 #[.val (.ref p0), .val (.int (2 : Int32)), .val (.ref p2), .val (.int (2 : Int32)), .val (.int (2 : Int32)), .val (.int (2 : Int32)), .val (.int v6_13_3)] [])) _
    refine XS.iload X5.here hx rfl (hb hby d7_3) rfl  ?_
    show Steps p.tables e below (T5.setTop (mkF m 5 #[.val (.ref p0), .val (.int (2 : Int32)), .val (.ref p2), .val (.int (2 : Int32)), .val (.int (2 : Int32)), .val (.int (2 : Int32)), .val (.int v6_13_3)] [(.int (2 : Int32))])) _
    refine XS.iload X5.here hx rfl (hb hby d7_5) rfl  ?_
    show Steps p.tables e below (T5.setTop (mkF m 7 #[.val (.ref p0), .val (.int (2 : Int32)), .val (.ref p2), .val (.int (2 : Int32)), .val (.int (2 : Int32)), .val (.int (2 : Int32)), .val (.int v6_13_3)] [(.int (2 : Int32)), (.int (2 : Int32))])) _
    refine XS.icmpYes X5.here hx rfl (pc0 := 7) (pc' := 44) rfl (hb hby d7_7) rfl (flt (by decide : ¬ ((2 : Int32) < (2 : Int32)))).2.1 (by decide) (by decide) ?_
    show Steps p.tables e below (T5.setTop (mkF m 44 #[.val (.ref p0), .val (.int (2 : Int32)), .val (.ref p2), .val (.int (2 : Int32)), .val (.int (2 : Int32)), .val (.int (2 : Int32)), .val (.int v6_13_3)] [])) _
    refine XS.iload X5.here hx rfl (hb hby d7_44) rfl  ?_
    show Steps p.tables e below (T5.setTop (mkF m 46 #[.val (.ref p0), .val (.int (2 : Int32)), .val (.ref p2), .val (.int (2 : Int32)), .val (.int (2 : Int32)), .val (.int (2 : Int32)), .val (.int v6_13_3)] [(.int (2 : Int32))])) _
    exact retI X5 hx Bd.returns (hb hby d7_46) hr
  · show Q_7t2 Z p0 p2 g_ d_ h0 n0 _ T5.heap _
    rw [e5]
    have o1 := (by subst hv6_13 hg_31 hv6_13_3 hg_31_5; rfl : g_31_5 = f_7t2_1 g_ d_)
    have r1 := A5
    rw [o1] at r1
    exact ⟨congrArg (fun z => some (Value.int z)) (by subst hv6_13 hg_31 hv6_13_3 hg_31_5; rfl : (2 : Int32) = f_7t2 g_ d_), N5, K5, r1⟩
theorem ef_6t2 (m : MethodId) (p0 : Addr) : entryFrame m #[(.ref p0), (.int (0 : Int32)), (.int (2 : Int32))] 6 = mkF m 0 #[.val (.ref p0), .val (.int (0 : Int32)), .val (.int (2 : Int32)), .unset, .unset, .unset] [] := by first | (simp [entryFrame, mkF, argsToLocals, Value.category]; done) | rfl
def f_6t2_1 (g_ : Nat → Int32) : Nat → Int32 := let v4_12 : Int32 := (f_7t2 g_ own_zI); (f_7t2_1 g_ own_zI)
def Q_6t2 (Z : State) (p0 : Addr) (g_ : Nat → Int32) (h0 : Heap) (n0 : Nat) (v : Option Value) (h : Heap) (L : List Loc) : Prop := ∃ r : Addr, v = some (.ref r) ∧ Fr n0 L ∧ h0.size ≤ r ∧ Keep h0 h [] ∧ own_A Z h r .byte 2 (fun i => .int ((f_6t2_1 g_) i))
set_option maxRecDepth 65536 in
set_option maxHeartbeats 40000000 in
theorem rm_6t2 (l : Launch) (Z : State) (a0 : Array Value) (hw : ∀ d ∈ tables_1, d.before a0 Z = true) (ws : List Jvm.Cond) (p0 : Addr) (g_ : Nat → Int32) (h0 : Heap) (n0 : Nat) (Z0 : n0 ≤ h0.size) (A_p0 : own_A Z h0 p0 .char 2 (fun i => .int (g_ i))) (hc0_ : ¬ ((255 : Int32) < (g_ 0))) (hc1_ : ¬ ((255 : Int32) < (g_ 1))) :
    MetFree l (⟨"java/lang/StringUTF16", "compress", "([CII)[B"⟩ : MethodName) (head1 (Jvm.Cond.code (⟨"java/lang/StringUTF16", "compress", "([CII)[B"⟩ : MethodName) jdk_52_method_16_code 6 (some (.array .byte)) :: ws) ({ frames := 1, cells := 1, slots := 2, locals := 18 } : Room)) (fun a U => a = #[(.ref p0), (.int (0 : Int32)), (.int (2 : Int32))] ∧ Z.Warmed39 U.vm ∧ U.heap = h0) (fun _ _ _ _ _ => True) (fun _ U o U' => ∃ v L, o = .returned v ∧ Q_6t2 Z p0 g_ h0 n0 v U'.heap L ∧ FrameEnd U o U' L ({ frames := 1, cells := 1, slots := 2, locals := 18 } : Room).cells ({ frames := 1, cells := 1, slots := 2, locals := 18 } : Room).slots) := by
  refine MetFree.of_bodySF (plainFor_of_name pn_6) hisR ?_
  intro p e s m args below meth c s₁ Bd hml0 hP hK
  obtain ⟨rfl, hZ, hh⟩ := hP
  have hx := Bd.exec
  have hby := Bd.bytes
  have hml : c.maxLocals = 6 := hml0
  have hown : s.vm.findClass "java/lang/StringUTF16" = some m.cls := findClass_of_methodNamed Bd.named
  have hnm := (name_of_methodNamed Bd.named Bd.method).1
  have X0 : Stand p l e ({ frames := 1, cells := 1, slots := 2, locals := 18 } : Room) s m #[(.ref p0), (.int (0 : Int32)), (.int (2 : Int32))] below meth c s₁ [] 0 0 := Stand.of_body Bd
  have e0 : s₁.heap = h0 := by rw [← hh, Bd.state]; rfl
  have N0 := Fr.nil n0
  have K0 : Keep h0 h0 [] := Keep.refl h0 _
  have pre0 : ∀ t, Steps p.tables e below (s₁.setTop (mkF m 0 #[.val (.ref p0), .val (.int (0 : Int32)), .val (.int (2 : Int32)), .unset, .unset, .unset] [])) t → Steps p.tables e below (s₁.setTop (entryFrame m #[(.ref p0), (.int (0 : Int32)), (.int (2 : Int32))] 6)) t := fun t k => castTop (ef_6t2 m p0) k
  have pre1 : ∀ t, Steps p.tables e below (s₁.setTop (mkF m 1 #[.val (.ref p0), .val (.int (0 : Int32)), .val (.int (2 : Int32)), .unset, .unset, .unset] [(.int (2 : Int32))])) t → Steps p.tables e below (s₁.setTop (entryFrame m #[(.ref p0), (.int (0 : Int32)), (.int (2 : Int32))] 6)) t := by
    intro t k
    refine pre0 t ?_
    show Steps p.tables e below (s₁.setTop (mkF m 0 #[.val (.ref p0), .val (.int (0 : Int32)), .val (.int (2 : Int32)), .unset, .unset, .unset] [])) _
    refine XS.iloadN X0.here hx rfl (hb hby d6_0) rfl  ?_
    exact k
  obtain ⟨T2, h2, b2, gb2, X2, e2, E2, A2, st2⟩ := own_newP X0 hx hZ (hw _ (List.mem_of_getElem? (i := 28) rfl)) e0 (g := (mkF m 1 #[.val (.ref p0), .val (.int (0 : Int32)), .val (.int (2 : Int32)), .unset, .unset, .unset] [(.int (2 : Int32))])) rfl (hb hby d6_1) rfl (by decide) (n := 2) rfl (G := fun i => .int (own_zI i)) (fun _ => rfl) (cap := 2) (by decide) (by decide) (by decide) (by decide)
  have ne_p0_b2 : p0 ≠ b2 := Nat.ne_of_lt (Nat.lt_of_lt_of_le A_p0.lt (Nat.le_of_eq gb2.symm))
  have sz_b2 : h0.size ≤ b2 := Nat.le_trans K0.1 (Nat.le_of_eq gb2.symm)
  have ge_b2 : n0 ≤ b2 := Nat.le_trans Z0 (Nat.le_of_eq gb2.symm)
  have arr_p0_2 := A_p0.ext E2
  have K2 := K0.ext E2
  have Z2 := Nat.le_trans Z0 E2.1
  have pre4 : ∀ t, Steps p.tables e below (T2.setTop (mkF m 9 #[.val (.ref p0), .val (.int (0 : Int32)), .val (.int (2 : Int32)), .val (.ref b2), .unset, .unset] [(.int (2 : Int32)), (.int (0 : Int32)), (.ref b2), (.int (0 : Int32)), (.ref p0)])) t → Steps p.tables e below (s₁.setTop (entryFrame m #[(.ref p0), (.int (0 : Int32)), (.int (2 : Int32))] 6)) t := by
    intro t k
    refine pre1 t ?_
    show Steps p.tables e below (s₁.setTop (mkF m 1 #[.val (.ref p0), .val (.int (0 : Int32)), .val (.int (2 : Int32)), .unset, .unset, .unset] [(.int (2 : Int32))])) _
    refine st2 _ ?_
    show Steps p.tables e below (T2.setTop (mkF m 3 #[.val (.ref p0), .val (.int (0 : Int32)), .val (.int (2 : Int32)), .unset, .unset, .unset] [(.ref b2)])) _
    refine XS.astoreN X2.here hx rfl (hb hby d6_3) rfl rfl (l' := #[.val (.ref p0), .val (.int (0 : Int32)), .val (.int (2 : Int32)), .val (.ref b2), .unset, .unset]) rfl ?_
    show Steps p.tables e below (T2.setTop (mkF m 4 #[.val (.ref p0), .val (.int (0 : Int32)), .val (.int (2 : Int32)), .val (.ref b2), .unset, .unset] [])) _
    refine XS.aloadN X2.here hx rfl (hb hby d6_4) rfl rfl ?_
    show Steps p.tables e below (T2.setTop (mkF m 5 #[.val (.ref p0), .val (.int (0 : Int32)), .val (.int (2 : Int32)), .val (.ref b2), .unset, .unset] [(.ref p0)])) _
    refine XS.iloadN X2.here hx rfl (hb hby d6_5) rfl  ?_
    show Steps p.tables e below (T2.setTop (mkF m 6 #[.val (.ref p0), .val (.int (0 : Int32)), .val (.int (2 : Int32)), .val (.ref b2), .unset, .unset] [(.int (0 : Int32)), (.ref p0)])) _
    refine XS.aloadN X2.here hx rfl (hb hby d6_6) rfl rfl ?_
    show Steps p.tables e below (T2.setTop (mkF m 7 #[.val (.ref p0), .val (.int (0 : Int32)), .val (.int (2 : Int32)), .val (.ref b2), .unset, .unset] [(.ref b2), (.int (0 : Int32)), (.ref p0)])) _
    refine XS.iconst X2.here hx rfl (hb hby d6_7) ?_
    show Steps p.tables e below (T2.setTop (mkF m 8 #[.val (.ref p0), .val (.int (0 : Int32)), .val (.int (2 : Int32)), .val (.ref b2), .unset, .unset] [(.int (0 : Int32)), (.ref b2), (.int (0 : Int32)), (.ref p0)])) _
    refine XS.iloadN X2.here hx rfl (hb hby d6_8) rfl  ?_
    exact k
  obtain ⟨_, _, ⟨T3, L3, k3, n3⟩, -, X3, ⟨Lc3, hQ3, l3, y3, z3⟩, st3⟩ := Jvm.LawKit.callS X2 hx (y := (⟨"java/lang/StringUTF16", "compress", "([CI[BII)I"⟩ : MethodName)) hown (mvT hZ (hw _ (List.mem_of_getElem? (i := 29) rfl))) (mvT hZ (hw _ (List.mem_of_getElem? (i := 30) rfl))) (mvT hZ (hw _ (List.mem_of_getElem? (i := 26) rfl))) (mvT hZ (hw _ (List.mem_of_getElem? (i := 31) rfl))) (by decide) (backOf (W := 0) (rm_7t2 l Z a0 hw [] p0 b2 g_ own_zI h2 n0 Z2 arr_p0_2 A2 ge_b2 ne_p0_b2 hc0_ hc1_) hZ (hw _ (List.mem_of_getElem? (i := 31) rfl)) (hw _ (List.mem_of_getElem? (i := 26) rfl)) (by decide) (by decide)) (g := (mkF m 9 #[.val (.ref p0), .val (.int (0 : Int32)), .val (.int (2 : Int32)), .val (.ref b2), .unset, .unset] [(.int (2 : Int32)), (.int (0 : Int32)), (.ref b2), (.int (0 : Int32)), (.ref p0)])) rfl (by rw [hml]; rfl) (argsL := [(.ref p0), (.int (0 : Int32)), (.ref b2), (.int (0 : Int32)), (.int (2 : Int32))]) (rest := []) (lenOf pd_0 rfl) rfl (by show 2 * 0 + _ ≤ _; exact Nat.le_of_eq rfl) (hb hby d6_9) (fun _ _ => ⟨rfl, e2, (by decide : 1 + 0 ≤ _), (by decide : 2 + 0 ≤ _)⟩)
  dsimp only [Pt.U, Pt.locs, Pt.cells, Pt.slots] at X3 l3 y3 z3 st3 hQ3
  rw [l3, y3, z3] at X3
  obtain ⟨rfl, N3q, Kc3, Q3_0⟩ := hQ3
  have Kd3 : Keep h2 T3.heap [b2] := Kc3
  have arr_p0_3 := arr_p0_2.keep Kd3 (ninS ne_p0_b2 nin0)
  have K3 := K2.trans Kd3 (allS (Or.inr sz_b2) all0)
  have Z3 := Nat.le_trans Z2 Kd3.1
  have N3 := Fr.app N0 N3q
  obtain ⟨v4_12, hv4_12⟩ : ∃ z : Int32, z = (f_7t2 g_ own_zI) := ⟨_, rfl⟩
  obtain ⟨fs, hr, hrun, hended, hW, hsame⟩ := X3.leave (v := some (.ref b2)) (fun h => by rw [Bd.returns] at h; cases h) (BodyLoose.notSynchronized Bd)
  refine ⟨_, _, pre4 _ ?_, hrun, hended, _, _, rfl, ?_, ⟨_, rfl⟩, hW, hsame.mono (by decide) (by decide)⟩
  · show Steps p.tables e below (T2.setTop (mkF m 9 #[.val (.ref p0), .val (.int (0 : Int32)), .val (.int (2 : Int32)), .val (.ref b2), .unset, .unset] [(.int (2 : Int32)), (.int (0 : Int32)), (.ref b2), (.int (0 : Int32)), (.ref p0)])) _
    refine st3 _ ?_
    show Steps p.tables e below (T3.setTop (mkF m 12 #[.val (.ref p0), .val (.int (0 : Int32)), .val (.int (2 : Int32)), .val (.ref b2), .unset, .unset] [(.int (f_7t2 g_ own_zI))])) _
    refine XS.istore X3.here hx rfl (hb hby d6_12) rfl (l' := #[.val (.ref p0), .val (.int (0 : Int32)), .val (.int (2 : Int32)), .val (.ref b2), .val (.int v4_12), .unset]) (by rw [hv4_12]; rfl) ?_
    show Steps p.tables e below (T3.setTop (mkF m 14 #[.val (.ref p0), .val (.int (0 : Int32)), .val (.int (2 : Int32)), .val (.ref b2), .val (.int v4_12), .unset] [])) _
    refine XS.iload X3.here hx rfl (hb hby d6_14) rfl  ?_
    show Steps p.tables e below (T3.setTop (mkF m 16 #[.val (.ref p0), .val (.int (0 : Int32)), .val (.int (2 : Int32)), .val (.ref b2), .val (.int v4_12), .unset] [(.int v4_12)])) _
    refine XS.iloadN X3.here hx rfl (hb hby d6_16) rfl  ?_
    show Steps p.tables e below (T3.setTop (mkF m 17 #[.val (.ref p0), .val (.int (0 : Int32)), .val (.int (2 : Int32)), .val (.ref b2), .val (.int v4_12), .unset] [(.int (2 : Int32)), (.int v4_12)])) _
    refine XS.icmpYes X3.here hx rfl (pc0 := 17) (pc' := 57) rfl (hb hby d6_17) rfl (teq ((by rw [hv4_12]; rfl) : v4_12 = (2 : Int32))).1 (by decide) (by decide) ?_
    show Steps p.tables e below (T3.setTop (mkF m 57 #[.val (.ref p0), .val (.int (0 : Int32)), .val (.int (2 : Int32)), .val (.ref b2), .val (.int v4_12), .unset] [])) _
    refine XS.aloadN X3.here hx rfl (hb hby d6_57) rfl rfl ?_
    show Steps p.tables e below (T3.setTop (mkF m 58 #[.val (.ref p0), .val (.int (0 : Int32)), .val (.int (2 : Int32)), .val (.ref b2), .val (.int v4_12), .unset] [(.ref b2)])) _
    exact retOut X3 hx Bd.returns rfl (Or.inr (Or.inr (Or.inr (Or.inr ⟨rfl, rfl, rfl⟩)))) (hb hby d6_58) hr
  · show Q_6t2 Z p0 g_ h0 n0 _ T3.heap _
    have o1 := (by subst hv4_12; rfl : (f_7t2_1 g_ own_zI) = f_6t2_1 g_)
    have r1 := Q3_0
    rw [o1] at r1
    exact ⟨b2, rfl, N3, sz_b2, K3, r1⟩
theorem ef_4t2 (m : MethodId) (p0 : Addr) (p1 : Addr) : entryFrame m #[(.ref p0), (.ref p1), (.int (0 : Int32)), (.int (2 : Int32)), .null] 6 = mkF m 0 #[.val (.ref p0), .val (.ref p1), .val (.int (0 : Int32)), .val (.int (2 : Int32)), .val .null, .unset] [] := by first | (simp [entryFrame, mkF, argsToLocals, Value.category]; done) | rfl
def f_4t2_1 (g_ : Nat → Int32) (cs_ : Int32) : Int32 := (nar .byte (f_8t2 (f_6t2_1 g_)))
def f_4t2_2 (g_ : Nat → Int32) (cs_ : Int32) : Nat → Int32 := (f_6t2_1 g_)
def Q_4t2 (Z : State) (p0 : Addr) (p1 : Addr) (g_ : Nat → Int32) (cs_ : Int32) (h0 : Heap) (n0 : Nat) (v : Option Value) (h : Heap) (L : List Loc) : Prop := ∃ w : Addr, v = none ∧ Fr n0 L ∧ h0.size ≤ w ∧ Keep h0 h [p0] ∧ Exa Z h p0 "java/lang/String" ∧ Fld Z h p0 "java/lang/String" "value" "[B" (.ref w) ∧ Fld Z h p0 "java/lang/String" "coder" "B" (.int (f_4t2_1 g_ cs_)) ∧ own_A Z h w .byte 2 (fun i => .int ((f_4t2_2 g_ cs_) i))
set_option maxRecDepth 65536 in
set_option maxHeartbeats 40000000 in
theorem rm_4t2 (l : Launch) (Z : State) (a0 : Array Value) (hw : ∀ d ∈ tables_1, d.before a0 Z = true) (ws : List Jvm.Cond) (p0 : Addr) (p1 : Addr) (g_ : Nat → Int32) (cs_ : Int32) (h0 : Heap) (n0 : Nat) (Z0 : n0 ≤ h0.size) (E_p0 : Exa Z h0 p0 "java/lang/String") (F_p0_value : Fld Z h0 p0 "java/lang/String" "value" "[B" .null) (F_p0_coder : Fld Z h0 p0 "java/lang/String" "coder" "B" (.int (0 : Int32))) (ge_p0 : n0 ≤ p0) (A_p1 : own_A Z h0 p1 .char 2 (fun i => .int (g_ i))) (ne_p0_p1 : p0 ≠ p1) (S_COMPACT_STRINGS : Sta Z h0 "java/lang/String" "COMPACT_STRINGS" "Z" (.int cs_)) (hcs : ¬ (cs_ = (0 : Int32))) (hc0_ : ¬ ((255 : Int32) < (g_ 0))) (hc1_ : ¬ ((255 : Int32) < (g_ 1))) :
    MetFree l (⟨"java/lang/String", "<init>", "([CIILjava/lang/Void;)V"⟩ : MethodName) (head1 (Jvm.Cond.code (⟨"java/lang/String", "<init>", "([CIILjava/lang/Void;)V"⟩ : MethodName) jdk_42_method_149_code 6 none :: ws) ({ frames := 2, cells := 1, slots := 2, locals := 35 } : Room)) (fun a U => a = #[(.ref p0), (.ref p1), (.int (0 : Int32)), (.int (2 : Int32)), .null] ∧ Z.Warmed39 U.vm ∧ U.heap = h0) (fun _ _ _ _ _ => True) (fun _ U o U' => ∃ v L, o = .returned v ∧ Q_4t2 Z p0 p1 g_ cs_ h0 n0 v U'.heap L ∧ FrameEnd U o U' L ({ frames := 2, cells := 1, slots := 2, locals := 35 } : Room).cells ({ frames := 2, cells := 1, slots := 2, locals := 35 } : Room).slots) := by
  refine MetFree.of_bodySF (plainFor_of_name pn_4) hisR ?_
  intro p e s m args below meth c s₁ Bd hml0 hP hK
  obtain ⟨rfl, hZ, hh⟩ := hP
  have hx := Bd.exec
  have hby := Bd.bytes
  have hml : c.maxLocals = 6 := hml0
  have hown : s.vm.findClass "java/lang/String" = some m.cls := findClass_of_methodNamed Bd.named
  have hnm := (name_of_methodNamed Bd.named Bd.method).1
  have X0 : Stand p l e ({ frames := 2, cells := 1, slots := 2, locals := 35 } : Room) s m #[(.ref p0), (.ref p1), (.int (0 : Int32)), (.int (2 : Int32)), .null] below meth c s₁ [] 0 0 := Stand.of_body Bd
  have e0 : s₁.heap = h0 := by rw [← hh, Bd.state]; rfl
  have N0 := Fr.nil n0
  have K0 : Keep h0 h0 [p0] := Keep.refl h0 _
  have pre0 : ∀ t, Steps p.tables e below (s₁.setTop (mkF m 0 #[.val (.ref p0), .val (.ref p1), .val (.int (0 : Int32)), .val (.int (2 : Int32)), .val .null, .unset] [])) t → Steps p.tables e below (s₁.setTop (entryFrame m #[(.ref p0), (.ref p1), (.int (0 : Int32)), (.int (2 : Int32)), .null] 6)) t := fun t k => castTop (ef_4t2 m p0 p1) k
  have pre1 : ∀ t, Steps p.tables e below (s₁.setTop (mkF m 1 #[.val (.ref p0), .val (.ref p1), .val (.int (0 : Int32)), .val (.int (2 : Int32)), .val .null, .unset] [(.ref p0)])) t → Steps p.tables e below (s₁.setTop (entryFrame m #[(.ref p0), (.ref p1), (.int (0 : Int32)), (.int (2 : Int32)), .null] 6)) t := by
    intro t k
    refine pre0 t ?_
    show Steps p.tables e below (s₁.setTop (mkF m 0 #[.val (.ref p0), .val (.ref p1), .val (.int (0 : Int32)), .val (.int (2 : Int32)), .val .null, .unset] [])) _
    refine XS.aloadN X0.here hx rfl (hb hby d4_0) rfl rfl ?_
    exact k
  obtain ⟨T2, X2, e2, st2⟩ := initO X0 hx hZ hown (hw _ (List.mem_of_getElem? (i := 20) rfl)) (hw _ (List.mem_of_getElem? (i := 21) rfl)) (hw _ (List.mem_of_getElem? (i := 22) rfl)) e0 (g := (mkF m 1 #[.val (.ref p0), .val (.ref p1), .val (.int (0 : Int32)), .val (.int (2 : Int32)), .val .null, .unset] [(.ref p0)])) rfl (by rw [hml]; rfl) rfl (hb hby d4_1) (by decide) (W := 0) (by show 2 * 0 + _ ≤ _; exact Nat.le_of_eq rfl) (by decide)
  have pre3 : ∀ t, Steps p.tables e below (T2.setTop (mkF m 27 #[.val (.ref p0), .val (.ref p1), .val (.int (0 : Int32)), .val (.int (2 : Int32)), .val .null, .unset] [])) t → Steps p.tables e below (s₁.setTop (entryFrame m #[(.ref p0), (.ref p1), (.int (0 : Int32)), (.int (2 : Int32)), .null] 6)) t := by
    intro t k
    refine pre1 t ?_
    show Steps p.tables e below (s₁.setTop (mkF m 1 #[.val (.ref p0), .val (.ref p1), .val (.int (0 : Int32)), .val (.int (2 : Int32)), .val .null, .unset] [(.ref p0)])) _
    refine st2 _ ?_
    show Steps p.tables e below (T2.setTop (mkF m 4 #[.val (.ref p0), .val (.ref p1), .val (.int (0 : Int32)), .val (.int (2 : Int32)), .val .null, .unset] [])) _
    refine XS.iloadN X2.here hx rfl (hb hby d4_4) rfl  ?_
    show Steps p.tables e below (T2.setTop (mkF m 5 #[.val (.ref p0), .val (.ref p1), .val (.int (0 : Int32)), .val (.int (2 : Int32)), .val .null, .unset] [(.int (2 : Int32))])) _
    refine XS.ifYes X2.here hx rfl (pc0 := 5) (pc' := 27) rfl (hb hby d4_5) rfl ((if0 _ _).trans (feq (by decide : ¬ ((2 : Int32) = (0 : Int32)))).2) (by decide) (by decide) ?_
    exact k
  obtain ⟨T4, X4, e4, st4⟩ := getS2 X2 hx hZ hown (host := "") (Or.inl (hw _ (List.mem_of_getElem? (i := 23) rfl))) Via.refl e2 S_COMPACT_STRINGS (g := (mkF m 27 #[.val (.ref p0), .val (.ref p1), .val (.int (0 : Int32)), .val (.int (2 : Int32)), .val .null, .unset] [])) rfl (hb hby d4_27)
  have pre6 : ∀ t, Steps p.tables e below (T4.setTop (mkF m 36 #[.val (.ref p0), .val (.ref p1), .val (.int (0 : Int32)), .val (.int (2 : Int32)), .val .null, .unset] [(.int (2 : Int32)), (.int (0 : Int32)), (.ref p1)])) t → Steps p.tables e below (s₁.setTop (entryFrame m #[(.ref p0), (.ref p1), (.int (0 : Int32)), (.int (2 : Int32)), .null] 6)) t := by
    intro t k
    refine pre3 t ?_
    show Steps p.tables e below (T2.setTop (mkF m 27 #[.val (.ref p0), .val (.ref p1), .val (.int (0 : Int32)), .val (.int (2 : Int32)), .val .null, .unset] [])) _
    refine st4 _ ?_
    show Steps p.tables e below (T4.setTop (mkF m 30 #[.val (.ref p0), .val (.ref p1), .val (.int (0 : Int32)), .val (.int (2 : Int32)), .val .null, .unset] [(.int cs_)])) _
    refine XS.ifNo X4.here hx rfl (hb hby d4_30) rfl ((if0 _ _).trans (feq (hcs : ¬ (cs_ = (0 : Int32)))).1) ?_
    show Steps p.tables e below (T4.setTop (mkF m 33 #[.val (.ref p0), .val (.ref p1), .val (.int (0 : Int32)), .val (.int (2 : Int32)), .val .null, .unset] [])) _
    refine XS.aloadN X4.here hx rfl (hb hby d4_33) rfl rfl ?_
    show Steps p.tables e below (T4.setTop (mkF m 34 #[.val (.ref p0), .val (.ref p1), .val (.int (0 : Int32)), .val (.int (2 : Int32)), .val .null, .unset] [(.ref p1)])) _
    refine XS.iloadN X4.here hx rfl (hb hby d4_34) rfl  ?_
    show Steps p.tables e below (T4.setTop (mkF m 35 #[.val (.ref p0), .val (.ref p1), .val (.int (0 : Int32)), .val (.int (2 : Int32)), .val .null, .unset] [(.int (0 : Int32)), (.ref p1)])) _
    refine XS.iloadN X4.here hx rfl (hb hby d4_35) rfl  ?_
    exact k
  obtain ⟨_, _, ⟨T5, L5, k5, n5⟩, -, X5, ⟨Lc5, hQ5, l5, y5, z5⟩, st5⟩ := Jvm.LawKit.callS X4 hx (y := (⟨"java/lang/StringUTF16", "compress", "([CII)[B"⟩ : MethodName)) hown (mvT hZ (hw _ (List.mem_of_getElem? (i := 24) rfl))) (mvT hZ (hw _ (List.mem_of_getElem? (i := 25) rfl))) (mvT hZ (hw _ (List.mem_of_getElem? (i := 26) rfl))) (mvT hZ (hw _ (List.mem_of_getElem? (i := 27) rfl))) (by decide) (backOf (W := 0) (rm_6t2 l Z a0 hw [] p1 g_ h0 n0 Z0 A_p1 hc0_ hc1_) hZ (hw _ (List.mem_of_getElem? (i := 27) rfl)) (hw _ (List.mem_of_getElem? (i := 26) rfl)) (by decide) (by decide)) (g := (mkF m 36 #[.val (.ref p0), .val (.ref p1), .val (.int (0 : Int32)), .val (.int (2 : Int32)), .val .null, .unset] [(.int (2 : Int32)), (.int (0 : Int32)), (.ref p1)])) rfl (by rw [hml]; rfl) (argsL := [(.ref p1), (.int (0 : Int32)), (.int (2 : Int32))]) (rest := []) (lenOf pd_1 rfl) rfl (by show 2 * 0 + _ ≤ _; exact Nat.le_of_eq rfl) (hb hby d4_36) (fun _ _ => ⟨rfl, e4, (by decide : 0 + 1 ≤ _), (by decide : 0 + 2 ≤ _)⟩)
  dsimp only [Pt.U, Pt.locs, Pt.cells, Pt.slots] at X5 l5 y5 z5 st5 hQ5
  rw [l5, y5, z5] at X5
  obtain ⟨r_5, rfl, N5q, sz0_r_5, Kc5, Q5_0⟩ := hQ5
  have Kd5 : Keep h0 T5.heap [] := Kc5
  have ne_p0_r_5 : p0 ≠ r_5 := Nat.ne_of_lt (Nat.lt_of_lt_of_le E_p0.lt sz0_r_5)
  have ne_p1_r_5 : p1 ≠ r_5 := Nat.ne_of_lt (Nat.lt_of_lt_of_le A_p1.lt sz0_r_5)
  have sz_r_5 : h0.size ≤ r_5 := Nat.le_trans K0.1 sz0_r_5
  have ge_r_5 : n0 ≤ r_5 := Nat.le_trans Z0 sz0_r_5
  have sta_java_lang_String_COMPACT_STRINGS_5 := own_sta_keep S_COMPACT_STRINGS Kd5 all0
  have exa_p0_5 := E_p0.keep Kd5
  have fld_p0_value_5 := F_p0_value.keep Kd5 nin0
  have fld_p0_coder_5 := F_p0_coder.keep Kd5 nin0
  have arr_p1_5 := A_p1.keep Kd5 nin0
  have K5 := K0.trans Kd5 all0
  have Z5 := Nat.le_trans Z0 Kd5.1
  have N5 := Fr.app N0 N5q
  have pre8 : ∀ t, Steps p.tables e below (T5.setTop (mkF m 45 #[.val (.ref p0), .val (.ref p1), .val (.int (0 : Int32)), .val (.int (2 : Int32)), .val .null, .val (.ref r_5)] [(.int (2 : Int32)), (.ref r_5), (.ref p0)])) t → Steps p.tables e below (s₁.setTop (entryFrame m #[(.ref p0), (.ref p1), (.int (0 : Int32)), (.int (2 : Int32)), .null] 6)) t := by
    intro t k
    refine pre6 t ?_
    show Steps p.tables e below (T4.setTop (mkF m 36 #[.val (.ref p0), .val (.ref p1), .val (.int (0 : Int32)), .val (.int (2 : Int32)), .val .null, .unset] [(.int (2 : Int32)), (.int (0 : Int32)), (.ref p1)])) _
    refine st5 _ ?_
    show Steps p.tables e below (T5.setTop (mkF m 39 #[.val (.ref p0), .val (.ref p1), .val (.int (0 : Int32)), .val (.int (2 : Int32)), .val .null, .unset] [(.ref r_5)])) _
    refine XS.astore X5.here hx rfl (hb hby d4_39) rfl rfl (l' := #[.val (.ref p0), .val (.ref p1), .val (.int (0 : Int32)), .val (.int (2 : Int32)), .val .null, .val (.ref r_5)]) rfl ?_
    show Steps p.tables e below (T5.setTop (mkF m 41 #[.val (.ref p0), .val (.ref p1), .val (.int (0 : Int32)), .val (.int (2 : Int32)), .val .null, .val (.ref r_5)] [])) _
    refine XS.aloadN X5.here hx rfl (hb hby d4_41) rfl rfl ?_
    show Steps p.tables e below (T5.setTop (mkF m 42 #[.val (.ref p0), .val (.ref p1), .val (.int (0 : Int32)), .val (.int (2 : Int32)), .val .null, .val (.ref r_5)] [(.ref p0)])) _
    refine XS.aload X5.here hx rfl (hb hby d4_42) rfl rfl ?_
    show Steps p.tables e below (T5.setTop (mkF m 44 #[.val (.ref p0), .val (.ref p1), .val (.int (0 : Int32)), .val (.int (2 : Int32)), .val .null, .val (.ref r_5)] [(.ref r_5), (.ref p0)])) _
    refine XS.iloadN X5.here hx rfl (hb hby d4_44) rfl  ?_
    exact k
  obtain ⟨_, _, ⟨T7, L7, k7, n7⟩, -, X7, ⟨Lc7, hQ7, l7, y7, z7⟩, st7⟩ := Jvm.LawKit.callS X5 hx (y := (⟨"java/lang/StringUTF16", "coderFromArrayLen", "([BI)B"⟩ : MethodName)) hown (mvT hZ (hw _ (List.mem_of_getElem? (i := 32) rfl))) (mvT hZ (hw _ (List.mem_of_getElem? (i := 33) rfl))) (mvT hZ (hw _ (List.mem_of_getElem? (i := 26) rfl))) (mvT hZ (hw _ (List.mem_of_getElem? (i := 34) rfl))) (by decide) (backOf (W := 1) (rm_8t2 l Z a0 hw [] r_5 (f_6t2_1 g_) T5.heap n0 Z5 Q5_0) hZ (hw _ (List.mem_of_getElem? (i := 34) rfl)) (hw _ (List.mem_of_getElem? (i := 26) rfl)) (by decide) (by decide)) (g := (mkF m 45 #[.val (.ref p0), .val (.ref p1), .val (.int (0 : Int32)), .val (.int (2 : Int32)), .val .null, .val (.ref r_5)] [(.int (2 : Int32)), (.ref r_5), (.ref p0)])) rfl (by rw [hml]; rfl) (argsL := [(.ref r_5), (.int (2 : Int32))]) (rest := [(.ref p0)]) (lenOf pd_2 rfl) rfl (by show 2 * 0 + _ ≤ _; exact Nat.le_of_eq rfl) (hb hby d4_45) (fun _ _ => ⟨rfl, rfl, (by decide : 1 + 0 ≤ _), (by decide : 2 + 0 ≤ _)⟩)
  dsimp only [Pt.U, Pt.locs, Pt.cells, Pt.slots] at X7 l7 y7 z7 st7 hQ7
  rw [l7, y7, z7] at X7
  obtain ⟨rfl, N7q, e7⟩ := hQ7
  have N7 := Fr.app N5 N7q
  have pre9 : ∀ t, Steps p.tables e below (T7.setTop (mkF m 48 #[.val (.ref p0), .val (.ref p1), .val (.int (0 : Int32)), .val (.int (2 : Int32)), .val .null, .val (.ref r_5)] [(.int (f_8t2 (f_6t2_1 g_))), (.ref p0)])) t → Steps p.tables e below (s₁.setTop (entryFrame m #[(.ref p0), (.ref p1), (.int (0 : Int32)), (.int (2 : Int32)), .null] 6)) t := by
    intro t k
    refine pre8 t ?_
    show Steps p.tables e below (T5.setTop (mkF m 45 #[.val (.ref p0), .val (.ref p1), .val (.int (0 : Int32)), .val (.int (2 : Int32)), .val .null, .val (.ref r_5)] [(.int (2 : Int32)), (.ref r_5), (.ref p0)])) _
    refine st7 _ ?_
    exact k
  obtain ⟨T10, h10, X10, e10, W10, st10⟩ := putFN X7 hx hZ hown (hw _ (List.mem_of_getElem? (i := 35) rfl)) Via.refl e7 fld_p0_coder_5 exa_p0_5 (Or.inr ⟨(hw _ (List.mem_of_getElem? (i := 36) rfl)), rfl, hnm⟩) (hw _ (List.mem_of_getElem? (i := 11) rfl)) (ty := .byte) (v' := .int (nar .byte (f_8t2 (f_6t2_1 g_)))) (by decide) rfl (fits_nar_byte _) (g := (mkF m 48 #[.val (.ref p0), .val (.ref p1), .val (.int (0 : Int32)), .val (.int (2 : Int32)), .val .null, .val (.ref r_5)] [(.int (f_8t2 (f_6t2_1 g_))), (.ref p0)])) rfl rfl (hb hby d4_48)
  have Fw10 := fld_p0_coder_5.same W10
  have sta_java_lang_String_COMPACT_STRINGS_10 := sta_java_lang_String_COMPACT_STRINGS_5.wr W10
  have exa_p0_10 := exa_p0_5.wr W10
  have fld_p0_value_10 := fld_p0_value_5.other W10 (Or.inr (slot_ne (Or.inr (hw _ (List.mem_of_getElem? (i := 38) rfl))) (Or.inr (hw _ (List.mem_of_getElem? (i := 36) rfl))) (by decide) (t := (.array .byte)) (t' := .byte) (by decide) (by decide)))
  have arr_p1_10 := arr_p1_5.other W10 ne_p0_p1.symm
  have arr_r_5_10 := Q5_0.other W10 ne_p0_r_5.symm
  have K10 := K5.wr W10 (Or.inl (List.mem_of_getElem? (i := 0) rfl))
  have Z10 := Nat.le_trans Z5 (Nat.le_of_eq W10.size.symm)
  have N10 := Fr.snoc X10 N7 ge_p0
  have pre11 : ∀ t, Steps p.tables e below (T10.setTop (mkF m 54 #[.val (.ref p0), .val (.ref p1), .val (.int (0 : Int32)), .val (.int (2 : Int32)), .val .null, .val (.ref r_5)] [(.ref r_5), (.ref p0)])) t → Steps p.tables e below (s₁.setTop (entryFrame m #[(.ref p0), (.ref p1), (.int (0 : Int32)), (.int (2 : Int32)), .null] 6)) t := by
    intro t k
    refine pre9 t ?_
    show Steps p.tables e below (T7.setTop (mkF m 48 #[.val (.ref p0), .val (.ref p1), .val (.int (0 : Int32)), .val (.int (2 : Int32)), .val .null, .val (.ref r_5)] [(.int (f_8t2 (f_6t2_1 g_))), (.ref p0)])) _
    refine st10 _ ?_
    show Steps p.tables e below (T10.setTop (mkF m 51 #[.val (.ref p0), .val (.ref p1), .val (.int (0 : Int32)), .val (.int (2 : Int32)), .val .null, .val (.ref r_5)] [])) _
    refine XS.aloadN X10.here hx rfl (hb hby d4_51) rfl rfl ?_
    show Steps p.tables e below (T10.setTop (mkF m 52 #[.val (.ref p0), .val (.ref p1), .val (.int (0 : Int32)), .val (.int (2 : Int32)), .val .null, .val (.ref r_5)] [(.ref p0)])) _
    refine XS.aload X10.here hx rfl (hb hby d4_52) rfl rfl ?_
    exact k
  obtain ⟨T12, h12, X12, e12, W12, st12⟩ := putF X10 hx hZ hown (host := "") (Or.inl (hw _ (List.mem_of_getElem? (i := 37) rfl))) Via.refl e10 fld_p0_value_10 exa_p0_10 (Or.inr ⟨(hw _ (List.mem_of_getElem? (i := 38) rfl)), rfl, hnm⟩) (hw _ (List.mem_of_getElem? (i := 11) rfl)) (ty := (.array .byte)) (by decide) rfl rfl (g := (mkF m 54 #[.val (.ref p0), .val (.ref p1), .val (.int (0 : Int32)), .val (.int (2 : Int32)), .val .null, .val (.ref r_5)] [(.ref r_5), (.ref p0)])) rfl rfl (hb hby d4_54)
  have Fw12 := fld_p0_value_10.same W12
  have sta_java_lang_String_COMPACT_STRINGS_12 := sta_java_lang_String_COMPACT_STRINGS_10.wr W12
  have exa_p0_12 := exa_p0_10.wr W12
  have fld_p0_coder_12 := Fw10.other W12 (Or.inr (slot_ne (Or.inr (hw _ (List.mem_of_getElem? (i := 36) rfl))) (Or.inr (hw _ (List.mem_of_getElem? (i := 38) rfl))) (by decide) (t := .byte) (t' := (.array .byte)) (by decide) (by decide)))
  have arr_p1_12 := arr_p1_10.other W12 ne_p0_p1.symm
  have arr_r_5_12 := arr_r_5_10.other W12 ne_p0_r_5.symm
  have K12 := K10.wr W12 (Or.inl (List.mem_of_getElem? (i := 0) rfl))
  have Z12 := Nat.le_trans Z10 (Nat.le_of_eq W12.size.symm)
  have N12 := Fr.snoc X12 N10 ge_p0
  obtain ⟨fs, hr, hrun, hended, hW, hsame⟩ := X12.leave (v := none) (fun _ => rfl) (BodyLoose.notSynchronized Bd)
  refine ⟨_, _, pre11 _ ?_, hrun, hended, _, _, rfl, ?_, ⟨_, rfl⟩, hW, hsame.mono (by decide) (by decide)⟩
  · show Steps p.tables e below (T10.setTop (mkF m 54 #[.val (.ref p0), .val (.ref p1), .val (.int (0 : Int32)), .val (.int (2 : Int32)), .val .null, .val (.ref r_5)] [(.ref r_5), (.ref p0)])) _
    refine st12 _ ?_
    show Steps p.tables e below (T12.setTop (mkF m 57 #[.val (.ref p0), .val (.ref p1), .val (.int (0 : Int32)), .val (.int (2 : Int32)), .val .null, .val (.ref r_5)] [])) _
    exact X12.returnOut hx Bd.returns (hb hby d4_57) hr
  · show Q_4t2 Z p0 p1 g_ cs_ h0 n0 _ T12.heap _
    rw [e12]
    have o1 := (by rfl : (nar .byte (f_8t2 (f_6t2_1 g_))) = f_4t2_1 g_ cs_)
    have r1 := fld_p0_coder_12
    rw [o1] at r1
    have o2 := (by rfl : (f_6t2_1 g_) = f_4t2_2 g_ cs_)
    have r2 := arr_r_5_12
    rw [o2] at r2
    exact ⟨r_5, rfl, N12, sz_r_5, K12, exa_p0_12, Fw12, r1, r2⟩
theorem ef_3t2 (m : MethodId) (p0 : Addr) (p1 : Addr) : entryFrame m #[(.ref p0), (.ref p1)] 2 = mkF m 0 #[.val (.ref p0), .val (.ref p1)] [] := by first | (simp [entryFrame, mkF, argsToLocals, Value.category]; done) | rfl
def f_3t2_1 (g_ : Nat → Int32) (cs_ : Int32) : Int32 := (f_4t2_1 g_ cs_)
def f_3t2_2 (g_ : Nat → Int32) (cs_ : Int32) : Nat → Int32 := (f_4t2_2 g_ cs_)
def Q_3t2 (Z : State) (p0 : Addr) (p1 : Addr) (g_ : Nat → Int32) (cs_ : Int32) (h0 : Heap) (n0 : Nat) (v : Option Value) (h : Heap) (L : List Loc) : Prop := ∃ w : Addr, v = none ∧ Fr n0 L ∧ h0.size ≤ w ∧ Keep h0 h [p0] ∧ Exa Z h p0 "java/lang/String" ∧ Fld Z h p0 "java/lang/String" "value" "[B" (.ref w) ∧ Fld Z h p0 "java/lang/String" "coder" "B" (.int (f_3t2_1 g_ cs_)) ∧ own_A Z h w .byte 2 (fun i => .int ((f_3t2_2 g_ cs_) i))
set_option maxRecDepth 65536 in
set_option maxHeartbeats 40000000 in
theorem rm_3t2 (l : Launch) (Z : State) (a0 : Array Value) (hw : ∀ d ∈ tables_1, d.before a0 Z = true) (ws : List Jvm.Cond) (p0 : Addr) (p1 : Addr) (g_ : Nat → Int32) (cs_ : Int32) (h0 : Heap) (n0 : Nat) (Z0 : n0 ≤ h0.size) (E_p0 : Exa Z h0 p0 "java/lang/String") (F_p0_value : Fld Z h0 p0 "java/lang/String" "value" "[B" .null) (F_p0_coder : Fld Z h0 p0 "java/lang/String" "coder" "B" (.int (0 : Int32))) (ge_p0 : n0 ≤ p0) (A_p1 : own_A Z h0 p1 .char 2 (fun i => .int (g_ i))) (ne_p0_p1 : p0 ≠ p1) (S_COMPACT_STRINGS : Sta Z h0 "java/lang/String" "COMPACT_STRINGS" "Z" (.int cs_)) (hcs : ¬ (cs_ = (0 : Int32))) (hc0_ : ¬ ((255 : Int32) < (g_ 0))) (hc1_ : ¬ ((255 : Int32) < (g_ 1))) :
    MetFree l (⟨"java/lang/String", "<init>", "([C)V"⟩ : MethodName) (head1 (Jvm.Cond.code (⟨"java/lang/String", "<init>", "([C)V"⟩ : MethodName) jdk_42_method_3_code 2 none :: ws) ({ frames := 3, cells := 1, slots := 2, locals := 52 } : Room)) (fun a U => a = #[(.ref p0), (.ref p1)] ∧ Z.Warmed39 U.vm ∧ U.heap = h0) (fun _ _ _ _ _ => True) (fun _ U o U' => ∃ v L, o = .returned v ∧ Q_3t2 Z p0 p1 g_ cs_ h0 n0 v U'.heap L ∧ FrameEnd U o U' L ({ frames := 3, cells := 1, slots := 2, locals := 52 } : Room).cells ({ frames := 3, cells := 1, slots := 2, locals := 52 } : Room).slots) := by
  refine MetFree.of_bodySF (plainFor_of_name pn_3) hisR ?_
  intro p e s m args below meth c s₁ Bd hml0 hP hK
  obtain ⟨rfl, hZ, hh⟩ := hP
  have hx := Bd.exec
  have hby := Bd.bytes
  have hml : c.maxLocals = 2 := hml0
  have hown : s.vm.findClass "java/lang/String" = some m.cls := findClass_of_methodNamed Bd.named
  have hnm := (name_of_methodNamed Bd.named Bd.method).1
  have X0 : Stand p l e ({ frames := 3, cells := 1, slots := 2, locals := 52 } : Room) s m #[(.ref p0), (.ref p1)] below meth c s₁ [] 0 0 := Stand.of_body Bd
  have e0 : s₁.heap = h0 := by rw [← hh, Bd.state]; rfl
  have N0 := Fr.nil n0
  have K0 : Keep h0 h0 [p0] := Keep.refl h0 _
  have pre0 : ∀ t, Steps p.tables e below (s₁.setTop (mkF m 0 #[.val (.ref p0), .val (.ref p1)] [])) t → Steps p.tables e below (s₁.setTop (entryFrame m #[(.ref p0), (.ref p1)] 2)) t := fun t k => castTop (ef_3t2 m p0 p1) k
  have pre2 : ∀ t, Steps p.tables e below (s₁.setTop (mkF m 6 #[.val (.ref p0), .val (.ref p1)] [.null, (.int (2 : Int32)), (.int (0 : Int32)), (.ref p1), (.ref p0)])) t → Steps p.tables e below (s₁.setTop (entryFrame m #[(.ref p0), (.ref p1)] 2)) t := by
    intro t k
    refine pre0 t ?_
    show Steps p.tables e below (s₁.setTop (mkF m 0 #[.val (.ref p0), .val (.ref p1)] [])) _
    refine XS.aloadN X0.here hx rfl (hb hby d3_0) rfl rfl ?_
    show Steps p.tables e below (s₁.setTop (mkF m 1 #[.val (.ref p0), .val (.ref p1)] [(.ref p0)])) _
    refine XS.aloadN X0.here hx rfl (hb hby d3_1) rfl rfl ?_
    show Steps p.tables e below (s₁.setTop (mkF m 2 #[.val (.ref p0), .val (.ref p1)] [(.ref p1), (.ref p0)])) _
    refine XS.iconst X0.here hx rfl (hb hby d3_2) ?_
    show Steps p.tables e below (s₁.setTop (mkF m 3 #[.val (.ref p0), .val (.ref p1)] [(.int (0 : Int32)), (.ref p1), (.ref p0)])) _
    refine XS.aloadN X0.here hx rfl (hb hby d3_3) rfl rfl ?_
    show Steps p.tables e below (s₁.setTop (mkF m 4 #[.val (.ref p0), .val (.ref p1)] [(.ref p1), (.int (0 : Int32)), (.ref p1), (.ref p0)])) _
    refine own_len X0 hx hZ e0 A_p1 (z := (2 : Int32)) rfl (g := (mkF m 4 #[.val (.ref p0), .val (.ref p1)] [(.ref p1), (.int (0 : Int32)), (.ref p1), (.ref p0)])) rfl rfl (hb hby d3_4) ?_
    show Steps p.tables e below (s₁.setTop (mkF m 5 #[.val (.ref p0), .val (.ref p1)] [(.int (2 : Int32)), (.int (0 : Int32)), (.ref p1), (.ref p0)])) _
    refine XS.aconstNull X0.here hx rfl (hb hby d3_5) ?_
    exact k
  obtain ⟨_, _, ⟨T1, L1, k1, n1⟩, -, X1, ⟨Lc1, hQ1, l1, y1, z1⟩, st1⟩ := X0.specialBack hx (y := (⟨"java/lang/String", "<init>", "([CIILjava/lang/Void;)V"⟩ : MethodName)) rfl hown (mvT hZ (hw _ (List.mem_of_getElem? (i := 16) rfl))) (mvT hZ (hw _ (List.mem_of_getElem? (i := 17) rfl))) (mvT hZ (hw _ (List.mem_of_getElem? (i := 19) rfl))) (by decide) (backOf (W := 0) (rm_4t2 l Z a0 hw [] p0 p1 g_ cs_ h0 n0 Z0 E_p0 F_p0_value F_p0_coder ge_p0 A_p1 ne_p0_p1 S_COMPACT_STRINGS hcs hc0_ hc1_) hZ (hw _ (List.mem_of_getElem? (i := 19) rfl)) (hw _ (List.mem_of_getElem? (i := 12) rfl)) (by decide) (by decide)) (g := (mkF m 6 #[.val (.ref p0), .val (.ref p1)] [.null, (.int (2 : Int32)), (.int (0 : Int32)), (.ref p1), (.ref p0)])) rfl (by rw [hml]; rfl) (Steps.refl _) (a := p0) (argsL := [(.ref p1), (.int (0 : Int32)), (.int (2 : Int32)), .null]) (rest := []) (lenOf pd_3 rfl) rfl (by show 2 * 0 + _ ≤ _; exact Nat.le_of_eq rfl) (hb hby d3_6) (fun _ _ => ⟨rfl, e0, (by decide : 0 + 1 ≤ _), (by decide : 0 + 2 ≤ _)⟩)
  dsimp only [Pt.U, Pt.locs, Pt.cells, Pt.slots] at X1 l1 y1 z1 st1 hQ1
  rw [l1, y1, z1] at X1
  obtain ⟨w_1, rfl, N1q, sz0_w_1, Kc1, Q1_0, Q1_1, Q1_2, Q1_3⟩ := hQ1
  have Kd1 : Keep h0 T1.heap [p0] := Kc1
  have ne_p0_w_1 : p0 ≠ w_1 := Nat.ne_of_lt (Nat.lt_of_lt_of_le E_p0.lt sz0_w_1)
  have ne_p1_w_1 : p1 ≠ w_1 := Nat.ne_of_lt (Nat.lt_of_lt_of_le A_p1.lt sz0_w_1)
  have sz_w_1 : h0.size ≤ w_1 := Nat.le_trans K0.1 sz0_w_1
  have ge_w_1 : n0 ≤ w_1 := Nat.le_trans Z0 sz0_w_1
  have sta_java_lang_String_COMPACT_STRINGS_1 := own_sta_keep S_COMPACT_STRINGS Kd1 (allS (own_E_plain E_p0) all0)
  have exa_p0_1 := E_p0.keep Kd1
  have arr_p1_1 := A_p1.keep Kd1 (ninS ne_p0_p1.symm nin0)
  have K1 := K0.trans Kd1 (allS (Or.inl (List.mem_of_getElem? (i := 0) rfl)) all0)
  have Z1 := Nat.le_trans Z0 Kd1.1
  have N1 := Fr.app N0 N1q
  obtain ⟨fs, hr, hrun, hended, hW, hsame⟩ := X1.leave (v := none) (fun _ => rfl) (BodyLoose.notSynchronized Bd)
  refine ⟨_, _, pre2 _ ?_, hrun, hended, _, _, rfl, ?_, ⟨_, rfl⟩, hW, hsame.mono (by decide) (by decide)⟩
  · show Steps p.tables e below (s₁.setTop (mkF m 6 #[.val (.ref p0), .val (.ref p1)] [.null, (.int (2 : Int32)), (.int (0 : Int32)), (.ref p1), (.ref p0)])) _
    refine st1.trans ?_
    show Steps p.tables e below (T1.setTop (mkF m 9 #[.val (.ref p0), .val (.ref p1)] [])) _
    exact X1.returnOut hx Bd.returns (hb hby d3_9) hr
  · show Q_3t2 Z p0 p1 g_ cs_ h0 n0 _ T1.heap _
    have o1 := (by rfl : (f_4t2_1 g_ cs_) = f_3t2_1 g_ cs_)
    have r1 := Q1_2
    rw [o1] at r1
    have o2 := (by rfl : (f_4t2_2 g_ cs_) = f_3t2_2 g_ cs_)
    have r2 := Q1_3
    rw [o2] at r2
    exact ⟨w_1, rfl, N1, sz_w_1, K1, Q1_0, Q1_1, r1, r2⟩
theorem ef_8t3 (m : MethodId) (p0 : Addr) : entryFrame m #[(.ref p0), (.int (3 : Int32))] 2 = mkF m 0 #[.val (.ref p0), .val (.int (3 : Int32))] [] := by first | (simp [entryFrame, mkF, argsToLocals, Value.category]; done) | rfl
def f_8t3 (d_ : Nat → Int32) : Int32 := (nar .byte (((((3 : Int32) - (3 : Int32)).toUInt32 >>> ((31 : Int32) &&& 31).toUInt32).toInt32).toInt8.toInt32))
def Q_8t3 (Z : State) (p0 : Addr) (d_ : Nat → Int32) (h0 : Heap) (n0 : Nat) (v : Option Value) (h : Heap) (L : List Loc) : Prop := v = some (.int (f_8t3 d_)) ∧ Fr n0 L ∧ h = h0
set_option maxRecDepth 65536 in
set_option maxHeartbeats 40000000 in
theorem rm_8t3 (l : Launch) (Z : State) (a0 : Array Value) (hw : ∀ d ∈ tables_1, d.before a0 Z = true) (ws : List Jvm.Cond) (p0 : Addr) (d_ : Nat → Int32) (h0 : Heap) (n0 : Nat) (Z0 : n0 ≤ h0.size) (A_p0 : own_A Z h0 p0 .byte 3 (fun i => .int (d_ i))) :
    MetFree l (⟨"java/lang/StringUTF16", "coderFromArrayLen", "([BI)B"⟩ : MethodName) (head1 (Jvm.Cond.code (⟨"java/lang/StringUTF16", "coderFromArrayLen", "([BI)B"⟩ : MethodName) jdk_52_method_15_code 2 (some .byte) :: ws) ({ frames := 0, cells := 0, slots := 0, locals := 0 } : Room)) (fun a U => a = #[(.ref p0), (.int (3 : Int32))] ∧ Z.Warmed39 U.vm ∧ U.heap = h0) (fun _ _ _ _ _ => True) (fun _ U o U' => ∃ v L, o = .returned v ∧ Q_8t3 Z p0 d_ h0 n0 v U'.heap L ∧ FrameEnd U o U' L ({ frames := 0, cells := 0, slots := 0, locals := 0 } : Room).cells ({ frames := 0, cells := 0, slots := 0, locals := 0 } : Room).slots) := by
  refine MetFree.of_bodySF (plainFor_of_name pn_8) hisR ?_
  intro p e s m args below meth c s₁ Bd hml0 hP hK
  obtain ⟨rfl, hZ, hh⟩ := hP
  have hx := Bd.exec
  have hby := Bd.bytes
  have hml : c.maxLocals = 2 := hml0
  have hown : s.vm.findClass "java/lang/StringUTF16" = some m.cls := findClass_of_methodNamed Bd.named
  have hnm := (name_of_methodNamed Bd.named Bd.method).1
  have X0 : Stand p l e ({ frames := 0, cells := 0, slots := 0, locals := 0 } : Room) s m #[(.ref p0), (.int (3 : Int32))] below meth c s₁ [] 0 0 := Stand.of_body Bd
  have e0 : s₁.heap = h0 := by rw [← hh, Bd.state]; rfl
  have N0 := Fr.nil n0
  have K0 : Keep h0 h0 [] := Keep.refl h0 _
  have pre0 : ∀ t, Steps p.tables e below (s₁.setTop (mkF m 0 #[.val (.ref p0), .val (.int (3 : Int32))] [])) t → Steps p.tables e below (s₁.setTop (entryFrame m #[(.ref p0), (.int (3 : Int32))] 2)) t := fun t k => castTop (ef_8t3 m p0) k
  obtain ⟨fs, hr, hrun, hended, hW, hsame⟩ := X0.leave (v := some (.int (nar .byte (((((3 : Int32) - (3 : Int32)).toUInt32 >>> ((31 : Int32) &&& 31).toUInt32).toInt32).toInt8.toInt32)))) (fun h => by rw [Bd.returns] at h; cases h) (BodyLoose.notSynchronized Bd)
  refine ⟨_, _, pre0 _ ?_, hrun, hended, _, _, rfl, ?_, ⟨_, rfl⟩, hW, hsame.mono (by decide) (by decide)⟩
  · show Steps p.tables e below (s₁.setTop (mkF m 0 #[.val (.ref p0), .val (.int (3 : Int32))] [])) _
    refine XS.iloadN X0.here hx rfl (hb hby d8_0) rfl  ?_
    show Steps p.tables e below (s₁.setTop (mkF m 1 #[.val (.ref p0), .val (.int (3 : Int32))] [(.int (3 : Int32))])) _
    refine XS.aloadN X0.here hx rfl (hb hby d8_1) rfl rfl ?_
    show Steps p.tables e below (s₁.setTop (mkF m 2 #[.val (.ref p0), .val (.int (3 : Int32))] [(.ref p0), (.int (3 : Int32))])) _
    refine own_len X0 hx hZ e0 A_p0 (z := (3 : Int32)) rfl (g := (mkF m 2 #[.val (.ref p0), .val (.int (3 : Int32))] [(.ref p0), (.int (3 : Int32))])) rfl rfl (hb hby d8_2) ?_
    show Steps p.tables e below (s₁.setTop (mkF m 3 #[.val (.ref p0), .val (.int (3 : Int32))] [(.int (3 : Int32)), (.int (3 : Int32))])) _
    refine XS.isub X0.here hx rfl (hb hby d8_3) rfl ?_
    show Steps p.tables e below (s₁.setTop (mkF m 4 #[.val (.ref p0), .val (.int (3 : Int32))] [(.int ((3 : Int32) - (3 : Int32)))])) _
    refine XS.bipush X0.here hx rfl (hb hby d8_4) ?_
    show Steps p.tables e below (s₁.setTop (mkF m 6 #[.val (.ref p0), .val (.int (3 : Int32))] [(.int (31 : Int32)), (.int ((3 : Int32) - (3 : Int32)))])) _
    refine XS.iushr X0.here hx rfl (hb hby d8_6) rfl ?_
    show Steps p.tables e below (s₁.setTop (mkF m 7 #[.val (.ref p0), .val (.int (3 : Int32))] [(.int ((((3 : Int32) - (3 : Int32)).toUInt32 >>> ((31 : Int32) &&& 31).toUInt32).toInt32))])) _
    refine XS.i2b X0.here hx rfl (hb hby d8_7) rfl ?_
    show Steps p.tables e below (s₁.setTop (mkF m 8 #[.val (.ref p0), .val (.int (3 : Int32))] [(.int (((((3 : Int32) - (3 : Int32)).toUInt32 >>> ((31 : Int32) &&& 31).toUInt32).toInt32).toInt8.toInt32))])) _
    exact retN X0 hx (t := .byte) Bd.returns (by simp) (hb hby d8_8) hr
  · show Q_8t3 Z p0 d_ h0 n0 _ s₁.heap _
    rw [e0]
    exact ⟨congrArg (fun z => some (Value.int z)) (by rfl : (nar .byte (((((3 : Int32) - (3 : Int32)).toUInt32 >>> ((31 : Int32) &&& 31).toUInt32).toInt32).toInt8.toInt32)) = f_8t3 d_), N0, rfl⟩
theorem ef_7t3 (m : MethodId) (p0 : Addr) (p2 : Addr) : entryFrame m #[(.ref p0), (.int (0 : Int32)), (.ref p2), (.int (0 : Int32)), (.int (3 : Int32))] 7 = mkF m 0 #[.val (.ref p0), .val (.int (0 : Int32)), .val (.ref p2), .val (.int (0 : Int32)), .val (.int (3 : Int32)), .unset, .unset] [] := by first | (simp [entryFrame, mkF, argsToLocals, Value.category]; done) | rfl
def f_7t3 (g_ : Nat → Int32) (d_ : Nat → Int32) : Int32 := let v6_13 : Int32 := (g_ 0); let g_31 : Nat → Int32 := (own_upd d_ 0 (v6_13.toInt8.toInt32).toInt8.toInt32); let v6_13_3 : Int32 := (g_ 1); let g_31_5 : Nat → Int32 := (own_upd g_31 1 (v6_13_3.toInt8.toInt32).toInt8.toInt32); let v6_13_6 : Int32 := (g_ 2); let g_31_8 : Nat → Int32 := (own_upd g_31_5 2 (v6_13_6.toInt8.toInt32).toInt8.toInt32); (3 : Int32)
def f_7t3_1 (g_ : Nat → Int32) (d_ : Nat → Int32) : Nat → Int32 := let v6_13 : Int32 := (g_ 0); let g_31 : Nat → Int32 := (own_upd d_ 0 (v6_13.toInt8.toInt32).toInt8.toInt32); let v6_13_3 : Int32 := (g_ 1); let g_31_5 : Nat → Int32 := (own_upd g_31 1 (v6_13_3.toInt8.toInt32).toInt8.toInt32); let v6_13_6 : Int32 := (g_ 2); let g_31_8 : Nat → Int32 := (own_upd g_31_5 2 (v6_13_6.toInt8.toInt32).toInt8.toInt32); g_31_8
def Q_7t3 (Z : State) (p0 : Addr) (p2 : Addr) (g_ : Nat → Int32) (d_ : Nat → Int32) (h0 : Heap) (n0 : Nat) (v : Option Value) (h : Heap) (L : List Loc) : Prop := v = some (.int (f_7t3 g_ d_)) ∧ Fr n0 L ∧ Keep h0 h [p2] ∧ own_A Z h p2 .byte 3 (fun i => .int ((f_7t3_1 g_ d_) i))
set_option maxRecDepth 65536 in
set_option maxHeartbeats 40000000 in
theorem rm_7t3 (l : Launch) (Z : State) (a0 : Array Value) (hw : ∀ d ∈ tables_1, d.before a0 Z = true) (ws : List Jvm.Cond) (p0 : Addr) (p2 : Addr) (g_ : Nat → Int32) (d_ : Nat → Int32) (h0 : Heap) (n0 : Nat) (Z0 : n0 ≤ h0.size) (A_p0 : own_A Z h0 p0 .char 3 (fun i => .int (g_ i))) (A_p2 : own_A Z h0 p2 .byte 3 (fun i => .int (d_ i))) (ge_p2 : n0 ≤ p2) (ne_p0_p2 : p0 ≠ p2) (hc0_ : ¬ ((255 : Int32) < (g_ 0))) (hc1_ : ¬ ((255 : Int32) < (g_ 1))) (hc2_ : ¬ ((255 : Int32) < (g_ 2))) :
    MetFree l (⟨"java/lang/StringUTF16", "compress", "([CI[BII)I"⟩ : MethodName) (head1 (Jvm.Cond.code (⟨"java/lang/StringUTF16", "compress", "([CI[BII)I"⟩ : MethodName) jdk_52_method_21_code 7 (some .int) :: ws) ({ frames := 0, cells := 0, slots := 0, locals := 0 } : Room)) (fun a U => a = #[(.ref p0), (.int (0 : Int32)), (.ref p2), (.int (0 : Int32)), (.int (3 : Int32))] ∧ Z.Warmed39 U.vm ∧ U.heap = h0) (fun _ _ _ _ _ => True) (fun _ U o U' => ∃ v L, o = .returned v ∧ Q_7t3 Z p0 p2 g_ d_ h0 n0 v U'.heap L ∧ FrameEnd U o U' L ({ frames := 0, cells := 0, slots := 0, locals := 0 } : Room).cells ({ frames := 0, cells := 0, slots := 0, locals := 0 } : Room).slots) := by
  refine MetFree.of_bodySF (plainFor_of_name pn_7) hisR ?_
  intro p e s m args below meth c s₁ Bd hml0 hP hK
  obtain ⟨rfl, hZ, hh⟩ := hP
  have hx := Bd.exec
  have hby := Bd.bytes
  have hml : c.maxLocals = 7 := hml0
  have hown : s.vm.findClass "java/lang/StringUTF16" = some m.cls := findClass_of_methodNamed Bd.named
  have hnm := (name_of_methodNamed Bd.named Bd.method).1
  have X0 : Stand p l e ({ frames := 0, cells := 0, slots := 0, locals := 0 } : Room) s m #[(.ref p0), (.int (0 : Int32)), (.ref p2), (.int (0 : Int32)), (.int (3 : Int32))] below meth c s₁ [] 0 0 := Stand.of_body Bd
  have e0 : s₁.heap = h0 := by rw [← hh, Bd.state]; rfl
  have N0 := Fr.nil n0
  have K0 : Keep h0 h0 [p2] := Keep.refl h0 _
  have pre0 : ∀ t, Steps p.tables e below (s₁.setTop (mkF m 0 #[.val (.ref p0), .val (.int (0 : Int32)), .val (.ref p2), .val (.int (0 : Int32)), .val (.int (3 : Int32)), .unset, .unset] [])) t → Steps p.tables e below (s₁.setTop (entryFrame m #[(.ref p0), (.int (0 : Int32)), (.ref p2), (.int (0 : Int32)), (.int (3 : Int32))] 7)) t := fun t k => castTop (ef_7t3 m p0 p2) k
  obtain ⟨v6_13, hv6_13⟩ : ∃ z : Int32, z = (g_ 0) := ⟨_, rfl⟩
  have pre1 : ∀ t, Steps p.tables e below (s₁.setTop (mkF m 31 #[.val (.ref p0), .val (.int (0 : Int32)), .val (.ref p2), .val (.int (0 : Int32)), .val (.int (3 : Int32)), .val (.int (0 : Int32)), .val (.int v6_13)] [(.int (v6_13.toInt8.toInt32)), (.int (0 : Int32)), (.ref p2)])) t → Steps p.tables e below (s₁.setTop (entryFrame m #[(.ref p0), (.int (0 : Int32)), (.ref p2), (.int (0 : Int32)), (.int (3 : Int32))] 7)) t := by
    intro t k
    refine pre0 t ?_
    show Steps p.tables e below (s₁.setTop (mkF m 0 #[.val (.ref p0), .val (.int (0 : Int32)), .val (.ref p2), .val (.int (0 : Int32)), .val (.int (3 : Int32)), .unset, .unset] [])) _
    refine XS.iconst X0.here hx rfl (hb hby d7_0) ?_
    show Steps p.tables e below (s₁.setTop (mkF m 1 #[.val (.ref p0), .val (.int (0 : Int32)), .val (.ref p2), .val (.int (0 : Int32)), .val (.int (3 : Int32)), .unset, .unset] [(.int (0 : Int32))])) _
    refine XS.istore X0.here hx rfl (hb hby d7_1) rfl (l' := #[.val (.ref p0), .val (.int (0 : Int32)), .val (.ref p2), .val (.int (0 : Int32)), .val (.int (3 : Int32)), .val (.int (0 : Int32)), .unset]) rfl ?_
    show Steps p.tables e below (s₁.setTop (mkF m 3 #[.val (.ref p0), .val (.int (0 : Int32)), .val (.ref p2), .val (.int (0 : Int32)), .val (.int (3 : Int32)), .val (.int (0 : Int32)), .unset] [])) _
    refine XS.iload X0.here hx rfl (hb hby d7_3) rfl  ?_
    show Steps p.tables e below (s₁.setTop (mkF m 5 #[.val (.ref p0), .val (.int (0 : Int32)), .val (.ref p2), .val (.int (0 : Int32)), .val (.int (3 : Int32)), .val (.int (0 : Int32)), .unset] [(.int (0 : Int32))])) _
    refine XS.iload X0.here hx rfl (hb hby d7_5) rfl  ?_
    show Steps p.tables e below (s₁.setTop (mkF m 7 #[.val (.ref p0), .val (.int (0 : Int32)), .val (.ref p2), .val (.int (0 : Int32)), .val (.int (3 : Int32)), .val (.int (0 : Int32)), .unset] [(.int (3 : Int32)), (.int (0 : Int32))])) _
    refine XS.icmpNo X0.here hx rfl (hb hby d7_7) rfl (tlt (by decide : (0 : Int32) < (3 : Int32))).2.1 ?_
    show Steps p.tables e below (s₁.setTop (mkF m 10 #[.val (.ref p0), .val (.int (0 : Int32)), .val (.ref p2), .val (.int (0 : Int32)), .val (.int (3 : Int32)), .val (.int (0 : Int32)), .unset] [])) _
    refine XS.aloadN X0.here hx rfl (hb hby d7_10) rfl rfl ?_
    show Steps p.tables e below (s₁.setTop (mkF m 11 #[.val (.ref p0), .val (.int (0 : Int32)), .val (.ref p2), .val (.int (0 : Int32)), .val (.int (3 : Int32)), .val (.int (0 : Int32)), .unset] [(.ref p0)])) _
    refine XS.iloadN X0.here hx rfl (hb hby d7_11) rfl  ?_
    show Steps p.tables e below (s₁.setTop (mkF m 12 #[.val (.ref p0), .val (.int (0 : Int32)), .val (.ref p2), .val (.int (0 : Int32)), .val (.int (3 : Int32)), .val (.int (0 : Int32)), .unset] [(.int (0 : Int32)), (.ref p0)])) _
    refine own_ldC X0 hx hZ e0 A_p0 (j := (0 : Int32)) (k := 0) (by decide) (by decide) (by decide) (g := (mkF m 12 #[.val (.ref p0), .val (.int (0 : Int32)), .val (.ref p2), .val (.int (0 : Int32)), .val (.int (3 : Int32)), .val (.int (0 : Int32)), .unset] [(.int (0 : Int32)), (.ref p0)])) rfl rfl (hb hby d7_12) ?_
    show Steps p.tables e below (s₁.setTop (mkF m 13 #[.val (.ref p0), .val (.int (0 : Int32)), .val (.ref p2), .val (.int (0 : Int32)), .val (.int (3 : Int32)), .val (.int (0 : Int32)), .unset] [(.int (g_ 0))])) _
    refine XS.istore X0.here hx rfl (hb hby d7_13) rfl (l' := #[.val (.ref p0), .val (.int (0 : Int32)), .val (.ref p2), .val (.int (0 : Int32)), .val (.int (3 : Int32)), .val (.int (0 : Int32)), .val (.int v6_13)]) (by rw [hv6_13]; rfl) ?_
    show Steps p.tables e below (s₁.setTop (mkF m 15 #[.val (.ref p0), .val (.int (0 : Int32)), .val (.ref p2), .val (.int (0 : Int32)), .val (.int (3 : Int32)), .val (.int (0 : Int32)), .val (.int v6_13)] [])) _
    refine XS.iload X0.here hx rfl (hb hby d7_15) rfl  ?_
    show Steps p.tables e below (s₁.setTop (mkF m 17 #[.val (.ref p0), .val (.int (0 : Int32)), .val (.ref p2), .val (.int (0 : Int32)), .val (.int (3 : Int32)), .val (.int (0 : Int32)), .val (.int v6_13)] [(.int v6_13)])) _
    refine XS.sipush X0.here hx rfl (hb hby d7_17) ?_
    show Steps p.tables e below (s₁.setTop (mkF m 20 #[.val (.ref p0), .val (.int (0 : Int32)), .val (.ref p2), .val (.int (0 : Int32)), .val (.int (3 : Int32)), .val (.int (0 : Int32)), .val (.int v6_13)] [(.int (255 : Int32)), (.int v6_13)])) _
    refine XS.icmpYes X0.here hx rfl (pc0 := 20) (pc' := 26) rfl (hb hby d7_20) rfl (flt ((by rw [hv6_13]; exact hc0_) : ¬ ((255 : Int32) < v6_13))).2.2.2 (by decide) (by decide) ?_
    show Steps p.tables e below (s₁.setTop (mkF m 26 #[.val (.ref p0), .val (.int (0 : Int32)), .val (.ref p2), .val (.int (0 : Int32)), .val (.int (3 : Int32)), .val (.int (0 : Int32)), .val (.int v6_13)] [])) _
    refine XS.aloadN X0.here hx rfl (hb hby d7_26) rfl rfl ?_
    show Steps p.tables e below (s₁.setTop (mkF m 27 #[.val (.ref p0), .val (.int (0 : Int32)), .val (.ref p2), .val (.int (0 : Int32)), .val (.int (3 : Int32)), .val (.int (0 : Int32)), .val (.int v6_13)] [(.ref p2)])) _
    refine XS.iloadN X0.here hx rfl (hb hby d7_27) rfl  ?_
    show Steps p.tables e below (s₁.setTop (mkF m 28 #[.val (.ref p0), .val (.int (0 : Int32)), .val (.ref p2), .val (.int (0 : Int32)), .val (.int (3 : Int32)), .val (.int (0 : Int32)), .val (.int v6_13)] [(.int (0 : Int32)), (.ref p2)])) _
    refine XS.iload X0.here hx rfl (hb hby d7_28) rfl  ?_
    show Steps p.tables e below (s₁.setTop (mkF m 30 #[.val (.ref p0), .val (.int (0 : Int32)), .val (.ref p2), .val (.int (0 : Int32)), .val (.int (3 : Int32)), .val (.int (0 : Int32)), .val (.int v6_13)] [(.int v6_13), (.int (0 : Int32)), (.ref p2)])) _
    refine XS.i2b X0.here hx rfl (hb hby d7_30) rfl ?_
    exact k
  obtain ⟨T2, h2, X2, e2, W2, A2, st2⟩ := own_stB X0 hx hZ e0 A_p2 (j := (0 : Int32)) (x := (v6_13.toInt8.toInt32)) (k := 0) (by decide) (by decide) (by decide) (g := (mkF m 31 #[.val (.ref p0), .val (.int (0 : Int32)), .val (.ref p2), .val (.int (0 : Int32)), .val (.int (3 : Int32)), .val (.int (0 : Int32)), .val (.int v6_13)] [(.int (v6_13.toInt8.toInt32)), (.int (0 : Int32)), (.ref p2)])) rfl rfl (hb hby d7_31)
  obtain ⟨g_31, hg_31⟩ : ∃ z : Nat → Int32, z = (own_upd d_ 0 (v6_13.toInt8.toInt32).toInt8.toInt32) := ⟨_, rfl⟩
  rw [← hg_31] at A2
  have arr_p0_2 := A_p0.other W2 ne_p0_p2
  have K2 := K0.wr W2 (Or.inl (List.mem_of_getElem? (i := 0) rfl))
  have Z2 := Nat.le_trans Z0 (Nat.le_of_eq W2.size.symm)
  have N2 := Fr.snoc X2 N0 ge_p2
  obtain ⟨v6_13_3, hv6_13_3⟩ : ∃ z : Int32, z = (g_ 1) := ⟨_, rfl⟩
  have pre4 : ∀ t, Steps p.tables e below (T2.setTop (mkF m 31 #[.val (.ref p0), .val (.int (1 : Int32)), .val (.ref p2), .val (.int (1 : Int32)), .val (.int (3 : Int32)), .val (.int (1 : Int32)), .val (.int v6_13_3)] [(.int (v6_13_3.toInt8.toInt32)), (.int (1 : Int32)), (.ref p2)])) t → Steps p.tables e below (s₁.setTop (entryFrame m #[(.ref p0), (.int (0 : Int32)), (.ref p2), (.int (0 : Int32)), (.int (3 : Int32))] 7)) t := by
    intro t k
    refine pre1 t ?_
    show Steps p.tables e below (s₁.setTop (mkF m 31 #[.val (.ref p0), .val (.int (0 : Int32)), .val (.ref p2), .val (.int (0 : Int32)), .val (.int (3 : Int32)), .val (.int (0 : Int32)), .val (.int v6_13)] [(.int (v6_13.toInt8.toInt32)), (.int (0 : Int32)), (.ref p2)])) _
    refine st2 _ ?_
    show Steps p.tables e below (T2.setTop (mkF m 32 #[.val (.ref p0), .val (.int (0 : Int32)), .val (.ref p2), .val (.int (0 : Int32)), .val (.int (3 : Int32)), .val (.int (0 : Int32)), .val (.int v6_13)] [])) _
    refine XS.iinc X2.here hx rfl (hb hby d7_32) rfl (l' := #[.val (.ref p0), .val (.int (1 : Int32)), .val (.ref p2), .val (.int (0 : Int32)), .val (.int (3 : Int32)), .val (.int (0 : Int32)), .val (.int v6_13)]) rfl ?_
    show Steps p.tables e below (T2.setTop (mkF m 35 #[.val (.ref p0), .val (.int (1 : Int32)), .val (.ref p2), .val (.int (0 : Int32)), .val (.int (3 : Int32)), .val (.int (0 : Int32)), .val (.int v6_13)] [])) _
    refine XS.iinc X2.here hx rfl (hb hby d7_35) rfl (l' := #[.val (.ref p0), .val (.int (1 : Int32)), .val (.ref p2), .val (.int (1 : Int32)), .val (.int (3 : Int32)), .val (.int (0 : Int32)), .val (.int v6_13)]) rfl ?_
    show Steps p.tables e below (T2.setTop (mkF m 38 #[.val (.ref p0), .val (.int (1 : Int32)), .val (.ref p2), .val (.int (1 : Int32)), .val (.int (3 : Int32)), .val (.int (0 : Int32)), .val (.int v6_13)] [])) _
    refine XS.iinc X2.here hx rfl (hb hby d7_38) rfl (l' := #[.val (.ref p0), .val (.int (1 : Int32)), .val (.ref p2), .val (.int (1 : Int32)), .val (.int (3 : Int32)), .val (.int (1 : Int32)), .val (.int v6_13)]) rfl ?_
    show Steps p.tables e below (T2.setTop (mkF m 41 #[.val (.ref p0), .val (.int (1 : Int32)), .val (.ref p2), .val (.int (1 : Int32)), .val (.int (3 : Int32)), .val (.int (1 : Int32)), .val (.int v6_13)] [])) _
    refine XS.goto X2.here hx rfl (pc0 := 41) (pc' := 3) rfl (hb hby d7_41) (by decide) (by decide) ?_
    show Steps p.tables e below (T2.setTop (mkF m 3 #[.val (.ref p0), .val (.int (1 : Int32)), .val (.ref p2), .val (.int (1 : Int32)), .val (.int (3 : Int32)), .val (.int (1 : Int32)), .val (.int v6_13)] [])) _
    refine XS.iload X2.here hx rfl (hb hby d7_3) rfl  ?_
    show Steps p.tables e below (T2.setTop (mkF m 5 #[.val (.ref p0), .val (.int (1 : Int32)), .val (.ref p2), .val (.int (1 : Int32)), .val (.int (3 : Int32)), .val (.int (1 : Int32)), .val (.int v6_13)] [(.int (1 : Int32))])) _
    refine XS.iload X2.here hx rfl (hb hby d7_5) rfl  ?_
    show Steps p.tables e below (T2.setTop (mkF m 7 #[.val (.ref p0), .val (.int (1 : Int32)), .val (.ref p2), .val (.int (1 : Int32)), .val (.int (3 : Int32)), .val (.int (1 : Int32)), .val (.int v6_13)] [(.int (3 : Int32)), (.int (1 : Int32))])) _
    refine XS.icmpNo X2.here hx rfl (hb hby d7_7) rfl (tlt (by decide : (1 : Int32) < (3 : Int32))).2.1 ?_
    show Steps p.tables e below (T2.setTop (mkF m 10 #[.val (.ref p0), .val (.int (1 : Int32)), .val (.ref p2), .val (.int (1 : Int32)), .val (.int (3 : Int32)), .val (.int (1 : Int32)), .val (.int v6_13)] [])) _
    refine XS.aloadN X2.here hx rfl (hb hby d7_10) rfl rfl ?_
    show Steps p.tables e below (T2.setTop (mkF m 11 #[.val (.ref p0), .val (.int (1 : Int32)), .val (.ref p2), .val (.int (1 : Int32)), .val (.int (3 : Int32)), .val (.int (1 : Int32)), .val (.int v6_13)] [(.ref p0)])) _
    refine XS.iloadN X2.here hx rfl (hb hby d7_11) rfl  ?_
    show Steps p.tables e below (T2.setTop (mkF m 12 #[.val (.ref p0), .val (.int (1 : Int32)), .val (.ref p2), .val (.int (1 : Int32)), .val (.int (3 : Int32)), .val (.int (1 : Int32)), .val (.int v6_13)] [(.int (1 : Int32)), (.ref p0)])) _
    refine own_ldC X2 hx hZ e2 arr_p0_2 (j := (1 : Int32)) (k := 1) (by decide) (by decide) (by decide) (g := (mkF m 12 #[.val (.ref p0), .val (.int (1 : Int32)), .val (.ref p2), .val (.int (1 : Int32)), .val (.int (3 : Int32)), .val (.int (1 : Int32)), .val (.int v6_13)] [(.int (1 : Int32)), (.ref p0)])) rfl rfl (hb hby d7_12) ?_
    show Steps p.tables e below (T2.setTop (mkF m 13 #[.val (.ref p0), .val (.int (1 : Int32)), .val (.ref p2), .val (.int (1 : Int32)), .val (.int (3 : Int32)), .val (.int (1 : Int32)), .val (.int v6_13)] [(.int (g_ 1))])) _
    refine XS.istore X2.here hx rfl (hb hby d7_13) rfl (l' := #[.val (.ref p0), .val (.int (1 : Int32)), .val (.ref p2), .val (.int (1 : Int32)), .val (.int (3 : Int32)), .val (.int (1 : Int32)), .val (.int v6_13_3)]) (by rw [hv6_13_3]; rfl) ?_
    show Steps p.tables e below (T2.setTop (mkF m 15 #[.val (.ref p0), .val (.int (1 : Int32)), .val (.ref p2), .val (.int (1 : Int32)), .val (.int (3 : Int32)), .val (.int (1 : Int32)), .val (.int v6_13_3)] [])) _
    refine XS.iload X2.here hx rfl (hb hby d7_15) rfl  ?_
    show Steps p.tables e below (T2.setTop (mkF m 17 #[.val (.ref p0), .val (.int (1 : Int32)), .val (.ref p2), .val (.int (1 : Int32)), .val (.int (3 : Int32)), .val (.int (1 : Int32)), .val (.int v6_13_3)] [(.int v6_13_3)])) _
    refine XS.sipush X2.here hx rfl (hb hby d7_17) ?_
    show Steps p.tables e below (T2.setTop (mkF m 20 #[.val (.ref p0), .val (.int (1 : Int32)), .val (.ref p2), .val (.int (1 : Int32)), .val (.int (3 : Int32)), .val (.int (1 : Int32)), .val (.int v6_13_3)] [(.int (255 : Int32)), (.int v6_13_3)])) _
    refine XS.icmpYes X2.here hx rfl (pc0 := 20) (pc' := 26) rfl (hb hby d7_20) rfl (flt ((by rw [hv6_13_3]; exact hc1_) : ¬ ((255 : Int32) < v6_13_3))).2.2.2 (by decide) (by decide) ?_
    show Steps p.tables e below (T2.setTop (mkF m 26 #[.val (.ref p0), .val (.int (1 : Int32)), .val (.ref p2), .val (.int (1 : Int32)), .val (.int (3 : Int32)), .val (.int (1 : Int32)), .val (.int v6_13_3)] [])) _
    refine XS.aloadN X2.here hx rfl (hb hby d7_26) rfl rfl ?_
    show Steps p.tables e below (T2.setTop (mkF m 27 #[.val (.ref p0), .val (.int (1 : Int32)), .val (.ref p2), .val (.int (1 : Int32)), .val (.int (3 : Int32)), .val (.int (1 : Int32)), .val (.int v6_13_3)] [(.ref p2)])) _
    refine XS.iloadN X2.here hx rfl (hb hby d7_27) rfl  ?_
    show Steps p.tables e below (T2.setTop (mkF m 28 #[.val (.ref p0), .val (.int (1 : Int32)), .val (.ref p2), .val (.int (1 : Int32)), .val (.int (3 : Int32)), .val (.int (1 : Int32)), .val (.int v6_13_3)] [(.int (1 : Int32)), (.ref p2)])) _
    refine XS.iload X2.here hx rfl (hb hby d7_28) rfl  ?_
    show Steps p.tables e below (T2.setTop (mkF m 30 #[.val (.ref p0), .val (.int (1 : Int32)), .val (.ref p2), .val (.int (1 : Int32)), .val (.int (3 : Int32)), .val (.int (1 : Int32)), .val (.int v6_13_3)] [(.int v6_13_3), (.int (1 : Int32)), (.ref p2)])) _
    refine XS.i2b X2.here hx rfl (hb hby d7_30) rfl ?_
    exact k
  obtain ⟨T5, h5, X5, e5, W5, A5, st5⟩ := own_stB X2 hx hZ e2 A2 (j := (1 : Int32)) (x := (v6_13_3.toInt8.toInt32)) (k := 1) (by decide) (by decide) (by decide) (g := (mkF m 31 #[.val (.ref p0), .val (.int (1 : Int32)), .val (.ref p2), .val (.int (1 : Int32)), .val (.int (3 : Int32)), .val (.int (1 : Int32)), .val (.int v6_13_3)] [(.int (v6_13_3.toInt8.toInt32)), (.int (1 : Int32)), (.ref p2)])) rfl rfl (hb hby d7_31)
  obtain ⟨g_31_5, hg_31_5⟩ : ∃ z : Nat → Int32, z = (own_upd g_31 1 (v6_13_3.toInt8.toInt32).toInt8.toInt32) := ⟨_, rfl⟩
  rw [← hg_31_5] at A5
  have arr_p0_5 := arr_p0_2.other W5 ne_p0_p2
  have K5 := K2.wr W5 (Or.inl (List.mem_of_getElem? (i := 0) rfl))
  have Z5 := Nat.le_trans Z2 (Nat.le_of_eq W5.size.symm)
  have N5 := Fr.snoc X5 N2 ge_p2
  obtain ⟨v6_13_6, hv6_13_6⟩ : ∃ z : Int32, z = (g_ 2) := ⟨_, rfl⟩
  have pre7 : ∀ t, Steps p.tables e below (T5.setTop (mkF m 31 #[.val (.ref p0), .val (.int (2 : Int32)), .val (.ref p2), .val (.int (2 : Int32)), .val (.int (3 : Int32)), .val (.int (2 : Int32)), .val (.int v6_13_6)] [(.int (v6_13_6.toInt8.toInt32)), (.int (2 : Int32)), (.ref p2)])) t → Steps p.tables e below (s₁.setTop (entryFrame m #[(.ref p0), (.int (0 : Int32)), (.ref p2), (.int (0 : Int32)), (.int (3 : Int32))] 7)) t := by
    intro t k
    refine pre4 t ?_
    show Steps p.tables e below (T2.setTop (mkF m 31 #[.val (.ref p0), .val (.int (1 : Int32)), .val (.ref p2), .val (.int (1 : Int32)), .val (.int (3 : Int32)), .val (.int (1 : Int32)), .val (.int v6_13_3)] [(.int (v6_13_3.toInt8.toInt32)), (.int (1 : Int32)), (.ref p2)])) _
    refine st5 _ ?_
    show Steps p.tables e below (T5.setTop (mkF m 32 #[.val (.ref p0), .val (.int (1 : Int32)), .val (.ref p2), .val (.int (1 : Int32)), .val (.int (3 : Int32)), .val (.int (1 : Int32)), .val (.int v6_13_3)] [])) _
    refine XS.iinc X5.here hx rfl (hb hby d7_32) rfl (l' := #[.val (.ref p0), .val (.int (2 : Int32)), .val (.ref p2), .val (.int (1 : Int32)), .val (.int (3 : Int32)), .val (.int (1 : Int32)), .val (.int v6_13_3)]) rfl ?_
    show Steps p.tables e below (T5.setTop (mkF m 35 #[.val (.ref p0), .val (.int (2 : Int32)), .val (.ref p2), .val (.int (1 : Int32)), .val (.int (3 : Int32)), .val (.int (1 : Int32)), .val (.int v6_13_3)] [])) _
    refine XS.iinc X5.here hx rfl (hb hby d7_35) rfl (l' := #[.val (.ref p0), .val (.int (2 : Int32)), .val (.ref p2), .val (.int (2 : Int32)), .val (.int (3 : Int32)), .val (.int (1 : Int32)), .val (.int v6_13_3)]) rfl ?_
    show Steps p.tables e below (T5.setTop (mkF m 38 #[.val (.ref p0), .val (.int (2 : Int32)), .val (.ref p2), .val (.int (2 : Int32)), .val (.int (3 : Int32)), .val (.int (1 : Int32)), .val (.int v6_13_3)] [])) _
    refine XS.iinc X5.here hx rfl (hb hby d7_38) rfl (l' := #[.val (.ref p0), .val (.int (2 : Int32)), .val (.ref p2), .val (.int (2 : Int32)), .val (.int (3 : Int32)), .val (.int (2 : Int32)), .val (.int v6_13_3)]) rfl ?_
    show Steps p.tables e below (T5.setTop (mkF m 41 #[.val (.ref p0), .val (.int (2 : Int32)), .val (.ref p2), .val (.int (2 : Int32)), .val (.int (3 : Int32)), .val (.int (2 : Int32)), .val (.int v6_13_3)] [])) _
    refine XS.goto X5.here hx rfl (pc0 := 41) (pc' := 3) rfl (hb hby d7_41) (by decide) (by decide) ?_
    show Steps p.tables e below (T5.setTop (mkF m 3 #[.val (.ref p0), .val (.int (2 : Int32)), .val (.ref p2), .val (.int (2 : Int32)), .val (.int (3 : Int32)), .val (.int (2 : Int32)), .val (.int v6_13_3)] [])) _
    refine XS.iload X5.here hx rfl (hb hby d7_3) rfl  ?_
    show Steps p.tables e below (T5.setTop (mkF m 5 #[.val (.ref p0), .val (.int (2 : Int32)), .val (.ref p2), .val (.int (2 : Int32)), .val (.int (3 : Int32)), .val (.int (2 : Int32)), .val (.int v6_13_3)] [(.int (2 : Int32))])) _
    refine XS.iload X5.here hx rfl (hb hby d7_5) rfl  ?_
    show Steps p.tables e below (T5.setTop (mkF m 7 #[.val (.ref p0), .val (.int (2 : Int32)), .val (.ref p2), .val (.int (2 : Int32)), .val (.int (3 : Int32)), .val (.int (2 : Int32)), .val (.int v6_13_3)] [(.int (3 : Int32)), (.int (2 : Int32))])) _
    refine XS.icmpNo X5.here hx rfl (hb hby d7_7) rfl (tlt (by decide : (2 : Int32) < (3 : Int32))).2.1 ?_
    show Steps p.tables e below (T5.setTop (mkF m 10 #[.val (.ref p0), .val (.int (2 : Int32)), .val (.ref p2), .val (.int (2 : Int32)), .val (.int (3 : Int32)), .val (.int (2 : Int32)), .val (.int v6_13_3)] [])) _
    refine XS.aloadN X5.here hx rfl (hb hby d7_10) rfl rfl ?_
    show Steps p.tables e below (T5.setTop (mkF m 11 #[.val (.ref p0), .val (.int (2 : Int32)), .val (.ref p2), .val (.int (2 : Int32)), .val (.int (3 : Int32)), .val (.int (2 : Int32)), .val (.int v6_13_3)] [(.ref p0)])) _
    refine XS.iloadN X5.here hx rfl (hb hby d7_11) rfl  ?_
    show Steps p.tables e below (T5.setTop (mkF m 12 #[.val (.ref p0), .val (.int (2 : Int32)), .val (.ref p2), .val (.int (2 : Int32)), .val (.int (3 : Int32)), .val (.int (2 : Int32)), .val (.int v6_13_3)] [(.int (2 : Int32)), (.ref p0)])) _
    refine own_ldC X5 hx hZ e5 arr_p0_5 (j := (2 : Int32)) (k := 2) (by decide) (by decide) (by decide) (g := (mkF m 12 #[.val (.ref p0), .val (.int (2 : Int32)), .val (.ref p2), .val (.int (2 : Int32)), .val (.int (3 : Int32)), .val (.int (2 : Int32)), .val (.int v6_13_3)] [(.int (2 : Int32)), (.ref p0)])) rfl rfl (hb hby d7_12) ?_
    show Steps p.tables e below (T5.setTop (mkF m 13 #[.val (.ref p0), .val (.int (2 : Int32)), .val (.ref p2), .val (.int (2 : Int32)), .val (.int (3 : Int32)), .val (.int (2 : Int32)), .val (.int v6_13_3)] [(.int (g_ 2))])) _
    refine XS.istore X5.here hx rfl (hb hby d7_13) rfl (l' := #[.val (.ref p0), .val (.int (2 : Int32)), .val (.ref p2), .val (.int (2 : Int32)), .val (.int (3 : Int32)), .val (.int (2 : Int32)), .val (.int v6_13_6)]) (by rw [hv6_13_6]; rfl) ?_
    show Steps p.tables e below (T5.setTop (mkF m 15 #[.val (.ref p0), .val (.int (2 : Int32)), .val (.ref p2), .val (.int (2 : Int32)), .val (.int (3 : Int32)), .val (.int (2 : Int32)), .val (.int v6_13_6)] [])) _
    refine XS.iload X5.here hx rfl (hb hby d7_15) rfl  ?_
    show Steps p.tables e below (T5.setTop (mkF m 17 #[.val (.ref p0), .val (.int (2 : Int32)), .val (.ref p2), .val (.int (2 : Int32)), .val (.int (3 : Int32)), .val (.int (2 : Int32)), .val (.int v6_13_6)] [(.int v6_13_6)])) _
    refine XS.sipush X5.here hx rfl (hb hby d7_17) ?_
    show Steps p.tables e below (T5.setTop (mkF m 20 #[.val (.ref p0), .val (.int (2 : Int32)), .val (.ref p2), .val (.int (2 : Int32)), .val (.int (3 : Int32)), .val (.int (2 : Int32)), .val (.int v6_13_6)] [(.int (255 : Int32)), (.int v6_13_6)])) _
    refine XS.icmpYes X5.here hx rfl (pc0 := 20) (pc' := 26) rfl (hb hby d7_20) rfl (flt ((by rw [hv6_13_6]; exact hc2_) : ¬ ((255 : Int32) < v6_13_6))).2.2.2 (by decide) (by decide) ?_
    show Steps p.tables e below (T5.setTop (mkF m 26 #[.val (.ref p0), .val (.int (2 : Int32)), .val (.ref p2), .val (.int (2 : Int32)), .val (.int (3 : Int32)), .val (.int (2 : Int32)), .val (.int v6_13_6)] [])) _
    refine XS.aloadN X5.here hx rfl (hb hby d7_26) rfl rfl ?_
    show Steps p.tables e below (T5.setTop (mkF m 27 #[.val (.ref p0), .val (.int (2 : Int32)), .val (.ref p2), .val (.int (2 : Int32)), .val (.int (3 : Int32)), .val (.int (2 : Int32)), .val (.int v6_13_6)] [(.ref p2)])) _
    refine XS.iloadN X5.here hx rfl (hb hby d7_27) rfl  ?_
    show Steps p.tables e below (T5.setTop (mkF m 28 #[.val (.ref p0), .val (.int (2 : Int32)), .val (.ref p2), .val (.int (2 : Int32)), .val (.int (3 : Int32)), .val (.int (2 : Int32)), .val (.int v6_13_6)] [(.int (2 : Int32)), (.ref p2)])) _
    refine XS.iload X5.here hx rfl (hb hby d7_28) rfl  ?_
    show Steps p.tables e below (T5.setTop (mkF m 30 #[.val (.ref p0), .val (.int (2 : Int32)), .val (.ref p2), .val (.int (2 : Int32)), .val (.int (3 : Int32)), .val (.int (2 : Int32)), .val (.int v6_13_6)] [(.int v6_13_6), (.int (2 : Int32)), (.ref p2)])) _
    refine XS.i2b X5.here hx rfl (hb hby d7_30) rfl ?_
    exact k
  obtain ⟨T8, h8, X8, e8, W8, A8, st8⟩ := own_stB X5 hx hZ e5 A5 (j := (2 : Int32)) (x := (v6_13_6.toInt8.toInt32)) (k := 2) (by decide) (by decide) (by decide) (g := (mkF m 31 #[.val (.ref p0), .val (.int (2 : Int32)), .val (.ref p2), .val (.int (2 : Int32)), .val (.int (3 : Int32)), .val (.int (2 : Int32)), .val (.int v6_13_6)] [(.int (v6_13_6.toInt8.toInt32)), (.int (2 : Int32)), (.ref p2)])) rfl rfl (hb hby d7_31)
  obtain ⟨g_31_8, hg_31_8⟩ : ∃ z : Nat → Int32, z = (own_upd g_31_5 2 (v6_13_6.toInt8.toInt32).toInt8.toInt32) := ⟨_, rfl⟩
  rw [← hg_31_8] at A8
  have arr_p0_8 := arr_p0_5.other W8 ne_p0_p2
  have K8 := K5.wr W8 (Or.inl (List.mem_of_getElem? (i := 0) rfl))
  have Z8 := Nat.le_trans Z5 (Nat.le_of_eq W8.size.symm)
  have N8 := Fr.snoc X8 N5 ge_p2
  obtain ⟨fs, hr, hrun, hended, hW, hsame⟩ := X8.leave (v := some (.int (3 : Int32))) (fun h => by rw [Bd.returns] at h; cases h) (BodyLoose.notSynchronized Bd)
  refine ⟨_, _, pre7 _ ?_, hrun, hended, _, _, rfl, ?_, ⟨_, rfl⟩, hW, hsame.mono (by decide) (by decide)⟩
  · show Steps p.tables e below (T5.setTop (mkF m 31 #[.val (.ref p0), .val (.int (2 : Int32)), .val (.ref p2), .val (.int (2 : Int32)), .val (.int (3 : Int32)), .val (.int (2 : Int32)), .val (.int v6_13_6)] [(.int (v6_13_6.toInt8.toInt32)), (.int (2 : Int32)), (.ref p2)])) _
    refine st8 _ ?_
    show Steps p.tables e below (T8.setTop (mkF m 32 #[.val (.ref p0), .val (.int (2 : Int32)), .val (.ref p2), .val (.int (2 : Int32)), .val (.int (3 : Int32)), .val (.int (2 : Int32)), .val (.int v6_13_6)] [])) _
    refine XS.iinc X8.here hx rfl (hb hby d7_32) rfl (l' := #[.val (.ref p0), .val (.int (3 : Int32)), .val (.ref p2), .val (.int (2 : Int32)), .val (.int (3 : Int32)), .val (.int (2 : Int32)), .val (.int v6_13_6)]) rfl ?_
    show Steps p.tables e below (T8.setTop (mkF m 35 #[.val (.ref p0), .val (.int (3 : Int32)), .val (.ref p2), .val (.int (2 : Int32)), .val (.int (3 : Int32)), .val (.int (2 : Int32)), .val (.int v6_13_6)] [])) _
    refine XS.iinc X8.here hx rfl (hb hby d7_35) rfl (l' := #[.val (.ref p0), .val (.int (3 : Int32)), .val (.ref p2), .val (.int (3 : Int32)), .val (.int (3 : Int32)), .val (.int (2 : Int32)), .val (.int v6_13_6)]) rfl ?_
    show Steps p.tables e below (T8.setTop (mkF m 38 #[.val (.ref p0), .val (.int (3 : Int32)), .val (.ref p2), .val (.int (3 : Int32)), .val (.int (3 : Int32)), .val (.int (2 : Int32)), .val (.int v6_13_6)] [])) _
    refine XS.iinc X8.here hx rfl (hb hby d7_38) rfl (l' := #[.val (.ref p0), .val (.int (3 : Int32)), .val (.ref p2), .val (.int (3 : Int32)), .val (.int (3 : Int32)), .val (.int (3 : Int32)), .val (.int v6_13_6)]) rfl ?_
    show Steps p.tables e below (T8.setTop (mkF m 41 #[.val (.ref p0), .val (.int (3 : Int32)), .val (.ref p2), .val (.int (3 : Int32)), .val (.int (3 : Int32)), .val (.int (3 : Int32)), .val (.int v6_13_6)] [])) _
    refine XS.goto X8.here hx rfl (pc0 := 41) (pc' := 3) rfl (hb hby d7_41) (by decide) (by decide) ?_
    show Steps p.tables e below (T8.setTop (mkF m 3 #[.val (.ref p0), .val (.int (3 : Int32)), .val (.ref p2), .val (.int (3 : Int32)), .val (.int (3 : Int32)), .val (.int (3 : Int32)), .val (.int v6_13_6)] [])) _
    refine XS.iload X8.here hx rfl (hb hby d7_3) rfl  ?_
    show Steps p.tables e below (T8.setTop (mkF m 5 #[.val (.ref p0), .val (.int (3 : Int32)), .val (.ref p2), .val (.int (3 : Int32)), .val (.int (3 : Int32)), .val (.int (3 : Int32)), .val (.int v6_13_6)] [(.int (3 : Int32))])) _
    refine XS.iload X8.here hx rfl (hb hby d7_5) rfl  ?_
    show Steps p.tables e below (T8.setTop (mkF m 7 #[.val (.ref p0), .val (.int (3 : Int32)), .val (.ref p2), .val (.int (3 : Int32)), .val (.int (3 : Int32)), .val (.int (3 : Int32)), .val (.int v6_13_6)] [(.int (3 : Int32)), (.int (3 : Int32))])) _
    refine XS.icmpYes X8.here hx rfl (pc0 := 7) (pc' := 44) rfl (hb hby d7_7) rfl (flt (by decide : ¬ ((3 : Int32) < (3 : Int32)))).2.1 (by decide) (by decide) ?_
    show Steps p.tables e below (T8.setTop (mkF m 44 #[.val (.ref p0), .val (.int (3 : Int32)), .val (.ref p2), .val (.int (3 : Int32)), .val (.int (3 : Int32)), .val (.int (3 : Int32)), .val (.int v6_13_6)] [])) _
    refine XS.iload X8.here hx rfl (hb hby d7_44) rfl  ?_
    show Steps p.tables e below (T8.setTop (mkF m 46 #[.val (.ref p0), .val (.int (3 : Int32)), .val (.ref p2), .val (.int (3 : Int32)), .val (.int (3 : Int32)), .val (.int (3 : Int32)), .val (.int v6_13_6)] [(.int (3 : Int32))])) _
    exact retI X8 hx Bd.returns (hb hby d7_46) hr
  · show Q_7t3 Z p0 p2 g_ d_ h0 n0 _ T8.heap _
    rw [e8]
    have o1 := (by subst hv6_13 hg_31 hv6_13_3 hg_31_5 hv6_13_6 hg_31_8; rfl : g_31_8 = f_7t3_1 g_ d_)
    have r1 := A8
    rw [o1] at r1
    exact ⟨congrArg (fun z => some (Value.int z)) (by subst hv6_13 hg_31 hv6_13_3 hg_31_5 hv6_13_6 hg_31_8; rfl : (3 : Int32) = f_7t3 g_ d_), N8, K8, r1⟩
theorem ef_6t3 (m : MethodId) (p0 : Addr) : entryFrame m #[(.ref p0), (.int (0 : Int32)), (.int (3 : Int32))] 6 = mkF m 0 #[.val (.ref p0), .val (.int (0 : Int32)), .val (.int (3 : Int32)), .unset, .unset, .unset] [] := by first | (simp [entryFrame, mkF, argsToLocals, Value.category]; done) | rfl
def f_6t3_1 (g_ : Nat → Int32) : Nat → Int32 := let v4_12 : Int32 := (f_7t3 g_ own_zI); (f_7t3_1 g_ own_zI)
def Q_6t3 (Z : State) (p0 : Addr) (g_ : Nat → Int32) (h0 : Heap) (n0 : Nat) (v : Option Value) (h : Heap) (L : List Loc) : Prop := ∃ r : Addr, v = some (.ref r) ∧ Fr n0 L ∧ h0.size ≤ r ∧ Keep h0 h [] ∧ own_A Z h r .byte 3 (fun i => .int ((f_6t3_1 g_) i))
set_option maxRecDepth 65536 in
set_option maxHeartbeats 40000000 in
theorem rm_6t3 (l : Launch) (Z : State) (a0 : Array Value) (hw : ∀ d ∈ tables_1, d.before a0 Z = true) (ws : List Jvm.Cond) (p0 : Addr) (g_ : Nat → Int32) (h0 : Heap) (n0 : Nat) (Z0 : n0 ≤ h0.size) (A_p0 : own_A Z h0 p0 .char 3 (fun i => .int (g_ i))) (hc0_ : ¬ ((255 : Int32) < (g_ 0))) (hc1_ : ¬ ((255 : Int32) < (g_ 1))) (hc2_ : ¬ ((255 : Int32) < (g_ 2))) :
    MetFree l (⟨"java/lang/StringUTF16", "compress", "([CII)[B"⟩ : MethodName) (head1 (Jvm.Cond.code (⟨"java/lang/StringUTF16", "compress", "([CII)[B"⟩ : MethodName) jdk_52_method_16_code 6 (some (.array .byte)) :: ws) ({ frames := 1, cells := 1, slots := 3, locals := 18 } : Room)) (fun a U => a = #[(.ref p0), (.int (0 : Int32)), (.int (3 : Int32))] ∧ Z.Warmed39 U.vm ∧ U.heap = h0) (fun _ _ _ _ _ => True) (fun _ U o U' => ∃ v L, o = .returned v ∧ Q_6t3 Z p0 g_ h0 n0 v U'.heap L ∧ FrameEnd U o U' L ({ frames := 1, cells := 1, slots := 3, locals := 18 } : Room).cells ({ frames := 1, cells := 1, slots := 3, locals := 18 } : Room).slots) := by
  refine MetFree.of_bodySF (plainFor_of_name pn_6) hisR ?_
  intro p e s m args below meth c s₁ Bd hml0 hP hK
  obtain ⟨rfl, hZ, hh⟩ := hP
  have hx := Bd.exec
  have hby := Bd.bytes
  have hml : c.maxLocals = 6 := hml0
  have hown : s.vm.findClass "java/lang/StringUTF16" = some m.cls := findClass_of_methodNamed Bd.named
  have hnm := (name_of_methodNamed Bd.named Bd.method).1
  have X0 : Stand p l e ({ frames := 1, cells := 1, slots := 3, locals := 18 } : Room) s m #[(.ref p0), (.int (0 : Int32)), (.int (3 : Int32))] below meth c s₁ [] 0 0 := Stand.of_body Bd
  have e0 : s₁.heap = h0 := by rw [← hh, Bd.state]; rfl
  have N0 := Fr.nil n0
  have K0 : Keep h0 h0 [] := Keep.refl h0 _
  have pre0 : ∀ t, Steps p.tables e below (s₁.setTop (mkF m 0 #[.val (.ref p0), .val (.int (0 : Int32)), .val (.int (3 : Int32)), .unset, .unset, .unset] [])) t → Steps p.tables e below (s₁.setTop (entryFrame m #[(.ref p0), (.int (0 : Int32)), (.int (3 : Int32))] 6)) t := fun t k => castTop (ef_6t3 m p0) k
  have pre1 : ∀ t, Steps p.tables e below (s₁.setTop (mkF m 1 #[.val (.ref p0), .val (.int (0 : Int32)), .val (.int (3 : Int32)), .unset, .unset, .unset] [(.int (3 : Int32))])) t → Steps p.tables e below (s₁.setTop (entryFrame m #[(.ref p0), (.int (0 : Int32)), (.int (3 : Int32))] 6)) t := by
    intro t k
    refine pre0 t ?_
    show Steps p.tables e below (s₁.setTop (mkF m 0 #[.val (.ref p0), .val (.int (0 : Int32)), .val (.int (3 : Int32)), .unset, .unset, .unset] [])) _
    refine XS.iloadN X0.here hx rfl (hb hby d6_0) rfl  ?_
    exact k
  obtain ⟨T2, h2, b2, gb2, X2, e2, E2, A2, st2⟩ := own_newP X0 hx hZ (hw _ (List.mem_of_getElem? (i := 28) rfl)) e0 (g := (mkF m 1 #[.val (.ref p0), .val (.int (0 : Int32)), .val (.int (3 : Int32)), .unset, .unset, .unset] [(.int (3 : Int32))])) rfl (hb hby d6_1) rfl (by decide) (n := 3) rfl (G := fun i => .int (own_zI i)) (fun _ => rfl) (cap := 3) (by decide) (by decide) (by decide) (by decide)
  have ne_p0_b2 : p0 ≠ b2 := Nat.ne_of_lt (Nat.lt_of_lt_of_le A_p0.lt (Nat.le_of_eq gb2.symm))
  have sz_b2 : h0.size ≤ b2 := Nat.le_trans K0.1 (Nat.le_of_eq gb2.symm)
  have ge_b2 : n0 ≤ b2 := Nat.le_trans Z0 (Nat.le_of_eq gb2.symm)
  have arr_p0_2 := A_p0.ext E2
  have K2 := K0.ext E2
  have Z2 := Nat.le_trans Z0 E2.1
  have pre4 : ∀ t, Steps p.tables e below (T2.setTop (mkF m 9 #[.val (.ref p0), .val (.int (0 : Int32)), .val (.int (3 : Int32)), .val (.ref b2), .unset, .unset] [(.int (3 : Int32)), (.int (0 : Int32)), (.ref b2), (.int (0 : Int32)), (.ref p0)])) t → Steps p.tables e below (s₁.setTop (entryFrame m #[(.ref p0), (.int (0 : Int32)), (.int (3 : Int32))] 6)) t := by
    intro t k
    refine pre1 t ?_
    show Steps p.tables e below (s₁.setTop (mkF m 1 #[.val (.ref p0), .val (.int (0 : Int32)), .val (.int (3 : Int32)), .unset, .unset, .unset] [(.int (3 : Int32))])) _
    refine st2 _ ?_
    show Steps p.tables e below (T2.setTop (mkF m 3 #[.val (.ref p0), .val (.int (0 : Int32)), .val (.int (3 : Int32)), .unset, .unset, .unset] [(.ref b2)])) _
    refine XS.astoreN X2.here hx rfl (hb hby d6_3) rfl rfl (l' := #[.val (.ref p0), .val (.int (0 : Int32)), .val (.int (3 : Int32)), .val (.ref b2), .unset, .unset]) rfl ?_
    show Steps p.tables e below (T2.setTop (mkF m 4 #[.val (.ref p0), .val (.int (0 : Int32)), .val (.int (3 : Int32)), .val (.ref b2), .unset, .unset] [])) _
    refine XS.aloadN X2.here hx rfl (hb hby d6_4) rfl rfl ?_
    show Steps p.tables e below (T2.setTop (mkF m 5 #[.val (.ref p0), .val (.int (0 : Int32)), .val (.int (3 : Int32)), .val (.ref b2), .unset, .unset] [(.ref p0)])) _
    refine XS.iloadN X2.here hx rfl (hb hby d6_5) rfl  ?_
    show Steps p.tables e below (T2.setTop (mkF m 6 #[.val (.ref p0), .val (.int (0 : Int32)), .val (.int (3 : Int32)), .val (.ref b2), .unset, .unset] [(.int (0 : Int32)), (.ref p0)])) _
    refine XS.aloadN X2.here hx rfl (hb hby d6_6) rfl rfl ?_
    show Steps p.tables e below (T2.setTop (mkF m 7 #[.val (.ref p0), .val (.int (0 : Int32)), .val (.int (3 : Int32)), .val (.ref b2), .unset, .unset] [(.ref b2), (.int (0 : Int32)), (.ref p0)])) _
    refine XS.iconst X2.here hx rfl (hb hby d6_7) ?_
    show Steps p.tables e below (T2.setTop (mkF m 8 #[.val (.ref p0), .val (.int (0 : Int32)), .val (.int (3 : Int32)), .val (.ref b2), .unset, .unset] [(.int (0 : Int32)), (.ref b2), (.int (0 : Int32)), (.ref p0)])) _
    refine XS.iloadN X2.here hx rfl (hb hby d6_8) rfl  ?_
    exact k
  obtain ⟨_, _, ⟨T3, L3, k3, n3⟩, -, X3, ⟨Lc3, hQ3, l3, y3, z3⟩, st3⟩ := Jvm.LawKit.callS X2 hx (y := (⟨"java/lang/StringUTF16", "compress", "([CI[BII)I"⟩ : MethodName)) hown (mvT hZ (hw _ (List.mem_of_getElem? (i := 29) rfl))) (mvT hZ (hw _ (List.mem_of_getElem? (i := 30) rfl))) (mvT hZ (hw _ (List.mem_of_getElem? (i := 26) rfl))) (mvT hZ (hw _ (List.mem_of_getElem? (i := 31) rfl))) (by decide) (backOf (W := 0) (rm_7t3 l Z a0 hw [] p0 b2 g_ own_zI h2 n0 Z2 arr_p0_2 A2 ge_b2 ne_p0_b2 hc0_ hc1_ hc2_) hZ (hw _ (List.mem_of_getElem? (i := 31) rfl)) (hw _ (List.mem_of_getElem? (i := 26) rfl)) (by decide) (by decide)) (g := (mkF m 9 #[.val (.ref p0), .val (.int (0 : Int32)), .val (.int (3 : Int32)), .val (.ref b2), .unset, .unset] [(.int (3 : Int32)), (.int (0 : Int32)), (.ref b2), (.int (0 : Int32)), (.ref p0)])) rfl (by rw [hml]; rfl) (argsL := [(.ref p0), (.int (0 : Int32)), (.ref b2), (.int (0 : Int32)), (.int (3 : Int32))]) (rest := []) (lenOf pd_0 rfl) rfl (by show 2 * 0 + _ ≤ _; exact Nat.le_of_eq rfl) (hb hby d6_9) (fun _ _ => ⟨rfl, e2, (by decide : 1 + 0 ≤ _), (by decide : 3 + 0 ≤ _)⟩)
  dsimp only [Pt.U, Pt.locs, Pt.cells, Pt.slots] at X3 l3 y3 z3 st3 hQ3
  rw [l3, y3, z3] at X3
  obtain ⟨rfl, N3q, Kc3, Q3_0⟩ := hQ3
  have Kd3 : Keep h2 T3.heap [b2] := Kc3
  have arr_p0_3 := arr_p0_2.keep Kd3 (ninS ne_p0_b2 nin0)
  have K3 := K2.trans Kd3 (allS (Or.inr sz_b2) all0)
  have Z3 := Nat.le_trans Z2 Kd3.1
  have N3 := Fr.app N0 N3q
  obtain ⟨v4_12, hv4_12⟩ : ∃ z : Int32, z = (f_7t3 g_ own_zI) := ⟨_, rfl⟩
  obtain ⟨fs, hr, hrun, hended, hW, hsame⟩ := X3.leave (v := some (.ref b2)) (fun h => by rw [Bd.returns] at h; cases h) (BodyLoose.notSynchronized Bd)
  refine ⟨_, _, pre4 _ ?_, hrun, hended, _, _, rfl, ?_, ⟨_, rfl⟩, hW, hsame.mono (by decide) (by decide)⟩
  · show Steps p.tables e below (T2.setTop (mkF m 9 #[.val (.ref p0), .val (.int (0 : Int32)), .val (.int (3 : Int32)), .val (.ref b2), .unset, .unset] [(.int (3 : Int32)), (.int (0 : Int32)), (.ref b2), (.int (0 : Int32)), (.ref p0)])) _
    refine st3 _ ?_
    show Steps p.tables e below (T3.setTop (mkF m 12 #[.val (.ref p0), .val (.int (0 : Int32)), .val (.int (3 : Int32)), .val (.ref b2), .unset, .unset] [(.int (f_7t3 g_ own_zI))])) _
    refine XS.istore X3.here hx rfl (hb hby d6_12) rfl (l' := #[.val (.ref p0), .val (.int (0 : Int32)), .val (.int (3 : Int32)), .val (.ref b2), .val (.int v4_12), .unset]) (by rw [hv4_12]; rfl) ?_
    show Steps p.tables e below (T3.setTop (mkF m 14 #[.val (.ref p0), .val (.int (0 : Int32)), .val (.int (3 : Int32)), .val (.ref b2), .val (.int v4_12), .unset] [])) _
    refine XS.iload X3.here hx rfl (hb hby d6_14) rfl  ?_
    show Steps p.tables e below (T3.setTop (mkF m 16 #[.val (.ref p0), .val (.int (0 : Int32)), .val (.int (3 : Int32)), .val (.ref b2), .val (.int v4_12), .unset] [(.int v4_12)])) _
    refine XS.iloadN X3.here hx rfl (hb hby d6_16) rfl  ?_
    show Steps p.tables e below (T3.setTop (mkF m 17 #[.val (.ref p0), .val (.int (0 : Int32)), .val (.int (3 : Int32)), .val (.ref b2), .val (.int v4_12), .unset] [(.int (3 : Int32)), (.int v4_12)])) _
    refine XS.icmpYes X3.here hx rfl (pc0 := 17) (pc' := 57) rfl (hb hby d6_17) rfl (teq ((by rw [hv4_12]; rfl) : v4_12 = (3 : Int32))).1 (by decide) (by decide) ?_
    show Steps p.tables e below (T3.setTop (mkF m 57 #[.val (.ref p0), .val (.int (0 : Int32)), .val (.int (3 : Int32)), .val (.ref b2), .val (.int v4_12), .unset] [])) _
    refine XS.aloadN X3.here hx rfl (hb hby d6_57) rfl rfl ?_
    show Steps p.tables e below (T3.setTop (mkF m 58 #[.val (.ref p0), .val (.int (0 : Int32)), .val (.int (3 : Int32)), .val (.ref b2), .val (.int v4_12), .unset] [(.ref b2)])) _
    exact retOut X3 hx Bd.returns rfl (Or.inr (Or.inr (Or.inr (Or.inr ⟨rfl, rfl, rfl⟩)))) (hb hby d6_58) hr
  · show Q_6t3 Z p0 g_ h0 n0 _ T3.heap _
    have o1 := (by subst hv4_12; rfl : (f_7t3_1 g_ own_zI) = f_6t3_1 g_)
    have r1 := Q3_0
    rw [o1] at r1
    exact ⟨b2, rfl, N3, sz_b2, K3, r1⟩
theorem ef_4t3 (m : MethodId) (p0 : Addr) (p1 : Addr) : entryFrame m #[(.ref p0), (.ref p1), (.int (0 : Int32)), (.int (3 : Int32)), .null] 6 = mkF m 0 #[.val (.ref p0), .val (.ref p1), .val (.int (0 : Int32)), .val (.int (3 : Int32)), .val .null, .unset] [] := by first | (simp [entryFrame, mkF, argsToLocals, Value.category]; done) | rfl
def f_4t3_1 (g_ : Nat → Int32) (cs_ : Int32) : Int32 := (nar .byte (f_8t3 (f_6t3_1 g_)))
def f_4t3_2 (g_ : Nat → Int32) (cs_ : Int32) : Nat → Int32 := (f_6t3_1 g_)
def Q_4t3 (Z : State) (p0 : Addr) (p1 : Addr) (g_ : Nat → Int32) (cs_ : Int32) (h0 : Heap) (n0 : Nat) (v : Option Value) (h : Heap) (L : List Loc) : Prop := ∃ w : Addr, v = none ∧ Fr n0 L ∧ h0.size ≤ w ∧ Keep h0 h [p0] ∧ Exa Z h p0 "java/lang/String" ∧ Fld Z h p0 "java/lang/String" "value" "[B" (.ref w) ∧ Fld Z h p0 "java/lang/String" "coder" "B" (.int (f_4t3_1 g_ cs_)) ∧ own_A Z h w .byte 3 (fun i => .int ((f_4t3_2 g_ cs_) i))
set_option maxRecDepth 65536 in
set_option maxHeartbeats 40000000 in
theorem rm_4t3 (l : Launch) (Z : State) (a0 : Array Value) (hw : ∀ d ∈ tables_1, d.before a0 Z = true) (ws : List Jvm.Cond) (p0 : Addr) (p1 : Addr) (g_ : Nat → Int32) (cs_ : Int32) (h0 : Heap) (n0 : Nat) (Z0 : n0 ≤ h0.size) (E_p0 : Exa Z h0 p0 "java/lang/String") (F_p0_value : Fld Z h0 p0 "java/lang/String" "value" "[B" .null) (F_p0_coder : Fld Z h0 p0 "java/lang/String" "coder" "B" (.int (0 : Int32))) (ge_p0 : n0 ≤ p0) (A_p1 : own_A Z h0 p1 .char 3 (fun i => .int (g_ i))) (ne_p0_p1 : p0 ≠ p1) (S_COMPACT_STRINGS : Sta Z h0 "java/lang/String" "COMPACT_STRINGS" "Z" (.int cs_)) (hcs : ¬ (cs_ = (0 : Int32))) (hc0_ : ¬ ((255 : Int32) < (g_ 0))) (hc1_ : ¬ ((255 : Int32) < (g_ 1))) (hc2_ : ¬ ((255 : Int32) < (g_ 2))) :
    MetFree l (⟨"java/lang/String", "<init>", "([CIILjava/lang/Void;)V"⟩ : MethodName) (head1 (Jvm.Cond.code (⟨"java/lang/String", "<init>", "([CIILjava/lang/Void;)V"⟩ : MethodName) jdk_42_method_149_code 6 none :: ws) ({ frames := 2, cells := 1, slots := 3, locals := 35 } : Room)) (fun a U => a = #[(.ref p0), (.ref p1), (.int (0 : Int32)), (.int (3 : Int32)), .null] ∧ Z.Warmed39 U.vm ∧ U.heap = h0) (fun _ _ _ _ _ => True) (fun _ U o U' => ∃ v L, o = .returned v ∧ Q_4t3 Z p0 p1 g_ cs_ h0 n0 v U'.heap L ∧ FrameEnd U o U' L ({ frames := 2, cells := 1, slots := 3, locals := 35 } : Room).cells ({ frames := 2, cells := 1, slots := 3, locals := 35 } : Room).slots) := by
  refine MetFree.of_bodySF (plainFor_of_name pn_4) hisR ?_
  intro p e s m args below meth c s₁ Bd hml0 hP hK
  obtain ⟨rfl, hZ, hh⟩ := hP
  have hx := Bd.exec
  have hby := Bd.bytes
  have hml : c.maxLocals = 6 := hml0
  have hown : s.vm.findClass "java/lang/String" = some m.cls := findClass_of_methodNamed Bd.named
  have hnm := (name_of_methodNamed Bd.named Bd.method).1
  have X0 : Stand p l e ({ frames := 2, cells := 1, slots := 3, locals := 35 } : Room) s m #[(.ref p0), (.ref p1), (.int (0 : Int32)), (.int (3 : Int32)), .null] below meth c s₁ [] 0 0 := Stand.of_body Bd
  have e0 : s₁.heap = h0 := by rw [← hh, Bd.state]; rfl
  have N0 := Fr.nil n0
  have K0 : Keep h0 h0 [p0] := Keep.refl h0 _
  have pre0 : ∀ t, Steps p.tables e below (s₁.setTop (mkF m 0 #[.val (.ref p0), .val (.ref p1), .val (.int (0 : Int32)), .val (.int (3 : Int32)), .val .null, .unset] [])) t → Steps p.tables e below (s₁.setTop (entryFrame m #[(.ref p0), (.ref p1), (.int (0 : Int32)), (.int (3 : Int32)), .null] 6)) t := fun t k => castTop (ef_4t3 m p0 p1) k
  have pre1 : ∀ t, Steps p.tables e below (s₁.setTop (mkF m 1 #[.val (.ref p0), .val (.ref p1), .val (.int (0 : Int32)), .val (.int (3 : Int32)), .val .null, .unset] [(.ref p0)])) t → Steps p.tables e below (s₁.setTop (entryFrame m #[(.ref p0), (.ref p1), (.int (0 : Int32)), (.int (3 : Int32)), .null] 6)) t := by
    intro t k
    refine pre0 t ?_
    show Steps p.tables e below (s₁.setTop (mkF m 0 #[.val (.ref p0), .val (.ref p1), .val (.int (0 : Int32)), .val (.int (3 : Int32)), .val .null, .unset] [])) _
    refine XS.aloadN X0.here hx rfl (hb hby d4_0) rfl rfl ?_
    exact k
  obtain ⟨T2, X2, e2, st2⟩ := initO X0 hx hZ hown (hw _ (List.mem_of_getElem? (i := 20) rfl)) (hw _ (List.mem_of_getElem? (i := 21) rfl)) (hw _ (List.mem_of_getElem? (i := 22) rfl)) e0 (g := (mkF m 1 #[.val (.ref p0), .val (.ref p1), .val (.int (0 : Int32)), .val (.int (3 : Int32)), .val .null, .unset] [(.ref p0)])) rfl (by rw [hml]; rfl) rfl (hb hby d4_1) (by decide) (W := 0) (by show 2 * 0 + _ ≤ _; exact Nat.le_of_eq rfl) (by decide)
  have pre3 : ∀ t, Steps p.tables e below (T2.setTop (mkF m 27 #[.val (.ref p0), .val (.ref p1), .val (.int (0 : Int32)), .val (.int (3 : Int32)), .val .null, .unset] [])) t → Steps p.tables e below (s₁.setTop (entryFrame m #[(.ref p0), (.ref p1), (.int (0 : Int32)), (.int (3 : Int32)), .null] 6)) t := by
    intro t k
    refine pre1 t ?_
    show Steps p.tables e below (s₁.setTop (mkF m 1 #[.val (.ref p0), .val (.ref p1), .val (.int (0 : Int32)), .val (.int (3 : Int32)), .val .null, .unset] [(.ref p0)])) _
    refine st2 _ ?_
    show Steps p.tables e below (T2.setTop (mkF m 4 #[.val (.ref p0), .val (.ref p1), .val (.int (0 : Int32)), .val (.int (3 : Int32)), .val .null, .unset] [])) _
    refine XS.iloadN X2.here hx rfl (hb hby d4_4) rfl  ?_
    show Steps p.tables e below (T2.setTop (mkF m 5 #[.val (.ref p0), .val (.ref p1), .val (.int (0 : Int32)), .val (.int (3 : Int32)), .val .null, .unset] [(.int (3 : Int32))])) _
    refine XS.ifYes X2.here hx rfl (pc0 := 5) (pc' := 27) rfl (hb hby d4_5) rfl ((if0 _ _).trans (feq (by decide : ¬ ((3 : Int32) = (0 : Int32)))).2) (by decide) (by decide) ?_
    exact k
  obtain ⟨T4, X4, e4, st4⟩ := getS2 X2 hx hZ hown (host := "") (Or.inl (hw _ (List.mem_of_getElem? (i := 23) rfl))) Via.refl e2 S_COMPACT_STRINGS (g := (mkF m 27 #[.val (.ref p0), .val (.ref p1), .val (.int (0 : Int32)), .val (.int (3 : Int32)), .val .null, .unset] [])) rfl (hb hby d4_27)
  have pre6 : ∀ t, Steps p.tables e below (T4.setTop (mkF m 36 #[.val (.ref p0), .val (.ref p1), .val (.int (0 : Int32)), .val (.int (3 : Int32)), .val .null, .unset] [(.int (3 : Int32)), (.int (0 : Int32)), (.ref p1)])) t → Steps p.tables e below (s₁.setTop (entryFrame m #[(.ref p0), (.ref p1), (.int (0 : Int32)), (.int (3 : Int32)), .null] 6)) t := by
    intro t k
    refine pre3 t ?_
    show Steps p.tables e below (T2.setTop (mkF m 27 #[.val (.ref p0), .val (.ref p1), .val (.int (0 : Int32)), .val (.int (3 : Int32)), .val .null, .unset] [])) _
    refine st4 _ ?_
    show Steps p.tables e below (T4.setTop (mkF m 30 #[.val (.ref p0), .val (.ref p1), .val (.int (0 : Int32)), .val (.int (3 : Int32)), .val .null, .unset] [(.int cs_)])) _
    refine XS.ifNo X4.here hx rfl (hb hby d4_30) rfl ((if0 _ _).trans (feq (hcs : ¬ (cs_ = (0 : Int32)))).1) ?_
    show Steps p.tables e below (T4.setTop (mkF m 33 #[.val (.ref p0), .val (.ref p1), .val (.int (0 : Int32)), .val (.int (3 : Int32)), .val .null, .unset] [])) _
    refine XS.aloadN X4.here hx rfl (hb hby d4_33) rfl rfl ?_
    show Steps p.tables e below (T4.setTop (mkF m 34 #[.val (.ref p0), .val (.ref p1), .val (.int (0 : Int32)), .val (.int (3 : Int32)), .val .null, .unset] [(.ref p1)])) _
    refine XS.iloadN X4.here hx rfl (hb hby d4_34) rfl  ?_
    show Steps p.tables e below (T4.setTop (mkF m 35 #[.val (.ref p0), .val (.ref p1), .val (.int (0 : Int32)), .val (.int (3 : Int32)), .val .null, .unset] [(.int (0 : Int32)), (.ref p1)])) _
    refine XS.iloadN X4.here hx rfl (hb hby d4_35) rfl  ?_
    exact k
  obtain ⟨_, _, ⟨T5, L5, k5, n5⟩, -, X5, ⟨Lc5, hQ5, l5, y5, z5⟩, st5⟩ := Jvm.LawKit.callS X4 hx (y := (⟨"java/lang/StringUTF16", "compress", "([CII)[B"⟩ : MethodName)) hown (mvT hZ (hw _ (List.mem_of_getElem? (i := 24) rfl))) (mvT hZ (hw _ (List.mem_of_getElem? (i := 25) rfl))) (mvT hZ (hw _ (List.mem_of_getElem? (i := 26) rfl))) (mvT hZ (hw _ (List.mem_of_getElem? (i := 27) rfl))) (by decide) (backOf (W := 0) (rm_6t3 l Z a0 hw [] p1 g_ h0 n0 Z0 A_p1 hc0_ hc1_ hc2_) hZ (hw _ (List.mem_of_getElem? (i := 27) rfl)) (hw _ (List.mem_of_getElem? (i := 26) rfl)) (by decide) (by decide)) (g := (mkF m 36 #[.val (.ref p0), .val (.ref p1), .val (.int (0 : Int32)), .val (.int (3 : Int32)), .val .null, .unset] [(.int (3 : Int32)), (.int (0 : Int32)), (.ref p1)])) rfl (by rw [hml]; rfl) (argsL := [(.ref p1), (.int (0 : Int32)), (.int (3 : Int32))]) (rest := []) (lenOf pd_1 rfl) rfl (by show 2 * 0 + _ ≤ _; exact Nat.le_of_eq rfl) (hb hby d4_36) (fun _ _ => ⟨rfl, e4, (by decide : 0 + 1 ≤ _), (by decide : 0 + 3 ≤ _)⟩)
  dsimp only [Pt.U, Pt.locs, Pt.cells, Pt.slots] at X5 l5 y5 z5 st5 hQ5
  rw [l5, y5, z5] at X5
  obtain ⟨r_5, rfl, N5q, sz0_r_5, Kc5, Q5_0⟩ := hQ5
  have Kd5 : Keep h0 T5.heap [] := Kc5
  have ne_p0_r_5 : p0 ≠ r_5 := Nat.ne_of_lt (Nat.lt_of_lt_of_le E_p0.lt sz0_r_5)
  have ne_p1_r_5 : p1 ≠ r_5 := Nat.ne_of_lt (Nat.lt_of_lt_of_le A_p1.lt sz0_r_5)
  have sz_r_5 : h0.size ≤ r_5 := Nat.le_trans K0.1 sz0_r_5
  have ge_r_5 : n0 ≤ r_5 := Nat.le_trans Z0 sz0_r_5
  have sta_java_lang_String_COMPACT_STRINGS_5 := own_sta_keep S_COMPACT_STRINGS Kd5 all0
  have exa_p0_5 := E_p0.keep Kd5
  have fld_p0_value_5 := F_p0_value.keep Kd5 nin0
  have fld_p0_coder_5 := F_p0_coder.keep Kd5 nin0
  have arr_p1_5 := A_p1.keep Kd5 nin0
  have K5 := K0.trans Kd5 all0
  have Z5 := Nat.le_trans Z0 Kd5.1
  have N5 := Fr.app N0 N5q
  have pre8 : ∀ t, Steps p.tables e below (T5.setTop (mkF m 45 #[.val (.ref p0), .val (.ref p1), .val (.int (0 : Int32)), .val (.int (3 : Int32)), .val .null, .val (.ref r_5)] [(.int (3 : Int32)), (.ref r_5), (.ref p0)])) t → Steps p.tables e below (s₁.setTop (entryFrame m #[(.ref p0), (.ref p1), (.int (0 : Int32)), (.int (3 : Int32)), .null] 6)) t := by
    intro t k
    refine pre6 t ?_
    show Steps p.tables e below (T4.setTop (mkF m 36 #[.val (.ref p0), .val (.ref p1), .val (.int (0 : Int32)), .val (.int (3 : Int32)), .val .null, .unset] [(.int (3 : Int32)), (.int (0 : Int32)), (.ref p1)])) _
    refine st5 _ ?_
    show Steps p.tables e below (T5.setTop (mkF m 39 #[.val (.ref p0), .val (.ref p1), .val (.int (0 : Int32)), .val (.int (3 : Int32)), .val .null, .unset] [(.ref r_5)])) _
    refine XS.astore X5.here hx rfl (hb hby d4_39) rfl rfl (l' := #[.val (.ref p0), .val (.ref p1), .val (.int (0 : Int32)), .val (.int (3 : Int32)), .val .null, .val (.ref r_5)]) rfl ?_
    show Steps p.tables e below (T5.setTop (mkF m 41 #[.val (.ref p0), .val (.ref p1), .val (.int (0 : Int32)), .val (.int (3 : Int32)), .val .null, .val (.ref r_5)] [])) _
    refine XS.aloadN X5.here hx rfl (hb hby d4_41) rfl rfl ?_
    show Steps p.tables e below (T5.setTop (mkF m 42 #[.val (.ref p0), .val (.ref p1), .val (.int (0 : Int32)), .val (.int (3 : Int32)), .val .null, .val (.ref r_5)] [(.ref p0)])) _
    refine XS.aload X5.here hx rfl (hb hby d4_42) rfl rfl ?_
    show Steps p.tables e below (T5.setTop (mkF m 44 #[.val (.ref p0), .val (.ref p1), .val (.int (0 : Int32)), .val (.int (3 : Int32)), .val .null, .val (.ref r_5)] [(.ref r_5), (.ref p0)])) _
    refine XS.iloadN X5.here hx rfl (hb hby d4_44) rfl  ?_
    exact k
  obtain ⟨_, _, ⟨T7, L7, k7, n7⟩, -, X7, ⟨Lc7, hQ7, l7, y7, z7⟩, st7⟩ := Jvm.LawKit.callS X5 hx (y := (⟨"java/lang/StringUTF16", "coderFromArrayLen", "([BI)B"⟩ : MethodName)) hown (mvT hZ (hw _ (List.mem_of_getElem? (i := 32) rfl))) (mvT hZ (hw _ (List.mem_of_getElem? (i := 33) rfl))) (mvT hZ (hw _ (List.mem_of_getElem? (i := 26) rfl))) (mvT hZ (hw _ (List.mem_of_getElem? (i := 34) rfl))) (by decide) (backOf (W := 1) (rm_8t3 l Z a0 hw [] r_5 (f_6t3_1 g_) T5.heap n0 Z5 Q5_0) hZ (hw _ (List.mem_of_getElem? (i := 34) rfl)) (hw _ (List.mem_of_getElem? (i := 26) rfl)) (by decide) (by decide)) (g := (mkF m 45 #[.val (.ref p0), .val (.ref p1), .val (.int (0 : Int32)), .val (.int (3 : Int32)), .val .null, .val (.ref r_5)] [(.int (3 : Int32)), (.ref r_5), (.ref p0)])) rfl (by rw [hml]; rfl) (argsL := [(.ref r_5), (.int (3 : Int32))]) (rest := [(.ref p0)]) (lenOf pd_2 rfl) rfl (by show 2 * 0 + _ ≤ _; exact Nat.le_of_eq rfl) (hb hby d4_45) (fun _ _ => ⟨rfl, rfl, (by decide : 1 + 0 ≤ _), (by decide : 3 + 0 ≤ _)⟩)
  dsimp only [Pt.U, Pt.locs, Pt.cells, Pt.slots] at X7 l7 y7 z7 st7 hQ7
  rw [l7, y7, z7] at X7
  obtain ⟨rfl, N7q, e7⟩ := hQ7
  have N7 := Fr.app N5 N7q
  have pre9 : ∀ t, Steps p.tables e below (T7.setTop (mkF m 48 #[.val (.ref p0), .val (.ref p1), .val (.int (0 : Int32)), .val (.int (3 : Int32)), .val .null, .val (.ref r_5)] [(.int (f_8t3 (f_6t3_1 g_))), (.ref p0)])) t → Steps p.tables e below (s₁.setTop (entryFrame m #[(.ref p0), (.ref p1), (.int (0 : Int32)), (.int (3 : Int32)), .null] 6)) t := by
    intro t k
    refine pre8 t ?_
    show Steps p.tables e below (T5.setTop (mkF m 45 #[.val (.ref p0), .val (.ref p1), .val (.int (0 : Int32)), .val (.int (3 : Int32)), .val .null, .val (.ref r_5)] [(.int (3 : Int32)), (.ref r_5), (.ref p0)])) _
    refine st7 _ ?_
    exact k
  obtain ⟨T10, h10, X10, e10, W10, st10⟩ := putFN X7 hx hZ hown (hw _ (List.mem_of_getElem? (i := 35) rfl)) Via.refl e7 fld_p0_coder_5 exa_p0_5 (Or.inr ⟨(hw _ (List.mem_of_getElem? (i := 36) rfl)), rfl, hnm⟩) (hw _ (List.mem_of_getElem? (i := 11) rfl)) (ty := .byte) (v' := .int (nar .byte (f_8t3 (f_6t3_1 g_)))) (by decide) rfl (fits_nar_byte _) (g := (mkF m 48 #[.val (.ref p0), .val (.ref p1), .val (.int (0 : Int32)), .val (.int (3 : Int32)), .val .null, .val (.ref r_5)] [(.int (f_8t3 (f_6t3_1 g_))), (.ref p0)])) rfl rfl (hb hby d4_48)
  have Fw10 := fld_p0_coder_5.same W10
  have sta_java_lang_String_COMPACT_STRINGS_10 := sta_java_lang_String_COMPACT_STRINGS_5.wr W10
  have exa_p0_10 := exa_p0_5.wr W10
  have fld_p0_value_10 := fld_p0_value_5.other W10 (Or.inr (slot_ne (Or.inr (hw _ (List.mem_of_getElem? (i := 38) rfl))) (Or.inr (hw _ (List.mem_of_getElem? (i := 36) rfl))) (by decide) (t := (.array .byte)) (t' := .byte) (by decide) (by decide)))
  have arr_p1_10 := arr_p1_5.other W10 ne_p0_p1.symm
  have arr_r_5_10 := Q5_0.other W10 ne_p0_r_5.symm
  have K10 := K5.wr W10 (Or.inl (List.mem_of_getElem? (i := 0) rfl))
  have Z10 := Nat.le_trans Z5 (Nat.le_of_eq W10.size.symm)
  have N10 := Fr.snoc X10 N7 ge_p0
  have pre11 : ∀ t, Steps p.tables e below (T10.setTop (mkF m 54 #[.val (.ref p0), .val (.ref p1), .val (.int (0 : Int32)), .val (.int (3 : Int32)), .val .null, .val (.ref r_5)] [(.ref r_5), (.ref p0)])) t → Steps p.tables e below (s₁.setTop (entryFrame m #[(.ref p0), (.ref p1), (.int (0 : Int32)), (.int (3 : Int32)), .null] 6)) t := by
    intro t k
    refine pre9 t ?_
    show Steps p.tables e below (T7.setTop (mkF m 48 #[.val (.ref p0), .val (.ref p1), .val (.int (0 : Int32)), .val (.int (3 : Int32)), .val .null, .val (.ref r_5)] [(.int (f_8t3 (f_6t3_1 g_))), (.ref p0)])) _
    refine st10 _ ?_
    show Steps p.tables e below (T10.setTop (mkF m 51 #[.val (.ref p0), .val (.ref p1), .val (.int (0 : Int32)), .val (.int (3 : Int32)), .val .null, .val (.ref r_5)] [])) _
    refine XS.aloadN X10.here hx rfl (hb hby d4_51) rfl rfl ?_
    show Steps p.tables e below (T10.setTop (mkF m 52 #[.val (.ref p0), .val (.ref p1), .val (.int (0 : Int32)), .val (.int (3 : Int32)), .val .null, .val (.ref r_5)] [(.ref p0)])) _
    refine XS.aload X10.here hx rfl (hb hby d4_52) rfl rfl ?_
    exact k
  obtain ⟨T12, h12, X12, e12, W12, st12⟩ := putF X10 hx hZ hown (host := "") (Or.inl (hw _ (List.mem_of_getElem? (i := 37) rfl))) Via.refl e10 fld_p0_value_10 exa_p0_10 (Or.inr ⟨(hw _ (List.mem_of_getElem? (i := 38) rfl)), rfl, hnm⟩) (hw _ (List.mem_of_getElem? (i := 11) rfl)) (ty := (.array .byte)) (by decide) rfl rfl (g := (mkF m 54 #[.val (.ref p0), .val (.ref p1), .val (.int (0 : Int32)), .val (.int (3 : Int32)), .val .null, .val (.ref r_5)] [(.ref r_5), (.ref p0)])) rfl rfl (hb hby d4_54)
  have Fw12 := fld_p0_value_10.same W12
  have sta_java_lang_String_COMPACT_STRINGS_12 := sta_java_lang_String_COMPACT_STRINGS_10.wr W12
  have exa_p0_12 := exa_p0_10.wr W12
  have fld_p0_coder_12 := Fw10.other W12 (Or.inr (slot_ne (Or.inr (hw _ (List.mem_of_getElem? (i := 36) rfl))) (Or.inr (hw _ (List.mem_of_getElem? (i := 38) rfl))) (by decide) (t := .byte) (t' := (.array .byte)) (by decide) (by decide)))
  have arr_p1_12 := arr_p1_10.other W12 ne_p0_p1.symm
  have arr_r_5_12 := arr_r_5_10.other W12 ne_p0_r_5.symm
  have K12 := K10.wr W12 (Or.inl (List.mem_of_getElem? (i := 0) rfl))
  have Z12 := Nat.le_trans Z10 (Nat.le_of_eq W12.size.symm)
  have N12 := Fr.snoc X12 N10 ge_p0
  obtain ⟨fs, hr, hrun, hended, hW, hsame⟩ := X12.leave (v := none) (fun _ => rfl) (BodyLoose.notSynchronized Bd)
  refine ⟨_, _, pre11 _ ?_, hrun, hended, _, _, rfl, ?_, ⟨_, rfl⟩, hW, hsame.mono (by decide) (by decide)⟩
  · show Steps p.tables e below (T10.setTop (mkF m 54 #[.val (.ref p0), .val (.ref p1), .val (.int (0 : Int32)), .val (.int (3 : Int32)), .val .null, .val (.ref r_5)] [(.ref r_5), (.ref p0)])) _
    refine st12 _ ?_
    show Steps p.tables e below (T12.setTop (mkF m 57 #[.val (.ref p0), .val (.ref p1), .val (.int (0 : Int32)), .val (.int (3 : Int32)), .val .null, .val (.ref r_5)] [])) _
    exact X12.returnOut hx Bd.returns (hb hby d4_57) hr
  · show Q_4t3 Z p0 p1 g_ cs_ h0 n0 _ T12.heap _
    rw [e12]
    have o1 := (by rfl : (nar .byte (f_8t3 (f_6t3_1 g_))) = f_4t3_1 g_ cs_)
    have r1 := fld_p0_coder_12
    rw [o1] at r1
    have o2 := (by rfl : (f_6t3_1 g_) = f_4t3_2 g_ cs_)
    have r2 := arr_r_5_12
    rw [o2] at r2
    exact ⟨r_5, rfl, N12, sz_r_5, K12, exa_p0_12, Fw12, r1, r2⟩
theorem ef_3t3 (m : MethodId) (p0 : Addr) (p1 : Addr) : entryFrame m #[(.ref p0), (.ref p1)] 2 = mkF m 0 #[.val (.ref p0), .val (.ref p1)] [] := by first | (simp [entryFrame, mkF, argsToLocals, Value.category]; done) | rfl
def f_3t3_1 (g_ : Nat → Int32) (cs_ : Int32) : Int32 := (f_4t3_1 g_ cs_)
def f_3t3_2 (g_ : Nat → Int32) (cs_ : Int32) : Nat → Int32 := (f_4t3_2 g_ cs_)
def Q_3t3 (Z : State) (p0 : Addr) (p1 : Addr) (g_ : Nat → Int32) (cs_ : Int32) (h0 : Heap) (n0 : Nat) (v : Option Value) (h : Heap) (L : List Loc) : Prop := ∃ w : Addr, v = none ∧ Fr n0 L ∧ h0.size ≤ w ∧ Keep h0 h [p0] ∧ Exa Z h p0 "java/lang/String" ∧ Fld Z h p0 "java/lang/String" "value" "[B" (.ref w) ∧ Fld Z h p0 "java/lang/String" "coder" "B" (.int (f_3t3_1 g_ cs_)) ∧ own_A Z h w .byte 3 (fun i => .int ((f_3t3_2 g_ cs_) i))
set_option maxRecDepth 65536 in
set_option maxHeartbeats 40000000 in
theorem rm_3t3 (l : Launch) (Z : State) (a0 : Array Value) (hw : ∀ d ∈ tables_1, d.before a0 Z = true) (ws : List Jvm.Cond) (p0 : Addr) (p1 : Addr) (g_ : Nat → Int32) (cs_ : Int32) (h0 : Heap) (n0 : Nat) (Z0 : n0 ≤ h0.size) (E_p0 : Exa Z h0 p0 "java/lang/String") (F_p0_value : Fld Z h0 p0 "java/lang/String" "value" "[B" .null) (F_p0_coder : Fld Z h0 p0 "java/lang/String" "coder" "B" (.int (0 : Int32))) (ge_p0 : n0 ≤ p0) (A_p1 : own_A Z h0 p1 .char 3 (fun i => .int (g_ i))) (ne_p0_p1 : p0 ≠ p1) (S_COMPACT_STRINGS : Sta Z h0 "java/lang/String" "COMPACT_STRINGS" "Z" (.int cs_)) (hcs : ¬ (cs_ = (0 : Int32))) (hc0_ : ¬ ((255 : Int32) < (g_ 0))) (hc1_ : ¬ ((255 : Int32) < (g_ 1))) (hc2_ : ¬ ((255 : Int32) < (g_ 2))) :
    MetFree l (⟨"java/lang/String", "<init>", "([C)V"⟩ : MethodName) (head1 (Jvm.Cond.code (⟨"java/lang/String", "<init>", "([C)V"⟩ : MethodName) jdk_42_method_3_code 2 none :: ws) ({ frames := 3, cells := 1, slots := 3, locals := 52 } : Room)) (fun a U => a = #[(.ref p0), (.ref p1)] ∧ Z.Warmed39 U.vm ∧ U.heap = h0) (fun _ _ _ _ _ => True) (fun _ U o U' => ∃ v L, o = .returned v ∧ Q_3t3 Z p0 p1 g_ cs_ h0 n0 v U'.heap L ∧ FrameEnd U o U' L ({ frames := 3, cells := 1, slots := 3, locals := 52 } : Room).cells ({ frames := 3, cells := 1, slots := 3, locals := 52 } : Room).slots) := by
  refine MetFree.of_bodySF (plainFor_of_name pn_3) hisR ?_
  intro p e s m args below meth c s₁ Bd hml0 hP hK
  obtain ⟨rfl, hZ, hh⟩ := hP
  have hx := Bd.exec
  have hby := Bd.bytes
  have hml : c.maxLocals = 2 := hml0
  have hown : s.vm.findClass "java/lang/String" = some m.cls := findClass_of_methodNamed Bd.named
  have hnm := (name_of_methodNamed Bd.named Bd.method).1
  have X0 : Stand p l e ({ frames := 3, cells := 1, slots := 3, locals := 52 } : Room) s m #[(.ref p0), (.ref p1)] below meth c s₁ [] 0 0 := Stand.of_body Bd
  have e0 : s₁.heap = h0 := by rw [← hh, Bd.state]; rfl
  have N0 := Fr.nil n0
  have K0 : Keep h0 h0 [p0] := Keep.refl h0 _
  have pre0 : ∀ t, Steps p.tables e below (s₁.setTop (mkF m 0 #[.val (.ref p0), .val (.ref p1)] [])) t → Steps p.tables e below (s₁.setTop (entryFrame m #[(.ref p0), (.ref p1)] 2)) t := fun t k => castTop (ef_3t3 m p0 p1) k
  have pre2 : ∀ t, Steps p.tables e below (s₁.setTop (mkF m 6 #[.val (.ref p0), .val (.ref p1)] [.null, (.int (3 : Int32)), (.int (0 : Int32)), (.ref p1), (.ref p0)])) t → Steps p.tables e below (s₁.setTop (entryFrame m #[(.ref p0), (.ref p1)] 2)) t := by
    intro t k
    refine pre0 t ?_
    show Steps p.tables e below (s₁.setTop (mkF m 0 #[.val (.ref p0), .val (.ref p1)] [])) _
    refine XS.aloadN X0.here hx rfl (hb hby d3_0) rfl rfl ?_
    show Steps p.tables e below (s₁.setTop (mkF m 1 #[.val (.ref p0), .val (.ref p1)] [(.ref p0)])) _
    refine XS.aloadN X0.here hx rfl (hb hby d3_1) rfl rfl ?_
    show Steps p.tables e below (s₁.setTop (mkF m 2 #[.val (.ref p0), .val (.ref p1)] [(.ref p1), (.ref p0)])) _
    refine XS.iconst X0.here hx rfl (hb hby d3_2) ?_
    show Steps p.tables e below (s₁.setTop (mkF m 3 #[.val (.ref p0), .val (.ref p1)] [(.int (0 : Int32)), (.ref p1), (.ref p0)])) _
    refine XS.aloadN X0.here hx rfl (hb hby d3_3) rfl rfl ?_
    show Steps p.tables e below (s₁.setTop (mkF m 4 #[.val (.ref p0), .val (.ref p1)] [(.ref p1), (.int (0 : Int32)), (.ref p1), (.ref p0)])) _
    refine own_len X0 hx hZ e0 A_p1 (z := (3 : Int32)) rfl (g := (mkF m 4 #[.val (.ref p0), .val (.ref p1)] [(.ref p1), (.int (0 : Int32)), (.ref p1), (.ref p0)])) rfl rfl (hb hby d3_4) ?_
    show Steps p.tables e below (s₁.setTop (mkF m 5 #[.val (.ref p0), .val (.ref p1)] [(.int (3 : Int32)), (.int (0 : Int32)), (.ref p1), (.ref p0)])) _
    refine XS.aconstNull X0.here hx rfl (hb hby d3_5) ?_
    exact k
  obtain ⟨_, _, ⟨T1, L1, k1, n1⟩, -, X1, ⟨Lc1, hQ1, l1, y1, z1⟩, st1⟩ := X0.specialBack hx (y := (⟨"java/lang/String", "<init>", "([CIILjava/lang/Void;)V"⟩ : MethodName)) rfl hown (mvT hZ (hw _ (List.mem_of_getElem? (i := 16) rfl))) (mvT hZ (hw _ (List.mem_of_getElem? (i := 17) rfl))) (mvT hZ (hw _ (List.mem_of_getElem? (i := 19) rfl))) (by decide) (backOf (W := 0) (rm_4t3 l Z a0 hw [] p0 p1 g_ cs_ h0 n0 Z0 E_p0 F_p0_value F_p0_coder ge_p0 A_p1 ne_p0_p1 S_COMPACT_STRINGS hcs hc0_ hc1_ hc2_) hZ (hw _ (List.mem_of_getElem? (i := 19) rfl)) (hw _ (List.mem_of_getElem? (i := 12) rfl)) (by decide) (by decide)) (g := (mkF m 6 #[.val (.ref p0), .val (.ref p1)] [.null, (.int (3 : Int32)), (.int (0 : Int32)), (.ref p1), (.ref p0)])) rfl (by rw [hml]; rfl) (Steps.refl _) (a := p0) (argsL := [(.ref p1), (.int (0 : Int32)), (.int (3 : Int32)), .null]) (rest := []) (lenOf pd_3 rfl) rfl (by show 2 * 0 + _ ≤ _; exact Nat.le_of_eq rfl) (hb hby d3_6) (fun _ _ => ⟨rfl, e0, (by decide : 0 + 1 ≤ _), (by decide : 0 + 3 ≤ _)⟩)
  dsimp only [Pt.U, Pt.locs, Pt.cells, Pt.slots] at X1 l1 y1 z1 st1 hQ1
  rw [l1, y1, z1] at X1
  obtain ⟨w_1, rfl, N1q, sz0_w_1, Kc1, Q1_0, Q1_1, Q1_2, Q1_3⟩ := hQ1
  have Kd1 : Keep h0 T1.heap [p0] := Kc1
  have ne_p0_w_1 : p0 ≠ w_1 := Nat.ne_of_lt (Nat.lt_of_lt_of_le E_p0.lt sz0_w_1)
  have ne_p1_w_1 : p1 ≠ w_1 := Nat.ne_of_lt (Nat.lt_of_lt_of_le A_p1.lt sz0_w_1)
  have sz_w_1 : h0.size ≤ w_1 := Nat.le_trans K0.1 sz0_w_1
  have ge_w_1 : n0 ≤ w_1 := Nat.le_trans Z0 sz0_w_1
  have sta_java_lang_String_COMPACT_STRINGS_1 := own_sta_keep S_COMPACT_STRINGS Kd1 (allS (own_E_plain E_p0) all0)
  have exa_p0_1 := E_p0.keep Kd1
  have arr_p1_1 := A_p1.keep Kd1 (ninS ne_p0_p1.symm nin0)
  have K1 := K0.trans Kd1 (allS (Or.inl (List.mem_of_getElem? (i := 0) rfl)) all0)
  have Z1 := Nat.le_trans Z0 Kd1.1
  have N1 := Fr.app N0 N1q
  obtain ⟨fs, hr, hrun, hended, hW, hsame⟩ := X1.leave (v := none) (fun _ => rfl) (BodyLoose.notSynchronized Bd)
  refine ⟨_, _, pre2 _ ?_, hrun, hended, _, _, rfl, ?_, ⟨_, rfl⟩, hW, hsame.mono (by decide) (by decide)⟩
  · show Steps p.tables e below (s₁.setTop (mkF m 6 #[.val (.ref p0), .val (.ref p1)] [.null, (.int (3 : Int32)), (.int (0 : Int32)), (.ref p1), (.ref p0)])) _
    refine st1.trans ?_
    show Steps p.tables e below (T1.setTop (mkF m 9 #[.val (.ref p0), .val (.ref p1)] [])) _
    exact X1.returnOut hx Bd.returns (hb hby d3_9) hr
  · show Q_3t3 Z p0 p1 g_ cs_ h0 n0 _ T1.heap _
    have o1 := (by rfl : (f_4t3_1 g_ cs_) = f_3t3_1 g_ cs_)
    have r1 := Q1_2
    rw [o1] at r1
    have o2 := (by rfl : (f_4t3_2 g_ cs_) = f_3t3_2 g_ cs_)
    have r2 := Q1_3
    rw [o2] at r2
    exact ⟨w_1, rfl, N1, sz_w_1, K1, Q1_0, Q1_1, r1, r2⟩
theorem d4_8 : decode jdk_42_method_149_code 8 = .ok (.aload_n 0, 1) := by decide +kernel
theorem d4_9 : decode jdk_42_method_149_code 9 = .ok (.ldc 7, 2) := by decide +kernel
theorem d4_11 : decode jdk_42_method_149_code 11 = .ok (.getfield 9, 3) := by decide +kernel
theorem d4_14 : decode jdk_42_method_149_code 14 = .ok (.putfield 9, 3) := by decide +kernel
theorem d4_17 : decode jdk_42_method_149_code 17 = .ok (.aload_n 0, 1) := by decide +kernel
theorem d4_18 : decode jdk_42_method_149_code 18 = .ok (.ldc 7, 2) := by decide +kernel
theorem d4_20 : decode jdk_42_method_149_code 20 = .ok (.getfield 15, 3) := by decide +kernel
theorem d4_23 : decode jdk_42_method_149_code 23 = .ok (.putfield 15, 3) := by decide +kernel
theorem d4_26 : decode jdk_42_method_149_code 26 = .ok (.return_, 1) := by decide +kernel
theorem ef_4t0 (m : MethodId) (p0 : Addr) (p1 : Addr) : entryFrame m #[(.ref p0), (.ref p1), (.int (0 : Int32)), (.int (0 : Int32)), .null] 6 = mkF m 0 #[.val (.ref p0), .val (.ref p1), .val (.int (0 : Int32)), .val (.int (0 : Int32)), .val .null, .unset] [] := by first | (simp [entryFrame, mkF, argsToLocals, Value.category]; done) | rfl
def f_4t0_1 (g_ : Nat → Int32) (cs_ : Int32) : Int32 := (nar .byte (0 : Int32))
def f_4t0_2 (g_ : Nat → Int32) (cs_ : Int32) : Nat → Int32 := own_zI
def Q_4t0 (Z : State) (p0 : Addr) (p1 : Addr) (g_ : Nat → Int32) (cs_ : Int32) (h0 : Heap) (n0 : Nat) (v : Option Value) (h : Heap) (L : List Loc) : Prop := ∃ w : Addr, v = none ∧ Fr n0 L ∧ Keep h0 h [p0] ∧ Exa Z h p0 "java/lang/String" ∧ Fld Z h p0 "java/lang/String" "value" "[B" (.ref w) ∧ Fld Z h p0 "java/lang/String" "coder" "B" (.int (f_4t0_1 g_ cs_)) ∧ own_A Z h w .byte 0 (fun i => .int ((f_4t0_2 g_ cs_) i))
set_option maxRecDepth 65536 in
set_option maxHeartbeats 40000000 in
theorem rm_4t0 (l : Launch) (Z : State) (a0 : Array Value) (hw : ∀ d ∈ tables_1, d.before a0 Z = true) (ws : List Jvm.Cond) (p0 : Addr) (p1 : Addr) (g_ : Nat → Int32) (cs_ : Int32) (h0 : Heap) (n0 : Nat) (Z0 : n0 ≤ h0.size) (E_p0 : Exa Z h0 p0 "java/lang/String") (F_p0_value : Fld Z h0 p0 "java/lang/String" "value" "[B" .null) (F_p0_coder : Fld Z h0 p0 "java/lang/String" "coder" "B" (.int (0 : Int32))) (ge_p0 : n0 ≤ p0) (A_p1 : own_A Z h0 p1 .char 0 (fun i => .int (g_ i))) (ne_p0_p1 : p0 ≠ p1) (S_COMPACT_STRINGS : Sta Z h0 "java/lang/String" "COMPACT_STRINGS" "Z" (.int cs_)) (hcs : ¬ (cs_ = (0 : Int32))) :
    MetFree l (⟨"java/lang/String", "<init>", "([CIILjava/lang/Void;)V"⟩ : MethodName) (head1 (Jvm.Cond.code (⟨"java/lang/String", "<init>", "([CIILjava/lang/Void;)V"⟩ : MethodName) jdk_42_method_149_code 6 none :: ws) ({ frames := 1, cells := 2, slots := 4, locals := 12 } : Room)) (fun a U => a = #[(.ref p0), (.ref p1), (.int (0 : Int32)), (.int (0 : Int32)), .null] ∧ Z.Warmed39 U.vm ∧ U.heap = h0 ∧ own_H own_cs Z U.vm h0) (fun _ _ _ _ _ => True) (fun _ U o U' => ∃ v L, o = .returned v ∧ Q_4t0 Z p0 p1 g_ cs_ h0 n0 v U'.heap L ∧ own_H own_cs Z U'.vm U'.heap ∧ ReturnedEndW U o U' L ({ frames := 1, cells := 2, slots := 4, locals := 12 } : Room).cells ({ frames := 1, cells := 2, slots := 4, locals := 12 } : Room).slots) := by
  refine MetFree.of_bodySF (plainFor_of_name pn_4) hisR ?_
  intro p e s m args below meth c s₁ Bd hml0 hP hK
  obtain ⟨rfl, hZ, hh, hH⟩ := hP
  have hx := Bd.exec
  have hby := Bd.bytes
  have hml : c.maxLocals = 6 := hml0
  have hown : s.vm.findClass "java/lang/String" = some m.cls := findClass_of_methodNamed Bd.named
  have hnm := (name_of_methodNamed Bd.named Bd.method).1
  have wl := own_wl hw
  have wS := own_wS hw
  have hS0 : s.Since s.vm h0.size := (State.WarmedH.refl s).since _
  have hZ : Z.Warmed39 (s.setVm s.vm).vm := hZ
  have hown : (s.setVm s.vm).vm.findClass "java/lang/String" = some m.cls := hown
  have hH : own_H own_cs Z (s.setVm s.vm).vm h0 := hH
  have X0 : Stand p l e ({ frames := 1, cells := 2, slots := 4, locals := 12 } : Room) (s.setVm s.vm) m #[(.ref p0), (.ref p1), (.int (0 : Int32)), (.int (0 : Int32)), .null] below meth c s₁ [] 0 0 := Stand.of_body Bd
  have e0 : s₁.heap = h0 := by rw [← hh, Bd.state]; rfl
  have N0 := Fr.nil n0
  have K0 : Keep h0 h0 [p0] := Keep.refl h0 _
  have pre0 : ∀ t, Steps p.tables e below (s₁.setTop (mkF m 0 #[.val (.ref p0), .val (.ref p1), .val (.int (0 : Int32)), .val (.int (0 : Int32)), .val .null, .unset] [])) t → Steps p.tables e below (s₁.setTop (entryFrame m #[(.ref p0), (.ref p1), (.int (0 : Int32)), (.int (0 : Int32)), .null] 6)) t := fun t k => castTop (ef_4t0 m p0 p1) k
  have pre1 : ∀ t, Steps p.tables e below (s₁.setTop (mkF m 1 #[.val (.ref p0), .val (.ref p1), .val (.int (0 : Int32)), .val (.int (0 : Int32)), .val .null, .unset] [(.ref p0)])) t → Steps p.tables e below (s₁.setTop (entryFrame m #[(.ref p0), (.ref p1), (.int (0 : Int32)), (.int (0 : Int32)), .null] 6)) t := by
    intro t k
    refine pre0 t ?_
    show Steps p.tables e below (s₁.setTop (mkF m 0 #[.val (.ref p0), .val (.ref p1), .val (.int (0 : Int32)), .val (.int (0 : Int32)), .val .null, .unset] [])) _
    refine XS.aloadN X0.here hx rfl (hb hby d4_0) rfl rfl ?_
    exact k
  obtain ⟨T2, X2, e2, st2⟩ := initO X0 hx hZ hown (hw _ (List.mem_of_getElem? (i := 20) rfl)) (hw _ (List.mem_of_getElem? (i := 21) rfl)) (hw _ (List.mem_of_getElem? (i := 22) rfl)) e0 (g := (mkF m 1 #[.val (.ref p0), .val (.ref p1), .val (.int (0 : Int32)), .val (.int (0 : Int32)), .val .null, .unset] [(.ref p0)])) rfl (by rw [hml]; rfl) rfl (hb hby d4_1) (by decide) (W := 0) (by show 2 * 0 + _ ≤ _; exact Nat.le_of_eq rfl) (by decide)
  have pre3 : ∀ t, Steps p.tables e below (T2.setTop (mkF m 9 #[.val (.ref p0), .val (.ref p1), .val (.int (0 : Int32)), .val (.int (0 : Int32)), .val .null, .unset] [(.ref p0)])) t → Steps p.tables e below (s₁.setTop (entryFrame m #[(.ref p0), (.ref p1), (.int (0 : Int32)), (.int (0 : Int32)), .null] 6)) t := by
    intro t k
    refine pre1 t ?_
    show Steps p.tables e below (s₁.setTop (mkF m 1 #[.val (.ref p0), .val (.ref p1), .val (.int (0 : Int32)), .val (.int (0 : Int32)), .val .null, .unset] [(.ref p0)])) _
    refine st2 _ ?_
    show Steps p.tables e below (T2.setTop (mkF m 4 #[.val (.ref p0), .val (.ref p1), .val (.int (0 : Int32)), .val (.int (0 : Int32)), .val .null, .unset] [])) _
    refine XS.iloadN X2.here hx rfl (hb hby d4_4) rfl  ?_
    show Steps p.tables e below (T2.setTop (mkF m 5 #[.val (.ref p0), .val (.ref p1), .val (.int (0 : Int32)), .val (.int (0 : Int32)), .val .null, .unset] [(.int (0 : Int32))])) _
    refine XS.ifNo X2.here hx rfl (hb hby d4_5) rfl ((if0 _ _).trans (teq (by decide : (0 : Int32) = (0 : Int32))).2) ?_
    show Steps p.tables e below (T2.setTop (mkF m 8 #[.val (.ref p0), .val (.ref p1), .val (.int (0 : Int32)), .val (.int (0 : Int32)), .val .null, .unset] [])) _
    refine XS.aloadN X2.here hx rfl (hb hby d4_8) rfl rfl ?_
    exact k
  obtain ⟨a4, b4, T4, h4, X4, e4, E4, hS4, -, -, Ea4, Fc4, Fv4, Ab4, hH4, L4, st4⟩ := own_ld X2 hx hZ hown (List.mem_of_getElem? (i := 1) rfl) wl own_cs_1 wS e2 hh (Keep.refl h0 []) hH (by decide) (g := (mkF m 9 #[.val (.ref p0), .val (.ref p1), .val (.int (0 : Int32)), .val (.int (0 : Int32)), .val .null, .unset] [(.ref p0)])) rfl (hb hby d4_9) (n := 0) (by decide) (by decide) (by decide) (by decide)
  have exa_p0_4 := E_p0.ext E4
  have fld_p0_value_4 := F_p0_value.ext E4
  have fld_p0_coder_4 := F_p0_coder.ext E4
  have arr_p1_4 := A_p1.ext E4
  have sta_java_lang_String_COMPACT_STRINGS_4 := S_COMPACT_STRINGS.ext E4
  have K4 := K0.ext E4
  have Z4 := Nat.le_trans Z0 E4.1
  obtain ⟨X4, hS4, hZ, hown⟩ := rebS (own := "java/lang/String") hS0 (Nat.le_trans (Keep.refl h0 []).1 (Nat.le_of_eq (congrArg Array.size (e2 : T2.heap = h0).symm))) X4 hS4 (Nat.le_trans (Nat.le_of_eq (congrArg Array.size (e2 : T2.heap = h0))) E4.1) hZ hown
  have Ab4 := Ab4 (fun i => .int (own_zI i)) rfl
  have ne_a4_p0 : a4 ≠ p0 := own_ne_fld Fv4 fld_p0_value_4 nofun
  have ne_b4_p0 : b4 ≠ p0 := own_ne_arr Ab4 exa_p0_4 (hw _ (List.mem_of_getElem? (i := 11) rfl))
  have pre5 : ∀ t, Steps p.tables e below (T4.setTop (mkF m 11 #[.val (.ref p0), .val (.ref p1), .val (.int (0 : Int32)), .val (.int (0 : Int32)), .val .null, .unset] [(.ref a4), (.ref p0)])) t → Steps p.tables e below (s₁.setTop (entryFrame m #[(.ref p0), (.ref p1), (.int (0 : Int32)), (.int (0 : Int32)), .null] 6)) t := by
    intro t k
    refine pre3 t ?_
    show Steps p.tables e below (T2.setTop (mkF m 9 #[.val (.ref p0), .val (.ref p1), .val (.int (0 : Int32)), .val (.int (0 : Int32)), .val .null, .unset] [(.ref p0)])) _
    refine st4 _ ?_
    exact k
  obtain ⟨T6, X6, e6, st6⟩ := getF X4 hx hZ hown (host := "") (Or.inl (hw _ (List.mem_of_getElem? (i := 37) rfl))) Via.refl e4 Fv4 (g := (mkF m 11 #[.val (.ref p0), .val (.ref p1), .val (.int (0 : Int32)), .val (.int (0 : Int32)), .val .null, .unset] [(.ref a4), (.ref p0)])) rfl rfl (hb hby d4_11)
  have pre7 : ∀ t, Steps p.tables e below (T6.setTop (mkF m 14 #[.val (.ref p0), .val (.ref p1), .val (.int (0 : Int32)), .val (.int (0 : Int32)), .val .null, .unset] [(.ref b4), (.ref p0)])) t → Steps p.tables e below (s₁.setTop (entryFrame m #[(.ref p0), (.ref p1), (.int (0 : Int32)), (.int (0 : Int32)), .null] 6)) t := by
    intro t k
    refine pre5 t ?_
    show Steps p.tables e below (T4.setTop (mkF m 11 #[.val (.ref p0), .val (.ref p1), .val (.int (0 : Int32)), .val (.int (0 : Int32)), .val .null, .unset] [(.ref a4), (.ref p0)])) _
    refine st6 _ ?_
    exact k
  obtain ⟨T8, h8, X8, e8, W8, st8⟩ := putF X6 hx hZ hown (host := "") (Or.inl (hw _ (List.mem_of_getElem? (i := 37) rfl))) Via.refl e6 fld_p0_value_4 exa_p0_4 (Or.inr ⟨(hw _ (List.mem_of_getElem? (i := 38) rfl)), rfl, hnm⟩) (hw _ (List.mem_of_getElem? (i := 11) rfl)) (ty := (.array .byte)) (by decide) rfl rfl (g := (mkF m 14 #[.val (.ref p0), .val (.ref p1), .val (.int (0 : Int32)), .val (.int (0 : Int32)), .val .null, .unset] [(.ref b4), (.ref p0)])) rfl rfl (hb hby d4_14)
  have Fw8 := fld_p0_value_4.same W8
  have exa_p0_8 := exa_p0_4.wr W8
  have fld_p0_coder_8 := fld_p0_coder_4.other W8 (Or.inr (slot_ne (Or.inr (hw _ (List.mem_of_getElem? (i := 36) rfl))) (Or.inr (hw _ (List.mem_of_getElem? (i := 38) rfl))) (by decide) (t := .byte) (t' := (.array .byte)) (by decide) (by decide)))
  have arr_p1_8 := arr_p1_4.other W8 ne_p0_p1.symm
  have sta_java_lang_String_COMPACT_STRINGS_8 := sta_java_lang_String_COMPACT_STRINGS_4.wr W8
  have exa_a4_8 := Ea4.wr W8
  have fld_a4_value_8 := Fv4.other W8 (Or.inl ne_a4_p0)
  have fld_a4_coder_8 := Fc4.other W8 (Or.inl ne_a4_p0)
  have arr_b4_8 := Ab4.other W8 ne_b4_p0
  have K8 := K4.wr W8 (Or.inl (List.mem_of_getElem? (i := 0) rfl))
  have Z8 := Nat.le_trans Z4 (Nat.le_of_eq W8.size.symm)
  have N8 := Fr.snoc X8 N0 ge_p0
  have KI8 : Keep h4 h4 [p0] := own_keep_mono (Keep.refl h4 []) (fun _ q => List.mem_cons_of_mem _ q)
  have KH8 := KI8.wr W8 (Or.inl (List.mem_of_getElem? (i := 0) rfl))
  have pre9 : ∀ t, Steps p.tables e below (T8.setTop (mkF m 20 #[.val (.ref p0), .val (.ref p1), .val (.int (0 : Int32)), .val (.int (0 : Int32)), .val .null, .unset] [(.ref a4), (.ref p0)])) t → Steps p.tables e below (s₁.setTop (entryFrame m #[(.ref p0), (.ref p1), (.int (0 : Int32)), (.int (0 : Int32)), .null] 6)) t := by
    intro t k
    refine pre7 t ?_
    show Steps p.tables e below (T6.setTop (mkF m 14 #[.val (.ref p0), .val (.ref p1), .val (.int (0 : Int32)), .val (.int (0 : Int32)), .val .null, .unset] [(.ref b4), (.ref p0)])) _
    refine st8 _ ?_
    show Steps p.tables e below (T8.setTop (mkF m 17 #[.val (.ref p0), .val (.ref p1), .val (.int (0 : Int32)), .val (.int (0 : Int32)), .val .null, .unset] [])) _
    refine XS.aloadN X8.here hx rfl (hb hby d4_17) rfl rfl ?_
    show Steps p.tables e below (T8.setTop (mkF m 18 #[.val (.ref p0), .val (.ref p1), .val (.int (0 : Int32)), .val (.int (0 : Int32)), .val .null, .unset] [(.ref p0)])) _
    refine ldcAgain X8 hx hZ hown (hw _ (List.mem_of_getElem? (i := 80) rfl)) L4 (g := (mkF m 18 #[.val (.ref p0), .val (.ref p1), .val (.int (0 : Int32)), .val (.int (0 : Int32)), .val .null, .unset] [(.ref p0)])) rfl (hb hby d4_18) _ ?_
    exact k
  obtain ⟨T10, X10, e10, st10⟩ := getF X8 hx hZ hown (host := "") (Or.inl (hw _ (List.mem_of_getElem? (i := 35) rfl))) Via.refl e8 fld_a4_coder_8 (g := (mkF m 20 #[.val (.ref p0), .val (.ref p1), .val (.int (0 : Int32)), .val (.int (0 : Int32)), .val .null, .unset] [(.ref a4), (.ref p0)])) rfl rfl (hb hby d4_20)
  have pre11 : ∀ t, Steps p.tables e below (T10.setTop (mkF m 23 #[.val (.ref p0), .val (.ref p1), .val (.int (0 : Int32)), .val (.int (0 : Int32)), .val .null, .unset] [(.int (0 : Int32)), (.ref p0)])) t → Steps p.tables e below (s₁.setTop (entryFrame m #[(.ref p0), (.ref p1), (.int (0 : Int32)), (.int (0 : Int32)), .null] 6)) t := by
    intro t k
    refine pre9 t ?_
    show Steps p.tables e below (T8.setTop (mkF m 20 #[.val (.ref p0), .val (.ref p1), .val (.int (0 : Int32)), .val (.int (0 : Int32)), .val .null, .unset] [(.ref a4), (.ref p0)])) _
    refine st10 _ ?_
    exact k
  obtain ⟨T12, h12, X12, e12, W12, st12⟩ := putFN X10 hx hZ hown (hw _ (List.mem_of_getElem? (i := 35) rfl)) Via.refl e10 fld_p0_coder_8 exa_p0_8 (Or.inr ⟨(hw _ (List.mem_of_getElem? (i := 36) rfl)), rfl, hnm⟩) (hw _ (List.mem_of_getElem? (i := 11) rfl)) (ty := .byte) (v' := .int (nar .byte (0 : Int32))) (by decide) rfl (fits_nar_byte _) (g := (mkF m 23 #[.val (.ref p0), .val (.ref p1), .val (.int (0 : Int32)), .val (.int (0 : Int32)), .val .null, .unset] [(.int (0 : Int32)), (.ref p0)])) rfl rfl (hb hby d4_23)
  have Fw12 := fld_p0_coder_8.same W12
  have exa_p0_12 := exa_p0_8.wr W12
  have fld_p0_value_12 := Fw8.other W12 (Or.inr (slot_ne (Or.inr (hw _ (List.mem_of_getElem? (i := 38) rfl))) (Or.inr (hw _ (List.mem_of_getElem? (i := 36) rfl))) (by decide) (t := (.array .byte)) (t' := .byte) (by decide) (by decide)))
  have arr_p1_12 := arr_p1_8.other W12 ne_p0_p1.symm
  have sta_java_lang_String_COMPACT_STRINGS_12 := sta_java_lang_String_COMPACT_STRINGS_8.wr W12
  have exa_a4_12 := exa_a4_8.wr W12
  have fld_a4_value_12 := fld_a4_value_8.other W12 (Or.inl ne_a4_p0)
  have fld_a4_coder_12 := fld_a4_coder_8.other W12 (Or.inl ne_a4_p0)
  have arr_b4_12 := arr_b4_8.other W12 ne_b4_p0
  have K12 := K8.wr W12 (Or.inl (List.mem_of_getElem? (i := 0) rfl))
  have Z12 := Nat.le_trans Z8 (Nat.le_of_eq W12.size.symm)
  have N12 := Fr.snoc X12 N8 ge_p0
  have KH12 := KH8.wr W12 (Or.inl (List.mem_of_getElem? (i := 0) rfl))
  obtain ⟨fs, hr, hrun, hended, hW1, hW2, hW3, hsame⟩ := X12.leaveW hS4 (Nat.le_trans KH12.1 (Nat.le_of_eq (congrArg Array.size (e12 : T12.heap = h12).symm))) (v := none) (fun _ => rfl) (BodyLoose.notSynchronized Bd)
  refine ⟨_, _, pre11 _ ?_, hrun, hended, _, _, rfl, ?_, ?_, hW1, hW2, hW3, hsame.mono (by decide) (by decide)⟩
  · show Steps p.tables e below (T10.setTop (mkF m 23 #[.val (.ref p0), .val (.ref p1), .val (.int (0 : Int32)), .val (.int (0 : Int32)), .val .null, .unset] [(.int (0 : Int32)), (.ref p0)])) _
    refine st12 _ ?_
    show Steps p.tables e below (T12.setTop (mkF m 26 #[.val (.ref p0), .val (.ref p1), .val (.int (0 : Int32)), .val (.int (0 : Int32)), .val .null, .unset] [])) _
    exact X12.returnOut hx Bd.returns (hb hby d4_26) hr
  · show Q_4t0 Z p0 p1 g_ cs_ h0 n0 _ T12.heap _
    rw [e12]
    have o1 := (by rfl : (nar .byte (0 : Int32)) = f_4t0_1 g_ cs_)
    have r1 := Fw12
    rw [o1] at r1
    have o2 := (by rfl : own_zI = f_4t0_2 g_ cs_)
    have r2 := arr_b4_12
    rw [o2] at r2
    exact ⟨b4, rfl, N12, K12, exa_p0_12, fld_p0_value_12, r1, r2⟩
  · show own_H own_cs Z T12.vm T12.heap
    rw [e12]
    exact (hH4.go (B := (s.setVm T4.vm)) hZ wl X12.warmed KH12 (allS (own_apart_null hZ.alike exa_p0_4 fld_p0_value_4 (hw _ (List.mem_of_getElem? (i := 11) rfl))) all0))
theorem ef_3t0 (m : MethodId) (p0 : Addr) (p1 : Addr) : entryFrame m #[(.ref p0), (.ref p1)] 2 = mkF m 0 #[.val (.ref p0), .val (.ref p1)] [] := by first | (simp [entryFrame, mkF, argsToLocals, Value.category]; done) | rfl
def f_3t0_1 (g_ : Nat → Int32) (cs_ : Int32) : Int32 := (f_4t0_1 g_ cs_)
def f_3t0_2 (g_ : Nat → Int32) (cs_ : Int32) : Nat → Int32 := (f_4t0_2 g_ cs_)
def Q_3t0 (Z : State) (p0 : Addr) (p1 : Addr) (g_ : Nat → Int32) (cs_ : Int32) (h0 : Heap) (n0 : Nat) (v : Option Value) (h : Heap) (L : List Loc) : Prop := ∃ w : Addr, v = none ∧ Fr n0 L ∧ Keep h0 h [p0] ∧ Exa Z h p0 "java/lang/String" ∧ Fld Z h p0 "java/lang/String" "value" "[B" (.ref w) ∧ Fld Z h p0 "java/lang/String" "coder" "B" (.int (f_3t0_1 g_ cs_)) ∧ own_A Z h w .byte 0 (fun i => .int ((f_3t0_2 g_ cs_) i))
set_option maxRecDepth 65536 in
set_option maxHeartbeats 40000000 in
theorem rm_3t0 (l : Launch) (Z : State) (a0 : Array Value) (hw : ∀ d ∈ tables_1, d.before a0 Z = true) (ws : List Jvm.Cond) (p0 : Addr) (p1 : Addr) (g_ : Nat → Int32) (cs_ : Int32) (h0 : Heap) (n0 : Nat) (Z0 : n0 ≤ h0.size) (E_p0 : Exa Z h0 p0 "java/lang/String") (F_p0_value : Fld Z h0 p0 "java/lang/String" "value" "[B" .null) (F_p0_coder : Fld Z h0 p0 "java/lang/String" "coder" "B" (.int (0 : Int32))) (ge_p0 : n0 ≤ p0) (A_p1 : own_A Z h0 p1 .char 0 (fun i => .int (g_ i))) (ne_p0_p1 : p0 ≠ p1) (S_COMPACT_STRINGS : Sta Z h0 "java/lang/String" "COMPACT_STRINGS" "Z" (.int cs_)) (hcs : ¬ (cs_ = (0 : Int32))) :
    MetFree l (⟨"java/lang/String", "<init>", "([C)V"⟩ : MethodName) (head1 (Jvm.Cond.code (⟨"java/lang/String", "<init>", "([C)V"⟩ : MethodName) jdk_42_method_3_code 2 none :: ws) ({ frames := 2, cells := 2, slots := 4, locals := 29 } : Room)) (fun a U => a = #[(.ref p0), (.ref p1)] ∧ Z.Warmed39 U.vm ∧ U.heap = h0 ∧ own_H own_cs Z U.vm h0) (fun _ _ _ _ _ => True) (fun _ U o U' => ∃ v L, o = .returned v ∧ Q_3t0 Z p0 p1 g_ cs_ h0 n0 v U'.heap L ∧ own_H own_cs Z U'.vm U'.heap ∧ ReturnedEndW U o U' L ({ frames := 2, cells := 2, slots := 4, locals := 29 } : Room).cells ({ frames := 2, cells := 2, slots := 4, locals := 29 } : Room).slots) := by
  refine MetFree.of_bodySF (plainFor_of_name pn_3) hisR ?_
  intro p e s m args below meth c s₁ Bd hml0 hP hK
  obtain ⟨rfl, hZ, hh, hH⟩ := hP
  have hx := Bd.exec
  have hby := Bd.bytes
  have hml : c.maxLocals = 2 := hml0
  have hown : s.vm.findClass "java/lang/String" = some m.cls := findClass_of_methodNamed Bd.named
  have hnm := (name_of_methodNamed Bd.named Bd.method).1
  have wl := own_wl hw
  have wS := own_wS hw
  have hS0 : s.Since s.vm h0.size := (State.WarmedH.refl s).since _
  have hZ : Z.Warmed39 (s.setVm s.vm).vm := hZ
  have hown : (s.setVm s.vm).vm.findClass "java/lang/String" = some m.cls := hown
  have hH : own_H own_cs Z (s.setVm s.vm).vm h0 := hH
  have X0 : Stand p l e ({ frames := 2, cells := 2, slots := 4, locals := 29 } : Room) (s.setVm s.vm) m #[(.ref p0), (.ref p1)] below meth c s₁ [] 0 0 := Stand.of_body Bd
  have e0 : s₁.heap = h0 := by rw [← hh, Bd.state]; rfl
  have N0 := Fr.nil n0
  have K0 : Keep h0 h0 [p0] := Keep.refl h0 _
  have pre0 : ∀ t, Steps p.tables e below (s₁.setTop (mkF m 0 #[.val (.ref p0), .val (.ref p1)] [])) t → Steps p.tables e below (s₁.setTop (entryFrame m #[(.ref p0), (.ref p1)] 2)) t := fun t k => castTop (ef_3t0 m p0 p1) k
  have pre2 : ∀ t, Steps p.tables e below (s₁.setTop (mkF m 6 #[.val (.ref p0), .val (.ref p1)] [.null, (.int (0 : Int32)), (.int (0 : Int32)), (.ref p1), (.ref p0)])) t → Steps p.tables e below (s₁.setTop (entryFrame m #[(.ref p0), (.ref p1)] 2)) t := by
    intro t k
    refine pre0 t ?_
    show Steps p.tables e below (s₁.setTop (mkF m 0 #[.val (.ref p0), .val (.ref p1)] [])) _
    refine XS.aloadN X0.here hx rfl (hb hby d3_0) rfl rfl ?_
    show Steps p.tables e below (s₁.setTop (mkF m 1 #[.val (.ref p0), .val (.ref p1)] [(.ref p0)])) _
    refine XS.aloadN X0.here hx rfl (hb hby d3_1) rfl rfl ?_
    show Steps p.tables e below (s₁.setTop (mkF m 2 #[.val (.ref p0), .val (.ref p1)] [(.ref p1), (.ref p0)])) _
    refine XS.iconst X0.here hx rfl (hb hby d3_2) ?_
    show Steps p.tables e below (s₁.setTop (mkF m 3 #[.val (.ref p0), .val (.ref p1)] [(.int (0 : Int32)), (.ref p1), (.ref p0)])) _
    refine XS.aloadN X0.here hx rfl (hb hby d3_3) rfl rfl ?_
    show Steps p.tables e below (s₁.setTop (mkF m 4 #[.val (.ref p0), .val (.ref p1)] [(.ref p1), (.int (0 : Int32)), (.ref p1), (.ref p0)])) _
    refine own_len X0 hx hZ e0 A_p1 (z := (0 : Int32)) rfl (g := (mkF m 4 #[.val (.ref p0), .val (.ref p1)] [(.ref p1), (.int (0 : Int32)), (.ref p1), (.ref p0)])) rfl rfl (hb hby d3_4) ?_
    show Steps p.tables e below (s₁.setTop (mkF m 5 #[.val (.ref p0), .val (.ref p1)] [(.int (0 : Int32)), (.int (0 : Int32)), (.ref p1), (.ref p0)])) _
    refine XS.aconstNull X0.here hx rfl (hb hby d3_5) ?_
    exact k
  obtain ⟨_, _, ⟨T1, L1, k1, n1⟩, -, X1, hS1, gr1, ⟨Lc1, hQ1, hH1, l1, y1, z1⟩, st1⟩ := X0.specialBackS hx (y := (⟨"java/lang/String", "<init>", "([CIILjava/lang/Void;)V"⟩ : MethodName)) rfl hown (mvT hZ (hw _ (List.mem_of_getElem? (i := 16) rfl))) (mvT hZ (hw _ (List.mem_of_getElem? (i := 17) rfl))) (mvT hZ (hw _ (List.mem_of_getElem? (i := 19) rfl))) (by decide) (own_backOfS (W := 0) (rm_4t0 l Z a0 hw [] p0 p1 g_ cs_ h0 n0 Z0 E_p0 F_p0_value F_p0_coder ge_p0 A_p1 ne_p0_p1 S_COMPACT_STRINGS hcs) hZ (hw _ (List.mem_of_getElem? (i := 19) rfl)) (hw _ (List.mem_of_getElem? (i := 12) rfl)) (by decide) (by decide)) (g := (mkF m 6 #[.val (.ref p0), .val (.ref p1)] [.null, (.int (0 : Int32)), (.int (0 : Int32)), (.ref p1), (.ref p0)])) rfl (by rw [hml]; rfl) (Steps.refl _) (a := p0) (argsL := [(.ref p1), (.int (0 : Int32)), (.int (0 : Int32)), .null]) (rest := []) (lenOf pd_3 rfl) rfl (by show 2 * 0 + _ ≤ _; exact Nat.le_of_eq rfl) (hb hby d3_6) (fun _ hwv => ⟨rfl, e0, (hH.go (B := (s.setVm s.vm)) hZ wl hwv (Keep.refl h0 []) all0), (by decide : 0 + 2 ≤ _), (by decide : 0 + 4 ≤ _)⟩)
  dsimp only [Pt.U, Pt.locs, Pt.cells, Pt.slots] at X1 l1 y1 z1 st1 hQ1 hS1 gr1 hH1
  rw [l1, y1, z1] at X1
  obtain ⟨X1, hS1, hZ, hown⟩ := rebS (own := "java/lang/String") hS0 (Nat.le_trans (Keep.refl h0 []).1 (Nat.le_of_eq (congrArg Array.size (e0 : s₁.heap = h0).symm))) X1 hS1 gr1 hZ hown
  obtain ⟨w_1, rfl, N1q, Kc1, Q1_0, Q1_1, Q1_2, Q1_3⟩ := hQ1
  have Kd1 : Keep h0 T1.heap [p0] := Kc1
  have sta_java_lang_String_COMPACT_STRINGS_1 := own_sta_keep S_COMPACT_STRINGS Kd1 (allS (own_E_plain E_p0) all0)
  have exa_p0_1 := E_p0.keep Kd1
  have arr_p1_1 := A_p1.keep Kd1 (ninS ne_p0_p1.symm nin0)
  have K1 := K0.trans Kd1 (allS (Or.inl (List.mem_of_getElem? (i := 0) rfl)) all0)
  have Z1 := Nat.le_trans Z0 Kd1.1
  have N1 := Fr.app N0 N1q
  obtain ⟨fs, hr, hrun, hended, hW1, hW2, hW3, hsame⟩ := X1.leaveW hS1 (Nat.le_trans (Keep.refl T1.heap []).1 (Nat.le_of_eq (congrArg Array.size (rfl : T1.heap = T1.heap).symm))) (v := none) (fun _ => rfl) (BodyLoose.notSynchronized Bd)
  refine ⟨_, _, pre2 _ ?_, hrun, hended, _, _, rfl, ?_, ?_, hW1, hW2, hW3, hsame.mono (by decide) (by decide)⟩
  · show Steps p.tables e below (s₁.setTop (mkF m 6 #[.val (.ref p0), .val (.ref p1)] [.null, (.int (0 : Int32)), (.int (0 : Int32)), (.ref p1), (.ref p0)])) _
    refine st1.trans ?_
    show Steps p.tables e below (T1.setTop (mkF m 9 #[.val (.ref p0), .val (.ref p1)] [])) _
    exact X1.returnOut hx Bd.returns (hb hby d3_9) hr
  · show Q_3t0 Z p0 p1 g_ cs_ h0 n0 _ T1.heap _
    have o1 := (by rfl : (f_4t0_1 g_ cs_) = f_3t0_1 g_ cs_)
    have r1 := Q1_2
    rw [o1] at r1
    have o2 := (by rfl : (f_4t0_2 g_ cs_) = f_3t0_2 g_ cs_)
    have r2 := Q1_3
    rw [o2] at r2
    exact ⟨w_1, rfl, N1, K1, Q1_0, Q1_1, r1, r2⟩
  · show own_H own_cs Z T1.vm T1.heap
    exact (hH1.go (B := (s.setVm T1.vm)) hZ wl X1.warmed (Keep.refl T1.heap []) all0)
theorem pd_4 : parseMethodDescriptor "([C)V" = some ⟨[(.array .char)], none⟩ := by decide +kernel
theorem d1_0 : decode method_4_code 0 = .ok (.lload_n 0, 1) := by decide +kernel
theorem d1_1 : decode method_4_code 1 = .ok (.ldc2_w 28, 3) := by decide +kernel
theorem d1_4 : decode method_4_code 4 = .ok (.land, 1) := by decide +kernel
theorem d1_5 : decode method_4_code 5 = .ok (.l2i, 1) := by decide +kernel
theorem d1_6 : decode method_4_code 6 = .ok (.istore_n 2, 1) := by decide +kernel
theorem d1_7 : decode method_4_code 7 = .ok (.iload_n 2, 1) := by decide +kernel
theorem d1_8 : decode method_4_code 8 = .ok (.newarray .char, 2) := by decide +kernel
theorem d1_10 : decode method_4_code 10 = .ok (.astore_n 3, 1) := by decide +kernel
theorem d1_11 : decode method_4_code 11 = .ok (.iload_n 2, 1) := by decide +kernel
theorem d1_12 : decode method_4_code 12 = .ok (.ifCond .le 11, 3) := by decide +kernel
theorem d1_23 : decode method_4_code 23 = .ok (.iload_n 2, 1) := by decide +kernel
theorem d1_24 : decode method_4_code 24 = .ok (.iconst 1, 1) := by decide +kernel
theorem d1_25 : decode method_4_code 25 = .ok (.if_icmp .le 11, 3) := by decide +kernel
theorem d1_36 : decode method_4_code 36 = .ok (.iload_n 2, 1) := by decide +kernel
theorem d1_37 : decode method_4_code 37 = .ok (.iconst 2, 1) := by decide +kernel
theorem d1_38 : decode method_4_code 38 = .ok (.if_icmp .le 11, 3) := by decide +kernel
theorem d1_49 : decode method_4_code 49 = .ok (.new 34, 3) := by decide +kernel
theorem d1_52 : decode method_4_code 52 = .ok (.dup, 1) := by decide +kernel
theorem d1_53 : decode method_4_code 53 = .ok (.aload_n 3, 1) := by decide +kernel
theorem d1_54 : decode method_4_code 54 = .ok (.invokespecial 36, 3) := by decide +kernel
theorem d1_57 : decode method_4_code 57 = .ok (.areturn, 1) := by decide +kernel
theorem pn_1 : plainName "com/example/sequeue/sequeue/route/MessageQueueEqualsPinLaw" = true := by first | (simp [plainName, overriddenIn]; done) | decide +kernel
theorem ef_1t0 (m : MethodId) (p0 : Int64) : entryFrame m #[(.long p0)] 4 = mkF m 0 #[.val (.long p0), .second, .unset, .unset] [] := by first | (simp [entryFrame, mkF, argsToLocals, Value.category]; done) | rfl
def f_1t0_1 (p0 : Int64) (cs_ : Int32) : Int32 := (f_3t0_1 own_zI cs_)
def f_1t0_2 (p0 : Int64) (cs_ : Int32) : Nat → Int32 := (f_3t0_2 own_zI cs_)
def Q_1t0 (Z : State) (p0 : Int64) (cs_ : Int32) (h0 : Heap) (n0 : Nat) (v : Option Value) (h : Heap) (L : List Loc) : Prop := ∃ r : Addr, ∃ w : Addr, v = some (.ref r) ∧ Fr n0 L ∧ h0.size ≤ r ∧ Keep h0 h [] ∧ Exa Z h r "java/lang/String" ∧ Fld Z h r "java/lang/String" "value" "[B" (.ref w) ∧ Fld Z h r "java/lang/String" "coder" "B" (.int (f_1t0_1 p0 cs_)) ∧ own_A Z h w .byte 0 (fun i => .int ((f_1t0_2 p0 cs_) i))
set_option maxRecDepth 65536 in
set_option maxHeartbeats 40000000 in
theorem rm_1t0 (l : Launch) (Z : State) (a0 : Array Value) (hw : ∀ d ∈ tables_1, d.before a0 Z = true) (ws : List Jvm.Cond) (p0 : Int64) (cs_ : Int32) (h0 : Heap) (n0 : Nat) (Z0 : n0 ≤ h0.size) (S_COMPACT_STRINGS : Sta Z h0 "java/lang/String" "COMPACT_STRINGS" "Z" (.int cs_)) (hcs : ¬ (cs_ = (0 : Int32))) (hlen : ((p0 &&& (3 : Int64)).toInt32) = (0 : Int32)) :
    MetFree l (⟨"com/example/sequeue/sequeue/route/MessageQueueEqualsPinLaw", "name", "(J)Ljava/lang/String;"⟩ : MethodName) (head1 (Jvm.Cond.code (⟨"com/example/sequeue/sequeue/route/MessageQueueEqualsPinLaw", "name", "(J)Ljava/lang/String;"⟩ : MethodName) method_4_code 4 (some (.object "java/lang/String")) :: ws) ({ frames := 5, cells := 6, slots := 20, locals := 90 } : Room)) (fun a U => a = #[(.long p0)] ∧ Z.Warmed39 U.vm ∧ U.heap = h0 ∧ own_H own_cs Z U.vm h0) (fun _ _ _ _ _ => True) (fun _ U o U' => ∃ v L, o = .returned v ∧ Q_1t0 Z p0 cs_ h0 n0 v U'.heap L ∧ own_H own_cs Z U'.vm U'.heap ∧ ReturnedEndW U o U' L ({ frames := 5, cells := 6, slots := 20, locals := 90 } : Room).cells ({ frames := 5, cells := 6, slots := 20, locals := 90 } : Room).slots) := by
  refine MetFree.of_bodySF (plainFor_of_name pn_1) hisR ?_
  intro p e s m args below meth c s₁ Bd hml0 hP hK
  obtain ⟨rfl, hZ, hh, hH⟩ := hP
  have hx := Bd.exec
  have hby := Bd.bytes
  have hml : c.maxLocals = 4 := hml0
  have hown : s.vm.findClass "com/example/sequeue/sequeue/route/MessageQueueEqualsPinLaw" = some m.cls := findClass_of_methodNamed Bd.named
  have hnm := (name_of_methodNamed Bd.named Bd.method).1
  have wl := own_wl hw
  have wS := own_wS hw
  have hS0 : s.Since s.vm h0.size := (State.WarmedH.refl s).since _
  have hZ : Z.Warmed39 (s.setVm s.vm).vm := hZ
  have hown : (s.setVm s.vm).vm.findClass "com/example/sequeue/sequeue/route/MessageQueueEqualsPinLaw" = some m.cls := hown
  have hH : own_H own_cs Z (s.setVm s.vm).vm h0 := hH
  have X0 : Stand p l e ({ frames := 5, cells := 6, slots := 20, locals := 90 } : Room) (s.setVm s.vm) m #[(.long p0)] below meth c s₁ [] 0 0 := Stand.of_body Bd
  have e0 : s₁.heap = h0 := by rw [← hh, Bd.state]; rfl
  have N0 := Fr.nil n0
  have K0 : Keep h0 h0 [] := Keep.refl h0 _
  have pre0 : ∀ t, Steps p.tables e below (s₁.setTop (mkF m 0 #[.val (.long p0), .second, .unset, .unset] [])) t → Steps p.tables e below (s₁.setTop (entryFrame m #[(.long p0)] 4)) t := fun t k => castTop (ef_1t0 m p0) k
  have pre1 : ∀ t, Steps p.tables e below (s₁.setTop (mkF m 6 #[.val (.long p0), .second, .unset, .unset] [(.int ((p0 &&& (3 : Int64)).toInt32))])) t → Steps p.tables e below (s₁.setTop (entryFrame m #[(.long p0)] 4)) t := by
    intro t k
    refine pre0 t ?_
    show Steps p.tables e below (s₁.setTop (mkF m 0 #[.val (.long p0), .second, .unset, .unset] [])) _
    refine XS.lloadN X0.here hx rfl (hb hby d1_0) rfl  ?_
    show Steps p.tables e below (s₁.setTop (mkF m 1 #[.val (.long p0), .second, .unset, .unset] [(.long p0)])) _
    refine X0.ldc2Long hx hown (mvT hZ (hw _ (List.mem_of_getElem? (i := 4) rfl))) (g := (mkF m 1 #[.val (.long p0), .second, .unset, .unset] [(.long p0)])) rfl (hb hby d1_1) _ ?_
    show Steps p.tables e below (s₁.setTop (mkF m 4 #[.val (.long p0), .second, .unset, .unset] [(.long (3 : Int64)), (.long p0)])) _
    refine XS.land X0.here hx rfl (hb hby d1_4) rfl ?_
    show Steps p.tables e below (s₁.setTop (mkF m 5 #[.val (.long p0), .second, .unset, .unset] [(.long (p0 &&& (3 : Int64)))])) _
    refine XS.l2i X0.here hx rfl (hb hby d1_5) rfl ?_
    exact k
  have preL : ∀ t, Steps p.tables e below (s₁.setTop (mkF m 6 #[.val (.long p0), .second, .unset, .unset] [(.int (0 : Int32))])) t → Steps p.tables e below (s₁.setTop (entryFrame m #[(.long p0)] 4)) t := by
    intro t k_
    refine pre1 t ?_
    rw [hlen]
    exact k_
  have pre2 : ∀ t, Steps p.tables e below (s₁.setTop (mkF m 8 #[.val (.long p0), .second, .val (.int (0 : Int32)), .unset] [(.int (0 : Int32))])) t → Steps p.tables e below (s₁.setTop (entryFrame m #[(.long p0)] 4)) t := by
    intro t k
    refine preL t ?_
    show Steps p.tables e below (s₁.setTop (mkF m 6 #[.val (.long p0), .second, .unset, .unset] [(.int (0 : Int32))])) _
    refine XS.istoreN X0.here hx rfl (hb hby d1_6) rfl (l' := #[.val (.long p0), .second, .val (.int (0 : Int32)), .unset]) rfl ?_
    show Steps p.tables e below (s₁.setTop (mkF m 7 #[.val (.long p0), .second, .val (.int (0 : Int32)), .unset] [])) _
    refine XS.iloadN X0.here hx rfl (hb hby d1_7) rfl  ?_
    exact k
  obtain ⟨T3, h3, b3, gb3, X3, e3, E3, A3, st3⟩ := own_newP X0 hx hZ (hw _ (List.mem_of_getElem? (i := 5) rfl)) e0 (g := (mkF m 8 #[.val (.long p0), .second, .val (.int (0 : Int32)), .unset] [(.int (0 : Int32))])) rfl (hb hby d1_8) rfl (by decide) (n := 0) rfl (G := fun i => .int (own_zI i)) (fun _ => rfl) (cap := 0) (by decide) (by decide) (by decide) (by decide)
  have sz_b3 : h0.size ≤ b3 := Nat.le_trans K0.1 (Nat.le_of_eq gb3.symm)
  have ge_b3 : n0 ≤ b3 := Nat.le_trans Z0 (Nat.le_of_eq gb3.symm)
  have sta_java_lang_String_COMPACT_STRINGS_3 := S_COMPACT_STRINGS.ext E3
  have K3 := K0.ext E3
  have Z3 := Nat.le_trans Z0 E3.1
  have szH_b3 : h0.size ≤ b3 := Nat.le_trans (Keep.refl h0 []).1 (Nat.le_of_eq gb3.symm)
  have KH3 := (Keep.refl h0 []).ext E3
  have pre4 : ∀ t, Steps p.tables e below (T3.setTop (mkF m 49 #[.val (.long p0), .second, .val (.int (0 : Int32)), .val (.ref b3)] [])) t → Steps p.tables e below (s₁.setTop (entryFrame m #[(.long p0)] 4)) t := by
    intro t k
    refine pre2 t ?_
    show Steps p.tables e below (s₁.setTop (mkF m 8 #[.val (.long p0), .second, .val (.int (0 : Int32)), .unset] [(.int (0 : Int32))])) _
    refine st3 _ ?_
    show Steps p.tables e below (T3.setTop (mkF m 10 #[.val (.long p0), .second, .val (.int (0 : Int32)), .unset] [(.ref b3)])) _
    refine XS.astoreN X3.here hx rfl (hb hby d1_10) rfl rfl (l' := #[.val (.long p0), .second, .val (.int (0 : Int32)), .val (.ref b3)]) rfl ?_
    show Steps p.tables e below (T3.setTop (mkF m 11 #[.val (.long p0), .second, .val (.int (0 : Int32)), .val (.ref b3)] [])) _
    refine XS.iloadN X3.here hx rfl (hb hby d1_11) rfl  ?_
    show Steps p.tables e below (T3.setTop (mkF m 12 #[.val (.long p0), .second, .val (.int (0 : Int32)), .val (.ref b3)] [(.int (0 : Int32))])) _
    refine XS.ifYes X3.here hx rfl (pc0 := 12) (pc' := 23) rfl (hb hby d1_12) rfl ((if0 _ _).trans (flt (by decide : ¬ ((0 : Int32) < (0 : Int32)))).2.2.2) (by decide) (by decide) ?_
    show Steps p.tables e below (T3.setTop (mkF m 23 #[.val (.long p0), .second, .val (.int (0 : Int32)), .val (.ref b3)] [])) _
    refine XS.iloadN X3.here hx rfl (hb hby d1_23) rfl  ?_
    show Steps p.tables e below (T3.setTop (mkF m 24 #[.val (.long p0), .second, .val (.int (0 : Int32)), .val (.ref b3)] [(.int (0 : Int32))])) _
    refine XS.iconst X3.here hx rfl (hb hby d1_24) ?_
    show Steps p.tables e below (T3.setTop (mkF m 25 #[.val (.long p0), .second, .val (.int (0 : Int32)), .val (.ref b3)] [(.int (1 : Int32)), (.int (0 : Int32))])) _
    refine XS.icmpYes X3.here hx rfl (pc0 := 25) (pc' := 36) rfl (hb hby d1_25) rfl (flt (by decide : ¬ ((1 : Int32) < (0 : Int32)))).2.2.2 (by decide) (by decide) ?_
    show Steps p.tables e below (T3.setTop (mkF m 36 #[.val (.long p0), .second, .val (.int (0 : Int32)), .val (.ref b3)] [])) _
    refine XS.iloadN X3.here hx rfl (hb hby d1_36) rfl  ?_
    show Steps p.tables e below (T3.setTop (mkF m 37 #[.val (.long p0), .second, .val (.int (0 : Int32)), .val (.ref b3)] [(.int (0 : Int32))])) _
    refine XS.iconst X3.here hx rfl (hb hby d1_37) ?_
    show Steps p.tables e below (T3.setTop (mkF m 38 #[.val (.long p0), .second, .val (.int (0 : Int32)), .val (.ref b3)] [(.int (2 : Int32)), (.int (0 : Int32))])) _
    refine XS.icmpYes X3.here hx rfl (pc0 := 38) (pc' := 49) rfl (hb hby d1_38) rfl (flt (by decide : ¬ ((2 : Int32) < (0 : Int32)))).2.2.2 (by decide) (by decide) ?_
    exact k
  obtain ⟨T5, h5, X5, e5, E5, A5, D5, -, st5⟩ := newO X3 hx hZ hown (hw _ (List.mem_of_getElem? (i := 10) rfl)) (hw _ (List.mem_of_getElem? (i := 11) rfl)) (hw _ (List.mem_of_getElem? (i := 12) rfl)) e3 (g := (mkF m 49 #[.val (.long p0), .second, .val (.int (0 : Int32)), .val (.ref b3)] [])) rfl (hb hby d1_49) (by decide) (by decide)
  obtain ⟨b5, gb5⟩ : ∃ z, z = h3.size := ⟨_, rfl⟩
  rw [← gb5] at A5 D5 st5
  have ne_b3_b5 : b3 ≠ b5 := Nat.ne_of_lt (Nat.lt_of_lt_of_le A3.lt (Nat.le_of_eq gb5.symm))
  have sz_b5 : h0.size ≤ b5 := Nat.le_trans K3.1 (Nat.le_of_eq gb5.symm)
  have ge_b5 : n0 ≤ b5 := Nat.le_trans Z3 (Nat.le_of_eq gb5.symm)
  have sta_java_lang_String_COMPACT_STRINGS_5 := sta_java_lang_String_COMPACT_STRINGS_3.ext E5
  have arr_b3_5 := A3.ext E5
  have K5 := K3.ext E5
  have Z5 := Nat.le_trans Z3 E5.1
  have szH_b5 : h0.size ≤ b5 := Nat.le_trans KH3.1 (Nat.le_of_eq gb5.symm)
  have KH5 := KH3.ext E5
  have F5_coder : Fld Z h5 b5 "java/lang/String" "coder" "B" (.int (0 : Int32)) := D5 (Or.inr (hw _ (List.mem_of_getElem? (i := 36) rfl))) (ty := .byte) (by decide)
  have F5_value : Fld Z h5 b5 "java/lang/String" "value" "[B" .null := D5 (Or.inr (hw _ (List.mem_of_getElem? (i := 38) rfl))) (ty := (.array .byte)) (by decide)
  have pre7 : ∀ t, Steps p.tables e below (T5.setTop (mkF m 54 #[.val (.long p0), .second, .val (.int (0 : Int32)), .val (.ref b3)] [(.ref b3), (.ref b5), (.ref b5)])) t → Steps p.tables e below (s₁.setTop (entryFrame m #[(.long p0)] 4)) t := by
    intro t k
    refine pre4 t ?_
    show Steps p.tables e below (T3.setTop (mkF m 49 #[.val (.long p0), .second, .val (.int (0 : Int32)), .val (.ref b3)] [])) _
    refine st5 _ ?_
    show Steps p.tables e below (T5.setTop (mkF m 52 #[.val (.long p0), .second, .val (.int (0 : Int32)), .val (.ref b3)] [(.ref b5)])) _
    refine XS.dup X5.here hx rfl (hb hby d1_52) rfl rfl ?_
    show Steps p.tables e below (T5.setTop (mkF m 53 #[.val (.long p0), .second, .val (.int (0 : Int32)), .val (.ref b3)] [(.ref b5), (.ref b5)])) _
    refine XS.aloadN X5.here hx rfl (hb hby d1_53) rfl rfl ?_
    exact k
  obtain ⟨_, _, ⟨T6, L6, k6, n6⟩, -, X6, hS6, gr6, ⟨Lc6, hQ6, hH6, l6, y6, z6⟩, st6⟩ := X5.specialBackS hx (y := (⟨"java/lang/String", "<init>", "([C)V"⟩ : MethodName)) rfl hown (mvT hZ (hw _ (List.mem_of_getElem? (i := 13) rfl))) (mvT hZ (hw _ (List.mem_of_getElem? (i := 14) rfl))) (mvT hZ (hw _ (List.mem_of_getElem? (i := 15) rfl))) (by decide) (own_backOfS (W := 1) (rm_3t0 l Z a0 hw [] b5 b3 own_zI cs_ h5 n0 Z5 A5 F5_value F5_coder ge_b5 arr_b3_5 ne_b3_b5.symm sta_java_lang_String_COMPACT_STRINGS_5 hcs) hZ (hw _ (List.mem_of_getElem? (i := 15) rfl)) (hw _ (List.mem_of_getElem? (i := 12) rfl)) (by decide) (by decide)) (g := (mkF m 54 #[.val (.long p0), .second, .val (.int (0 : Int32)), .val (.ref b3)] [(.ref b3), (.ref b5), (.ref b5)])) rfl (by rw [hml]; rfl) (Steps.refl _) (a := b5) (argsL := [(.ref b3)]) (rest := [(.ref b5)]) (lenOf pd_4 rfl) rfl (by show 2 * 0 + _ ≤ _; exact Nat.le_of_eq rfl) (hb hby d1_54) (fun _ hwv => ⟨rfl, e5, (hH.go (B := (s.setVm s.vm)) hZ wl hwv KH5 all0), (by decide : 2 + 2 ≤ _), (by decide : 4 + 4 ≤ _)⟩)
  dsimp only [Pt.U, Pt.locs, Pt.cells, Pt.slots] at X6 l6 y6 z6 st6 hQ6 hS6 gr6 hH6
  rw [l6, y6, z6] at X6
  obtain ⟨X6, hS6, hZ, hown⟩ := rebS (own := "com/example/sequeue/sequeue/route/MessageQueueEqualsPinLaw") hS0 (Nat.le_trans KH5.1 (Nat.le_of_eq (congrArg Array.size (e5 : T5.heap = h5).symm))) X6 hS6 gr6 hZ hown
  obtain ⟨w_6, rfl, N6q, Kc6, Q6_0, Q6_1, Q6_2, Q6_3⟩ := hQ6
  have Kd6 : Keep h5 T6.heap [b5] := Kc6
  have sta_java_lang_String_COMPACT_STRINGS_6 := own_sta_keep sta_java_lang_String_COMPACT_STRINGS_5 Kd6 (allS (own_E_plain A5) all0)
  have arr_b3_6 := arr_b3_5.keep Kd6 (ninS ne_b3_b5 nin0)
  have exa_b5_6 := A5.keep Kd6
  have K6 := K5.trans Kd6 (allS (Or.inr sz_b5) all0)
  have Z6 := Nat.le_trans Z5 Kd6.1
  have N6 := Fr.app N0 N6q
  obtain ⟨fs, hr, hrun, hended, hW1, hW2, hW3, hsame⟩ := X6.leaveW hS6 (Nat.le_trans (Keep.refl T6.heap []).1 (Nat.le_of_eq (congrArg Array.size (rfl : T6.heap = T6.heap).symm))) (v := some (.ref b5)) (fun h => by rw [Bd.returns] at h; cases h) (BodyLoose.notSynchronized Bd)
  refine ⟨_, _, pre7 _ ?_, hrun, hended, _, _, rfl, ?_, ?_, hW1, hW2, hW3, hsame.mono (by decide) (by decide)⟩
  · show Steps p.tables e below (T5.setTop (mkF m 54 #[.val (.long p0), .second, .val (.int (0 : Int32)), .val (.ref b3)] [(.ref b3), (.ref b5), (.ref b5)])) _
    refine st6.trans ?_
    show Steps p.tables e below (T6.setTop (mkF m 57 #[.val (.long p0), .second, .val (.int (0 : Int32)), .val (.ref b3)] [(.ref b5)])) _
    exact retOut X6 hx Bd.returns rfl (Or.inr (Or.inr (Or.inr (Or.inr ⟨rfl, rfl, rfl⟩)))) (hb hby d1_57) hr
  · show Q_1t0 Z p0 cs_ h0 n0 _ T6.heap _
    have o1 := (by rfl : (f_3t0_1 own_zI cs_) = f_1t0_1 p0 cs_)
    have r1 := Q6_2
    rw [o1] at r1
    have o2 := (by rfl : (f_3t0_2 own_zI cs_) = f_1t0_2 p0 cs_)
    have r2 := Q6_3
    rw [o2] at r2
    exact ⟨b5, w_6, rfl, N6, sz_b5, K6, Q6_0, Q6_1, r1, r2⟩
  · show own_H own_cs Z T6.vm T6.heap
    exact (hH6.go (B := (s.setVm T6.vm)) hZ wl X6.warmed (Keep.refl T6.heap []) all0)
theorem pd_5 : parseMethodDescriptor "(JI)C" = some ⟨[.long, .int], some .char⟩ := by decide +kernel
theorem d1_15 : decode method_4_code 15 = .ok (.aload_n 3, 1) := by decide +kernel
theorem d1_16 : decode method_4_code 16 = .ok (.iconst 0, 1) := by decide +kernel
theorem d1_17 : decode method_4_code 17 = .ok (.lload_n 0, 1) := by decide +kernel
theorem d1_18 : decode method_4_code 18 = .ok (.iconst 0, 1) := by decide +kernel
theorem d1_19 : decode method_4_code 19 = .ok (.invokestatic 30, 3) := by decide +kernel
theorem d1_22 : decode method_4_code 22 = .ok (.castore, 1) := by decide +kernel
theorem ef_1t1 (m : MethodId) (p0 : Int64) : entryFrame m #[(.long p0)] 4 = mkF m 0 #[.val (.long p0), .second, .unset, .unset] [] := by first | (simp [entryFrame, mkF, argsToLocals, Value.category]; done) | rfl
def f_1t1_1 (p0 : Int64) (cs_ : Int32) : Int32 := let g_22 : Nat → Int32 := (own_upd own_zI 0 (f_2 p0 (0 : Int32)).toUInt32.toUInt16.toUInt32.toInt32); (f_3t1_1 g_22 cs_)
def f_1t1_2 (p0 : Int64) (cs_ : Int32) : Nat → Int32 := let g_22 : Nat → Int32 := (own_upd own_zI 0 (f_2 p0 (0 : Int32)).toUInt32.toUInt16.toUInt32.toInt32); (f_3t1_2 g_22 cs_)
def Q_1t1 (Z : State) (p0 : Int64) (cs_ : Int32) (h0 : Heap) (n0 : Nat) (v : Option Value) (h : Heap) (L : List Loc) : Prop := ∃ r : Addr, ∃ w : Addr, v = some (.ref r) ∧ Fr n0 L ∧ h0.size ≤ r ∧ Keep h0 h [] ∧ Exa Z h r "java/lang/String" ∧ Fld Z h r "java/lang/String" "value" "[B" (.ref w) ∧ Fld Z h r "java/lang/String" "coder" "B" (.int (f_1t1_1 p0 cs_)) ∧ own_A Z h w .byte 1 (fun i => .int ((f_1t1_2 p0 cs_) i))
set_option maxRecDepth 65536 in
set_option maxHeartbeats 40000000 in
theorem rm_1t1 (l : Launch) (Z : State) (a0 : Array Value) (hw : ∀ d ∈ tables_1, d.before a0 Z = true) (ws : List Jvm.Cond) (p0 : Int64) (cs_ : Int32) (h0 : Heap) (n0 : Nat) (Z0 : n0 ≤ h0.size) (S_COMPACT_STRINGS : Sta Z h0 "java/lang/String" "COMPACT_STRINGS" "Z" (.int cs_)) (hcs : ¬ (cs_ = (0 : Int32))) (hlen : ((p0 &&& (3 : Int64)).toInt32) = (1 : Int32)) :
    MetFree l (⟨"com/example/sequeue/sequeue/route/MessageQueueEqualsPinLaw", "name", "(J)Ljava/lang/String;"⟩ : MethodName) (head1 (Jvm.Cond.code (⟨"com/example/sequeue/sequeue/route/MessageQueueEqualsPinLaw", "name", "(J)Ljava/lang/String;"⟩ : MethodName) method_4_code 4 (some (.object "java/lang/String")) :: ws) ({ frames := 5, cells := 6, slots := 20, locals := 90 } : Room)) (fun a U => a = #[(.long p0)] ∧ Z.Warmed39 U.vm ∧ U.heap = h0 ∧ own_H own_cs Z U.vm h0) (fun _ _ _ _ _ => True) (fun _ U o U' => ∃ v L, o = .returned v ∧ Q_1t1 Z p0 cs_ h0 n0 v U'.heap L ∧ own_H own_cs Z U'.vm U'.heap ∧ ReturnedEndW U o U' L ({ frames := 5, cells := 6, slots := 20, locals := 90 } : Room).cells ({ frames := 5, cells := 6, slots := 20, locals := 90 } : Room).slots) := by
  refine MetFree.of_bodySF (plainFor_of_name pn_1) hisR ?_
  intro p e s m args below meth c s₁ Bd hml0 hP hK
  obtain ⟨rfl, hZ, hh, hH⟩ := hP
  have hx := Bd.exec
  have hby := Bd.bytes
  have hml : c.maxLocals = 4 := hml0
  have hown : s.vm.findClass "com/example/sequeue/sequeue/route/MessageQueueEqualsPinLaw" = some m.cls := findClass_of_methodNamed Bd.named
  have hnm := (name_of_methodNamed Bd.named Bd.method).1
  have wl := own_wl hw
  have wS := own_wS hw
  have hS0 : s.Since s.vm h0.size := (State.WarmedH.refl s).since _
  have hZ : Z.Warmed39 (s.setVm s.vm).vm := hZ
  have hown : (s.setVm s.vm).vm.findClass "com/example/sequeue/sequeue/route/MessageQueueEqualsPinLaw" = some m.cls := hown
  have hH : own_H own_cs Z (s.setVm s.vm).vm h0 := hH
  have X0 : Stand p l e ({ frames := 5, cells := 6, slots := 20, locals := 90 } : Room) (s.setVm s.vm) m #[(.long p0)] below meth c s₁ [] 0 0 := Stand.of_body Bd
  have e0 : s₁.heap = h0 := by rw [← hh, Bd.state]; rfl
  have N0 := Fr.nil n0
  have K0 : Keep h0 h0 [] := Keep.refl h0 _
  have pre0 : ∀ t, Steps p.tables e below (s₁.setTop (mkF m 0 #[.val (.long p0), .second, .unset, .unset] [])) t → Steps p.tables e below (s₁.setTop (entryFrame m #[(.long p0)] 4)) t := fun t k => castTop (ef_1t1 m p0) k
  have pre1 : ∀ t, Steps p.tables e below (s₁.setTop (mkF m 6 #[.val (.long p0), .second, .unset, .unset] [(.int ((p0 &&& (3 : Int64)).toInt32))])) t → Steps p.tables e below (s₁.setTop (entryFrame m #[(.long p0)] 4)) t := by
    intro t k
    refine pre0 t ?_
    show Steps p.tables e below (s₁.setTop (mkF m 0 #[.val (.long p0), .second, .unset, .unset] [])) _
    refine XS.lloadN X0.here hx rfl (hb hby d1_0) rfl  ?_
    show Steps p.tables e below (s₁.setTop (mkF m 1 #[.val (.long p0), .second, .unset, .unset] [(.long p0)])) _
    refine X0.ldc2Long hx hown (mvT hZ (hw _ (List.mem_of_getElem? (i := 4) rfl))) (g := (mkF m 1 #[.val (.long p0), .second, .unset, .unset] [(.long p0)])) rfl (hb hby d1_1) _ ?_
    show Steps p.tables e below (s₁.setTop (mkF m 4 #[.val (.long p0), .second, .unset, .unset] [(.long (3 : Int64)), (.long p0)])) _
    refine XS.land X0.here hx rfl (hb hby d1_4) rfl ?_
    show Steps p.tables e below (s₁.setTop (mkF m 5 #[.val (.long p0), .second, .unset, .unset] [(.long (p0 &&& (3 : Int64)))])) _
    refine XS.l2i X0.here hx rfl (hb hby d1_5) rfl ?_
    exact k
  have preL : ∀ t, Steps p.tables e below (s₁.setTop (mkF m 6 #[.val (.long p0), .second, .unset, .unset] [(.int (1 : Int32))])) t → Steps p.tables e below (s₁.setTop (entryFrame m #[(.long p0)] 4)) t := by
    intro t k_
    refine pre1 t ?_
    rw [hlen]
    exact k_
  have pre2 : ∀ t, Steps p.tables e below (s₁.setTop (mkF m 8 #[.val (.long p0), .second, .val (.int (1 : Int32)), .unset] [(.int (1 : Int32))])) t → Steps p.tables e below (s₁.setTop (entryFrame m #[(.long p0)] 4)) t := by
    intro t k
    refine preL t ?_
    show Steps p.tables e below (s₁.setTop (mkF m 6 #[.val (.long p0), .second, .unset, .unset] [(.int (1 : Int32))])) _
    refine XS.istoreN X0.here hx rfl (hb hby d1_6) rfl (l' := #[.val (.long p0), .second, .val (.int (1 : Int32)), .unset]) rfl ?_
    show Steps p.tables e below (s₁.setTop (mkF m 7 #[.val (.long p0), .second, .val (.int (1 : Int32)), .unset] [])) _
    refine XS.iloadN X0.here hx rfl (hb hby d1_7) rfl  ?_
    exact k
  obtain ⟨T3, h3, b3, gb3, X3, e3, E3, A3, st3⟩ := own_newP X0 hx hZ (hw _ (List.mem_of_getElem? (i := 5) rfl)) e0 (g := (mkF m 8 #[.val (.long p0), .second, .val (.int (1 : Int32)), .unset] [(.int (1 : Int32))])) rfl (hb hby d1_8) rfl (by decide) (n := 1) rfl (G := fun i => .int (own_zI i)) (fun _ => rfl) (cap := 1) (by decide) (by decide) (by decide) (by decide)
  have sz_b3 : h0.size ≤ b3 := Nat.le_trans K0.1 (Nat.le_of_eq gb3.symm)
  have ge_b3 : n0 ≤ b3 := Nat.le_trans Z0 (Nat.le_of_eq gb3.symm)
  have sta_java_lang_String_COMPACT_STRINGS_3 := S_COMPACT_STRINGS.ext E3
  have K3 := K0.ext E3
  have Z3 := Nat.le_trans Z0 E3.1
  have szH_b3 : h0.size ≤ b3 := Nat.le_trans (Keep.refl h0 []).1 (Nat.le_of_eq gb3.symm)
  have KH3 := (Keep.refl h0 []).ext E3
  have pre5 : ∀ t, Steps p.tables e below (T3.setTop (mkF m 19 #[.val (.long p0), .second, .val (.int (1 : Int32)), .val (.ref b3)] [(.int (0 : Int32)), (.long p0), (.int (0 : Int32)), (.ref b3)])) t → Steps p.tables e below (s₁.setTop (entryFrame m #[(.long p0)] 4)) t := by
    intro t k
    refine pre2 t ?_
    show Steps p.tables e below (s₁.setTop (mkF m 8 #[.val (.long p0), .second, .val (.int (1 : Int32)), .unset] [(.int (1 : Int32))])) _
    refine st3 _ ?_
    show Steps p.tables e below (T3.setTop (mkF m 10 #[.val (.long p0), .second, .val (.int (1 : Int32)), .unset] [(.ref b3)])) _
    refine XS.astoreN X3.here hx rfl (hb hby d1_10) rfl rfl (l' := #[.val (.long p0), .second, .val (.int (1 : Int32)), .val (.ref b3)]) rfl ?_
    show Steps p.tables e below (T3.setTop (mkF m 11 #[.val (.long p0), .second, .val (.int (1 : Int32)), .val (.ref b3)] [])) _
    refine XS.iloadN X3.here hx rfl (hb hby d1_11) rfl  ?_
    show Steps p.tables e below (T3.setTop (mkF m 12 #[.val (.long p0), .second, .val (.int (1 : Int32)), .val (.ref b3)] [(.int (1 : Int32))])) _
    refine XS.ifNo X3.here hx rfl (hb hby d1_12) rfl ((if0 _ _).trans (tlt (by decide : (0 : Int32) < (1 : Int32))).2.2.2) ?_
    show Steps p.tables e below (T3.setTop (mkF m 15 #[.val (.long p0), .second, .val (.int (1 : Int32)), .val (.ref b3)] [])) _
    refine XS.aloadN X3.here hx rfl (hb hby d1_15) rfl rfl ?_
    show Steps p.tables e below (T3.setTop (mkF m 16 #[.val (.long p0), .second, .val (.int (1 : Int32)), .val (.ref b3)] [(.ref b3)])) _
    refine XS.iconst X3.here hx rfl (hb hby d1_16) ?_
    show Steps p.tables e below (T3.setTop (mkF m 17 #[.val (.long p0), .second, .val (.int (1 : Int32)), .val (.ref b3)] [(.int (0 : Int32)), (.ref b3)])) _
    refine XS.lloadN X3.here hx rfl (hb hby d1_17) rfl  ?_
    show Steps p.tables e below (T3.setTop (mkF m 18 #[.val (.long p0), .second, .val (.int (1 : Int32)), .val (.ref b3)] [(.long p0), (.int (0 : Int32)), (.ref b3)])) _
    refine XS.iconst X3.here hx rfl (hb hby d1_18) ?_
    exact k
  obtain ⟨_, _, ⟨T4, L4, k4, n4⟩, -, X4, ⟨Lc4, hQ4, l4, y4, z4⟩, st4⟩ := Jvm.LawKit.callS X3 hx (y := (⟨"com/example/sequeue/sequeue/route/MessageQueueEqualsPinLaw", "ch", "(JI)C"⟩ : MethodName)) hown (mvT hZ (hw _ (List.mem_of_getElem? (i := 6) rfl))) (mvT hZ (hw _ (List.mem_of_getElem? (i := 7) rfl))) (mvT hZ (hw _ (List.mem_of_getElem? (i := 2) rfl))) (mvT hZ (hw _ (List.mem_of_getElem? (i := 8) rfl))) (by decide) (backOf (W := 2) (rm_2 l Z a0 hw [] p0 (0 : Int32) h3 n0 Z3 ) hZ (hw _ (List.mem_of_getElem? (i := 8) rfl)) (hw _ (List.mem_of_getElem? (i := 2) rfl)) (by decide) (by decide)) (g := (mkF m 19 #[.val (.long p0), .second, .val (.int (1 : Int32)), .val (.ref b3)] [(.int (0 : Int32)), (.long p0), (.int (0 : Int32)), (.ref b3)])) rfl (by rw [hml]; rfl) (argsL := [(.long p0), (.int (0 : Int32))]) (rest := [(.int (0 : Int32)), (.ref b3)]) (lenOf pd_5 rfl) rfl (by show 2 * 0 + _ ≤ _; exact Nat.le_of_eq rfl) (hb hby d1_19) (fun _ _ => ⟨rfl, e3, (by decide : 1 + 0 ≤ _), (by decide : 1 + 0 ≤ _)⟩)
  dsimp only [Pt.U, Pt.locs, Pt.cells, Pt.slots] at X4 l4 y4 z4 st4 hQ4
  rw [l4, y4, z4] at X4
  obtain ⟨rfl, N4q, e4⟩ := hQ4
  have N4 := Fr.app N0 N4q
  have pre6 : ∀ t, Steps p.tables e below (T4.setTop (mkF m 22 #[.val (.long p0), .second, .val (.int (1 : Int32)), .val (.ref b3)] [(.int (f_2 p0 (0 : Int32))), (.int (0 : Int32)), (.ref b3)])) t → Steps p.tables e below (s₁.setTop (entryFrame m #[(.long p0)] 4)) t := by
    intro t k
    refine pre5 t ?_
    show Steps p.tables e below (T3.setTop (mkF m 19 #[.val (.long p0), .second, .val (.int (1 : Int32)), .val (.ref b3)] [(.int (0 : Int32)), (.long p0), (.int (0 : Int32)), (.ref b3)])) _
    refine st4 _ ?_
    exact k
  obtain ⟨T7, h7, X7, e7, W7, A7, st7⟩ := own_stC X4 hx hZ e4 A3 (j := (0 : Int32)) (x := (f_2 p0 (0 : Int32))) (k := 0) (by decide) (by decide) (by decide) (g := (mkF m 22 #[.val (.long p0), .second, .val (.int (1 : Int32)), .val (.ref b3)] [(.int (f_2 p0 (0 : Int32))), (.int (0 : Int32)), (.ref b3)])) rfl rfl (hb hby d1_22)
  obtain ⟨g_22, hg_22⟩ : ∃ z : Nat → Int32, z = (own_upd own_zI 0 (f_2 p0 (0 : Int32)).toUInt32.toUInt16.toUInt32.toInt32) := ⟨_, rfl⟩
  rw [← hg_22] at A7
  have sta_java_lang_String_COMPACT_STRINGS_7 := sta_java_lang_String_COMPACT_STRINGS_3.wr W7
  have K7 := K3.wr W7 (Or.inr sz_b3)
  have Z7 := Nat.le_trans Z3 (Nat.le_of_eq W7.size.symm)
  have N7 := Fr.snoc X7 N4 ge_b3
  have KH7 := KH3.wr W7 (Or.inr szH_b3)
  have pre8 : ∀ t, Steps p.tables e below (T7.setTop (mkF m 49 #[.val (.long p0), .second, .val (.int (1 : Int32)), .val (.ref b3)] [])) t → Steps p.tables e below (s₁.setTop (entryFrame m #[(.long p0)] 4)) t := by
    intro t k
    refine pre6 t ?_
    show Steps p.tables e below (T4.setTop (mkF m 22 #[.val (.long p0), .second, .val (.int (1 : Int32)), .val (.ref b3)] [(.int (f_2 p0 (0 : Int32))), (.int (0 : Int32)), (.ref b3)])) _
    refine st7 _ ?_
    show Steps p.tables e below (T7.setTop (mkF m 23 #[.val (.long p0), .second, .val (.int (1 : Int32)), .val (.ref b3)] [])) _
    refine XS.iloadN X7.here hx rfl (hb hby d1_23) rfl  ?_
    show Steps p.tables e below (T7.setTop (mkF m 24 #[.val (.long p0), .second, .val (.int (1 : Int32)), .val (.ref b3)] [(.int (1 : Int32))])) _
    refine XS.iconst X7.here hx rfl (hb hby d1_24) ?_
    show Steps p.tables e below (T7.setTop (mkF m 25 #[.val (.long p0), .second, .val (.int (1 : Int32)), .val (.ref b3)] [(.int (1 : Int32)), (.int (1 : Int32))])) _
    refine XS.icmpYes X7.here hx rfl (pc0 := 25) (pc' := 36) rfl (hb hby d1_25) rfl (flt (by decide : ¬ ((1 : Int32) < (1 : Int32)))).2.2.2 (by decide) (by decide) ?_
    show Steps p.tables e below (T7.setTop (mkF m 36 #[.val (.long p0), .second, .val (.int (1 : Int32)), .val (.ref b3)] [])) _
    refine XS.iloadN X7.here hx rfl (hb hby d1_36) rfl  ?_
    show Steps p.tables e below (T7.setTop (mkF m 37 #[.val (.long p0), .second, .val (.int (1 : Int32)), .val (.ref b3)] [(.int (1 : Int32))])) _
    refine XS.iconst X7.here hx rfl (hb hby d1_37) ?_
    show Steps p.tables e below (T7.setTop (mkF m 38 #[.val (.long p0), .second, .val (.int (1 : Int32)), .val (.ref b3)] [(.int (2 : Int32)), (.int (1 : Int32))])) _
    refine XS.icmpYes X7.here hx rfl (pc0 := 38) (pc' := 49) rfl (hb hby d1_38) rfl (flt (by decide : ¬ ((2 : Int32) < (1 : Int32)))).2.2.2 (by decide) (by decide) ?_
    exact k
  obtain ⟨T9, h9, X9, e9, E9, A9, D9, -, st9⟩ := newO X7 hx hZ hown (hw _ (List.mem_of_getElem? (i := 10) rfl)) (hw _ (List.mem_of_getElem? (i := 11) rfl)) (hw _ (List.mem_of_getElem? (i := 12) rfl)) e7 (g := (mkF m 49 #[.val (.long p0), .second, .val (.int (1 : Int32)), .val (.ref b3)] [])) rfl (hb hby d1_49) (by decide) (by decide)
  obtain ⟨b9, gb9⟩ : ∃ z, z = h7.size := ⟨_, rfl⟩
  rw [← gb9] at A9 D9 st9
  have ne_b3_b9 : b3 ≠ b9 := Nat.ne_of_lt (Nat.lt_of_lt_of_le A7.lt (Nat.le_of_eq gb9.symm))
  have sz_b9 : h0.size ≤ b9 := Nat.le_trans K7.1 (Nat.le_of_eq gb9.symm)
  have ge_b9 : n0 ≤ b9 := Nat.le_trans Z7 (Nat.le_of_eq gb9.symm)
  have sta_java_lang_String_COMPACT_STRINGS_9 := sta_java_lang_String_COMPACT_STRINGS_7.ext E9
  have arr_b3_9 := A7.ext E9
  have K9 := K7.ext E9
  have Z9 := Nat.le_trans Z7 E9.1
  have szH_b9 : h0.size ≤ b9 := Nat.le_trans KH7.1 (Nat.le_of_eq gb9.symm)
  have KH9 := KH7.ext E9
  have F9_coder : Fld Z h9 b9 "java/lang/String" "coder" "B" (.int (0 : Int32)) := D9 (Or.inr (hw _ (List.mem_of_getElem? (i := 36) rfl))) (ty := .byte) (by decide)
  have F9_value : Fld Z h9 b9 "java/lang/String" "value" "[B" .null := D9 (Or.inr (hw _ (List.mem_of_getElem? (i := 38) rfl))) (ty := (.array .byte)) (by decide)
  have pre11 : ∀ t, Steps p.tables e below (T9.setTop (mkF m 54 #[.val (.long p0), .second, .val (.int (1 : Int32)), .val (.ref b3)] [(.ref b3), (.ref b9), (.ref b9)])) t → Steps p.tables e below (s₁.setTop (entryFrame m #[(.long p0)] 4)) t := by
    intro t k
    refine pre8 t ?_
    show Steps p.tables e below (T7.setTop (mkF m 49 #[.val (.long p0), .second, .val (.int (1 : Int32)), .val (.ref b3)] [])) _
    refine st9 _ ?_
    show Steps p.tables e below (T9.setTop (mkF m 52 #[.val (.long p0), .second, .val (.int (1 : Int32)), .val (.ref b3)] [(.ref b9)])) _
    refine XS.dup X9.here hx rfl (hb hby d1_52) rfl rfl ?_
    show Steps p.tables e below (T9.setTop (mkF m 53 #[.val (.long p0), .second, .val (.int (1 : Int32)), .val (.ref b3)] [(.ref b9), (.ref b9)])) _
    refine XS.aloadN X9.here hx rfl (hb hby d1_53) rfl rfl ?_
    exact k
  obtain ⟨_, _, ⟨T10, L10, k10, n10⟩, -, X10, ⟨Lc10, hQ10, l10, y10, z10⟩, st10⟩ := X9.specialBack hx (y := (⟨"java/lang/String", "<init>", "([C)V"⟩ : MethodName)) rfl hown (mvT hZ (hw _ (List.mem_of_getElem? (i := 13) rfl))) (mvT hZ (hw _ (List.mem_of_getElem? (i := 14) rfl))) (mvT hZ (hw _ (List.mem_of_getElem? (i := 15) rfl))) (by decide) (backOf (W := 1) (rm_3t1 l Z a0 hw [] b9 b3 g_22 cs_ h9 n0 Z9 A9 F9_value F9_coder ge_b9 arr_b3_9 ne_b3_b9.symm sta_java_lang_String_COMPACT_STRINGS_9 hcs (by rw [hg_22]; exact own_c255 p0 0)) hZ (hw _ (List.mem_of_getElem? (i := 15) rfl)) (hw _ (List.mem_of_getElem? (i := 12) rfl)) (by decide) (by decide)) (g := (mkF m 54 #[.val (.long p0), .second, .val (.int (1 : Int32)), .val (.ref b3)] [(.ref b3), (.ref b9), (.ref b9)])) rfl (by rw [hml]; rfl) (Steps.refl _) (a := b9) (argsL := [(.ref b3)]) (rest := [(.ref b9)]) (lenOf pd_4 rfl) rfl (by show 2 * 0 + _ ≤ _; exact Nat.le_of_eq rfl) (hb hby d1_54) (fun _ _ => ⟨rfl, e9, (by decide : 2 + 1 ≤ _), (by decide : 5 + 1 ≤ _)⟩)
  dsimp only [Pt.U, Pt.locs, Pt.cells, Pt.slots] at X10 l10 y10 z10 st10 hQ10
  rw [l10, y10, z10] at X10
  obtain ⟨w_10, rfl, N10q, sz0_w_10, Kc10, Q10_0, Q10_1, Q10_2, Q10_3⟩ := hQ10
  have Kd10 : Keep h9 T10.heap [b9] := Kc10
  have ne_b3_w_10 : b3 ≠ w_10 := Nat.ne_of_lt (Nat.lt_of_lt_of_le arr_b3_9.lt sz0_w_10)
  have ne_b9_w_10 : b9 ≠ w_10 := Nat.ne_of_lt (Nat.lt_of_lt_of_le A9.lt sz0_w_10)
  have sz_w_10 : h0.size ≤ w_10 := Nat.le_trans K9.1 sz0_w_10
  have ge_w_10 : n0 ≤ w_10 := Nat.le_trans Z9 sz0_w_10
  have sta_java_lang_String_COMPACT_STRINGS_10 := own_sta_keep sta_java_lang_String_COMPACT_STRINGS_9 Kd10 (allS (own_E_plain A9) all0)
  have arr_b3_10 := arr_b3_9.keep Kd10 (ninS ne_b3_b9 nin0)
  have exa_b9_10 := A9.keep Kd10
  have K10 := K9.trans Kd10 (allS (Or.inr sz_b9) all0)
  have Z10 := Nat.le_trans Z9 Kd10.1
  have KH10 := KH9.trans Kd10 (allS (Or.inr szH_b9) all0)
  have N10 := Fr.app N7 N10q
  obtain ⟨fs, hr, hrun, hended, hW1, hW2, hW3, hsame⟩ := X10.leaveW hS0 (Nat.le_trans KH10.1 (Nat.le_of_eq (congrArg Array.size (rfl : T10.heap = T10.heap).symm))) (v := some (.ref b9)) (fun h => by rw [Bd.returns] at h; cases h) (BodyLoose.notSynchronized Bd)
  refine ⟨_, _, pre11 _ ?_, hrun, hended, _, _, rfl, ?_, ?_, hW1, hW2, hW3, hsame.mono (by decide) (by decide)⟩
  · show Steps p.tables e below (T9.setTop (mkF m 54 #[.val (.long p0), .second, .val (.int (1 : Int32)), .val (.ref b3)] [(.ref b3), (.ref b9), (.ref b9)])) _
    refine st10.trans ?_
    show Steps p.tables e below (T10.setTop (mkF m 57 #[.val (.long p0), .second, .val (.int (1 : Int32)), .val (.ref b3)] [(.ref b9)])) _
    exact retOut X10 hx Bd.returns rfl (Or.inr (Or.inr (Or.inr (Or.inr ⟨rfl, rfl, rfl⟩)))) (hb hby d1_57) hr
  · show Q_1t1 Z p0 cs_ h0 n0 _ T10.heap _
    have o1 := (by subst hg_22; rfl : (f_3t1_1 g_22 cs_) = f_1t1_1 p0 cs_)
    have r1 := Q10_2
    rw [o1] at r1
    have o2 := (by subst hg_22; rfl : (f_3t1_2 g_22 cs_) = f_1t1_2 p0 cs_)
    have r2 := Q10_3
    rw [o2] at r2
    exact ⟨b9, w_10, rfl, N10, sz_b9, K10, Q10_0, Q10_1, r1, r2⟩
  · show own_H own_cs Z T10.vm T10.heap
    exact (hH.go (B := (s.setVm s.vm)) hZ wl X10.warmed KH10 all0)
theorem d1_28 : decode method_4_code 28 = .ok (.aload_n 3, 1) := by decide +kernel
theorem d1_29 : decode method_4_code 29 = .ok (.iconst 1, 1) := by decide +kernel
theorem d1_30 : decode method_4_code 30 = .ok (.lload_n 0, 1) := by decide +kernel
theorem d1_31 : decode method_4_code 31 = .ok (.iconst 1, 1) := by decide +kernel
theorem d1_32 : decode method_4_code 32 = .ok (.invokestatic 30, 3) := by decide +kernel
theorem d1_35 : decode method_4_code 35 = .ok (.castore, 1) := by decide +kernel
theorem ef_1t2 (m : MethodId) (p0 : Int64) : entryFrame m #[(.long p0)] 4 = mkF m 0 #[.val (.long p0), .second, .unset, .unset] [] := by first | (simp [entryFrame, mkF, argsToLocals, Value.category]; done) | rfl
def f_1t2_1 (p0 : Int64) (cs_ : Int32) : Int32 := let g_22 : Nat → Int32 := (own_upd own_zI 0 (f_2 p0 (0 : Int32)).toUInt32.toUInt16.toUInt32.toInt32); let g_35 : Nat → Int32 := (own_upd g_22 1 (f_2 p0 (1 : Int32)).toUInt32.toUInt16.toUInt32.toInt32); (f_3t2_1 g_35 cs_)
def f_1t2_2 (p0 : Int64) (cs_ : Int32) : Nat → Int32 := let g_22 : Nat → Int32 := (own_upd own_zI 0 (f_2 p0 (0 : Int32)).toUInt32.toUInt16.toUInt32.toInt32); let g_35 : Nat → Int32 := (own_upd g_22 1 (f_2 p0 (1 : Int32)).toUInt32.toUInt16.toUInt32.toInt32); (f_3t2_2 g_35 cs_)
def Q_1t2 (Z : State) (p0 : Int64) (cs_ : Int32) (h0 : Heap) (n0 : Nat) (v : Option Value) (h : Heap) (L : List Loc) : Prop := ∃ r : Addr, ∃ w : Addr, v = some (.ref r) ∧ Fr n0 L ∧ h0.size ≤ r ∧ Keep h0 h [] ∧ Exa Z h r "java/lang/String" ∧ Fld Z h r "java/lang/String" "value" "[B" (.ref w) ∧ Fld Z h r "java/lang/String" "coder" "B" (.int (f_1t2_1 p0 cs_)) ∧ own_A Z h w .byte 2 (fun i => .int ((f_1t2_2 p0 cs_) i))
set_option maxRecDepth 65536 in
set_option maxHeartbeats 40000000 in
theorem rm_1t2 (l : Launch) (Z : State) (a0 : Array Value) (hw : ∀ d ∈ tables_1, d.before a0 Z = true) (ws : List Jvm.Cond) (p0 : Int64) (cs_ : Int32) (h0 : Heap) (n0 : Nat) (Z0 : n0 ≤ h0.size) (S_COMPACT_STRINGS : Sta Z h0 "java/lang/String" "COMPACT_STRINGS" "Z" (.int cs_)) (hcs : ¬ (cs_ = (0 : Int32))) (hlen : ((p0 &&& (3 : Int64)).toInt32) = (2 : Int32)) :
    MetFree l (⟨"com/example/sequeue/sequeue/route/MessageQueueEqualsPinLaw", "name", "(J)Ljava/lang/String;"⟩ : MethodName) (head1 (Jvm.Cond.code (⟨"com/example/sequeue/sequeue/route/MessageQueueEqualsPinLaw", "name", "(J)Ljava/lang/String;"⟩ : MethodName) method_4_code 4 (some (.object "java/lang/String")) :: ws) ({ frames := 5, cells := 6, slots := 20, locals := 90 } : Room)) (fun a U => a = #[(.long p0)] ∧ Z.Warmed39 U.vm ∧ U.heap = h0 ∧ own_H own_cs Z U.vm h0) (fun _ _ _ _ _ => True) (fun _ U o U' => ∃ v L, o = .returned v ∧ Q_1t2 Z p0 cs_ h0 n0 v U'.heap L ∧ own_H own_cs Z U'.vm U'.heap ∧ ReturnedEndW U o U' L ({ frames := 5, cells := 6, slots := 20, locals := 90 } : Room).cells ({ frames := 5, cells := 6, slots := 20, locals := 90 } : Room).slots) := by
  refine MetFree.of_bodySF (plainFor_of_name pn_1) hisR ?_
  intro p e s m args below meth c s₁ Bd hml0 hP hK
  obtain ⟨rfl, hZ, hh, hH⟩ := hP
  have hx := Bd.exec
  have hby := Bd.bytes
  have hml : c.maxLocals = 4 := hml0
  have hown : s.vm.findClass "com/example/sequeue/sequeue/route/MessageQueueEqualsPinLaw" = some m.cls := findClass_of_methodNamed Bd.named
  have hnm := (name_of_methodNamed Bd.named Bd.method).1
  have wl := own_wl hw
  have wS := own_wS hw
  have hS0 : s.Since s.vm h0.size := (State.WarmedH.refl s).since _
  have hZ : Z.Warmed39 (s.setVm s.vm).vm := hZ
  have hown : (s.setVm s.vm).vm.findClass "com/example/sequeue/sequeue/route/MessageQueueEqualsPinLaw" = some m.cls := hown
  have hH : own_H own_cs Z (s.setVm s.vm).vm h0 := hH
  have X0 : Stand p l e ({ frames := 5, cells := 6, slots := 20, locals := 90 } : Room) (s.setVm s.vm) m #[(.long p0)] below meth c s₁ [] 0 0 := Stand.of_body Bd
  have e0 : s₁.heap = h0 := by rw [← hh, Bd.state]; rfl
  have N0 := Fr.nil n0
  have K0 : Keep h0 h0 [] := Keep.refl h0 _
  have pre0 : ∀ t, Steps p.tables e below (s₁.setTop (mkF m 0 #[.val (.long p0), .second, .unset, .unset] [])) t → Steps p.tables e below (s₁.setTop (entryFrame m #[(.long p0)] 4)) t := fun t k => castTop (ef_1t2 m p0) k
  have pre1 : ∀ t, Steps p.tables e below (s₁.setTop (mkF m 6 #[.val (.long p0), .second, .unset, .unset] [(.int ((p0 &&& (3 : Int64)).toInt32))])) t → Steps p.tables e below (s₁.setTop (entryFrame m #[(.long p0)] 4)) t := by
    intro t k
    refine pre0 t ?_
    show Steps p.tables e below (s₁.setTop (mkF m 0 #[.val (.long p0), .second, .unset, .unset] [])) _
    refine XS.lloadN X0.here hx rfl (hb hby d1_0) rfl  ?_
    show Steps p.tables e below (s₁.setTop (mkF m 1 #[.val (.long p0), .second, .unset, .unset] [(.long p0)])) _
    refine X0.ldc2Long hx hown (mvT hZ (hw _ (List.mem_of_getElem? (i := 4) rfl))) (g := (mkF m 1 #[.val (.long p0), .second, .unset, .unset] [(.long p0)])) rfl (hb hby d1_1) _ ?_
    show Steps p.tables e below (s₁.setTop (mkF m 4 #[.val (.long p0), .second, .unset, .unset] [(.long (3 : Int64)), (.long p0)])) _
    refine XS.land X0.here hx rfl (hb hby d1_4) rfl ?_
    show Steps p.tables e below (s₁.setTop (mkF m 5 #[.val (.long p0), .second, .unset, .unset] [(.long (p0 &&& (3 : Int64)))])) _
    refine XS.l2i X0.here hx rfl (hb hby d1_5) rfl ?_
    exact k
  have preL : ∀ t, Steps p.tables e below (s₁.setTop (mkF m 6 #[.val (.long p0), .second, .unset, .unset] [(.int (2 : Int32))])) t → Steps p.tables e below (s₁.setTop (entryFrame m #[(.long p0)] 4)) t := by
    intro t k_
    refine pre1 t ?_
    rw [hlen]
    exact k_
  have pre2 : ∀ t, Steps p.tables e below (s₁.setTop (mkF m 8 #[.val (.long p0), .second, .val (.int (2 : Int32)), .unset] [(.int (2 : Int32))])) t → Steps p.tables e below (s₁.setTop (entryFrame m #[(.long p0)] 4)) t := by
    intro t k
    refine preL t ?_
    show Steps p.tables e below (s₁.setTop (mkF m 6 #[.val (.long p0), .second, .unset, .unset] [(.int (2 : Int32))])) _
    refine XS.istoreN X0.here hx rfl (hb hby d1_6) rfl (l' := #[.val (.long p0), .second, .val (.int (2 : Int32)), .unset]) rfl ?_
    show Steps p.tables e below (s₁.setTop (mkF m 7 #[.val (.long p0), .second, .val (.int (2 : Int32)), .unset] [])) _
    refine XS.iloadN X0.here hx rfl (hb hby d1_7) rfl  ?_
    exact k
  obtain ⟨T3, h3, b3, gb3, X3, e3, E3, A3, st3⟩ := own_newP X0 hx hZ (hw _ (List.mem_of_getElem? (i := 5) rfl)) e0 (g := (mkF m 8 #[.val (.long p0), .second, .val (.int (2 : Int32)), .unset] [(.int (2 : Int32))])) rfl (hb hby d1_8) rfl (by decide) (n := 2) rfl (G := fun i => .int (own_zI i)) (fun _ => rfl) (cap := 2) (by decide) (by decide) (by decide) (by decide)
  have sz_b3 : h0.size ≤ b3 := Nat.le_trans K0.1 (Nat.le_of_eq gb3.symm)
  have ge_b3 : n0 ≤ b3 := Nat.le_trans Z0 (Nat.le_of_eq gb3.symm)
  have sta_java_lang_String_COMPACT_STRINGS_3 := S_COMPACT_STRINGS.ext E3
  have K3 := K0.ext E3
  have Z3 := Nat.le_trans Z0 E3.1
  have szH_b3 : h0.size ≤ b3 := Nat.le_trans (Keep.refl h0 []).1 (Nat.le_of_eq gb3.symm)
  have KH3 := (Keep.refl h0 []).ext E3
  have pre5 : ∀ t, Steps p.tables e below (T3.setTop (mkF m 19 #[.val (.long p0), .second, .val (.int (2 : Int32)), .val (.ref b3)] [(.int (0 : Int32)), (.long p0), (.int (0 : Int32)), (.ref b3)])) t → Steps p.tables e below (s₁.setTop (entryFrame m #[(.long p0)] 4)) t := by
    intro t k
    refine pre2 t ?_
    show Steps p.tables e below (s₁.setTop (mkF m 8 #[.val (.long p0), .second, .val (.int (2 : Int32)), .unset] [(.int (2 : Int32))])) _
    refine st3 _ ?_
    show Steps p.tables e below (T3.setTop (mkF m 10 #[.val (.long p0), .second, .val (.int (2 : Int32)), .unset] [(.ref b3)])) _
    refine XS.astoreN X3.here hx rfl (hb hby d1_10) rfl rfl (l' := #[.val (.long p0), .second, .val (.int (2 : Int32)), .val (.ref b3)]) rfl ?_
    show Steps p.tables e below (T3.setTop (mkF m 11 #[.val (.long p0), .second, .val (.int (2 : Int32)), .val (.ref b3)] [])) _
    refine XS.iloadN X3.here hx rfl (hb hby d1_11) rfl  ?_
    show Steps p.tables e below (T3.setTop (mkF m 12 #[.val (.long p0), .second, .val (.int (2 : Int32)), .val (.ref b3)] [(.int (2 : Int32))])) _
    refine XS.ifNo X3.here hx rfl (hb hby d1_12) rfl ((if0 _ _).trans (tlt (by decide : (0 : Int32) < (2 : Int32))).2.2.2) ?_
    show Steps p.tables e below (T3.setTop (mkF m 15 #[.val (.long p0), .second, .val (.int (2 : Int32)), .val (.ref b3)] [])) _
    refine XS.aloadN X3.here hx rfl (hb hby d1_15) rfl rfl ?_
    show Steps p.tables e below (T3.setTop (mkF m 16 #[.val (.long p0), .second, .val (.int (2 : Int32)), .val (.ref b3)] [(.ref b3)])) _
    refine XS.iconst X3.here hx rfl (hb hby d1_16) ?_
    show Steps p.tables e below (T3.setTop (mkF m 17 #[.val (.long p0), .second, .val (.int (2 : Int32)), .val (.ref b3)] [(.int (0 : Int32)), (.ref b3)])) _
    refine XS.lloadN X3.here hx rfl (hb hby d1_17) rfl  ?_
    show Steps p.tables e below (T3.setTop (mkF m 18 #[.val (.long p0), .second, .val (.int (2 : Int32)), .val (.ref b3)] [(.long p0), (.int (0 : Int32)), (.ref b3)])) _
    refine XS.iconst X3.here hx rfl (hb hby d1_18) ?_
    exact k
  obtain ⟨_, _, ⟨T4, L4, k4, n4⟩, -, X4, ⟨Lc4, hQ4, l4, y4, z4⟩, st4⟩ := Jvm.LawKit.callS X3 hx (y := (⟨"com/example/sequeue/sequeue/route/MessageQueueEqualsPinLaw", "ch", "(JI)C"⟩ : MethodName)) hown (mvT hZ (hw _ (List.mem_of_getElem? (i := 6) rfl))) (mvT hZ (hw _ (List.mem_of_getElem? (i := 7) rfl))) (mvT hZ (hw _ (List.mem_of_getElem? (i := 2) rfl))) (mvT hZ (hw _ (List.mem_of_getElem? (i := 8) rfl))) (by decide) (backOf (W := 2) (rm_2 l Z a0 hw [] p0 (0 : Int32) h3 n0 Z3 ) hZ (hw _ (List.mem_of_getElem? (i := 8) rfl)) (hw _ (List.mem_of_getElem? (i := 2) rfl)) (by decide) (by decide)) (g := (mkF m 19 #[.val (.long p0), .second, .val (.int (2 : Int32)), .val (.ref b3)] [(.int (0 : Int32)), (.long p0), (.int (0 : Int32)), (.ref b3)])) rfl (by rw [hml]; rfl) (argsL := [(.long p0), (.int (0 : Int32))]) (rest := [(.int (0 : Int32)), (.ref b3)]) (lenOf pd_5 rfl) rfl (by show 2 * 0 + _ ≤ _; exact Nat.le_of_eq rfl) (hb hby d1_19) (fun _ _ => ⟨rfl, e3, (by decide : 1 + 0 ≤ _), (by decide : 2 + 0 ≤ _)⟩)
  dsimp only [Pt.U, Pt.locs, Pt.cells, Pt.slots] at X4 l4 y4 z4 st4 hQ4
  rw [l4, y4, z4] at X4
  obtain ⟨rfl, N4q, e4⟩ := hQ4
  have N4 := Fr.app N0 N4q
  have pre6 : ∀ t, Steps p.tables e below (T4.setTop (mkF m 22 #[.val (.long p0), .second, .val (.int (2 : Int32)), .val (.ref b3)] [(.int (f_2 p0 (0 : Int32))), (.int (0 : Int32)), (.ref b3)])) t → Steps p.tables e below (s₁.setTop (entryFrame m #[(.long p0)] 4)) t := by
    intro t k
    refine pre5 t ?_
    show Steps p.tables e below (T3.setTop (mkF m 19 #[.val (.long p0), .second, .val (.int (2 : Int32)), .val (.ref b3)] [(.int (0 : Int32)), (.long p0), (.int (0 : Int32)), (.ref b3)])) _
    refine st4 _ ?_
    exact k
  obtain ⟨T7, h7, X7, e7, W7, A7, st7⟩ := own_stC X4 hx hZ e4 A3 (j := (0 : Int32)) (x := (f_2 p0 (0 : Int32))) (k := 0) (by decide) (by decide) (by decide) (g := (mkF m 22 #[.val (.long p0), .second, .val (.int (2 : Int32)), .val (.ref b3)] [(.int (f_2 p0 (0 : Int32))), (.int (0 : Int32)), (.ref b3)])) rfl rfl (hb hby d1_22)
  obtain ⟨g_22, hg_22⟩ : ∃ z : Nat → Int32, z = (own_upd own_zI 0 (f_2 p0 (0 : Int32)).toUInt32.toUInt16.toUInt32.toInt32) := ⟨_, rfl⟩
  rw [← hg_22] at A7
  have sta_java_lang_String_COMPACT_STRINGS_7 := sta_java_lang_String_COMPACT_STRINGS_3.wr W7
  have K7 := K3.wr W7 (Or.inr sz_b3)
  have Z7 := Nat.le_trans Z3 (Nat.le_of_eq W7.size.symm)
  have N7 := Fr.snoc X7 N4 ge_b3
  have KH7 := KH3.wr W7 (Or.inr szH_b3)
  have pre9 : ∀ t, Steps p.tables e below (T7.setTop (mkF m 32 #[.val (.long p0), .second, .val (.int (2 : Int32)), .val (.ref b3)] [(.int (1 : Int32)), (.long p0), (.int (1 : Int32)), (.ref b3)])) t → Steps p.tables e below (s₁.setTop (entryFrame m #[(.long p0)] 4)) t := by
    intro t k
    refine pre6 t ?_
    show Steps p.tables e below (T4.setTop (mkF m 22 #[.val (.long p0), .second, .val (.int (2 : Int32)), .val (.ref b3)] [(.int (f_2 p0 (0 : Int32))), (.int (0 : Int32)), (.ref b3)])) _
    refine st7 _ ?_
    show Steps p.tables e below (T7.setTop (mkF m 23 #[.val (.long p0), .second, .val (.int (2 : Int32)), .val (.ref b3)] [])) _
    refine XS.iloadN X7.here hx rfl (hb hby d1_23) rfl  ?_
    show Steps p.tables e below (T7.setTop (mkF m 24 #[.val (.long p0), .second, .val (.int (2 : Int32)), .val (.ref b3)] [(.int (2 : Int32))])) _
    refine XS.iconst X7.here hx rfl (hb hby d1_24) ?_
    show Steps p.tables e below (T7.setTop (mkF m 25 #[.val (.long p0), .second, .val (.int (2 : Int32)), .val (.ref b3)] [(.int (1 : Int32)), (.int (2 : Int32))])) _
    refine XS.icmpNo X7.here hx rfl (hb hby d1_25) rfl (tlt (by decide : (1 : Int32) < (2 : Int32))).2.2.2 ?_
    show Steps p.tables e below (T7.setTop (mkF m 28 #[.val (.long p0), .second, .val (.int (2 : Int32)), .val (.ref b3)] [])) _
    refine XS.aloadN X7.here hx rfl (hb hby d1_28) rfl rfl ?_
    show Steps p.tables e below (T7.setTop (mkF m 29 #[.val (.long p0), .second, .val (.int (2 : Int32)), .val (.ref b3)] [(.ref b3)])) _
    refine XS.iconst X7.here hx rfl (hb hby d1_29) ?_
    show Steps p.tables e below (T7.setTop (mkF m 30 #[.val (.long p0), .second, .val (.int (2 : Int32)), .val (.ref b3)] [(.int (1 : Int32)), (.ref b3)])) _
    refine XS.lloadN X7.here hx rfl (hb hby d1_30) rfl  ?_
    show Steps p.tables e below (T7.setTop (mkF m 31 #[.val (.long p0), .second, .val (.int (2 : Int32)), .val (.ref b3)] [(.long p0), (.int (1 : Int32)), (.ref b3)])) _
    refine XS.iconst X7.here hx rfl (hb hby d1_31) ?_
    exact k
  obtain ⟨_, _, ⟨T8, L8, k8, n8⟩, -, X8, ⟨Lc8, hQ8, l8, y8, z8⟩, st8⟩ := Jvm.LawKit.callS X7 hx (y := (⟨"com/example/sequeue/sequeue/route/MessageQueueEqualsPinLaw", "ch", "(JI)C"⟩ : MethodName)) hown (mvT hZ (hw _ (List.mem_of_getElem? (i := 6) rfl))) (mvT hZ (hw _ (List.mem_of_getElem? (i := 7) rfl))) (mvT hZ (hw _ (List.mem_of_getElem? (i := 2) rfl))) (mvT hZ (hw _ (List.mem_of_getElem? (i := 8) rfl))) (by decide) (backOf (W := 2) (rm_2 l Z a0 hw [] p0 (1 : Int32) h7 n0 Z7 ) hZ (hw _ (List.mem_of_getElem? (i := 8) rfl)) (hw _ (List.mem_of_getElem? (i := 2) rfl)) (by decide) (by decide)) (g := (mkF m 32 #[.val (.long p0), .second, .val (.int (2 : Int32)), .val (.ref b3)] [(.int (1 : Int32)), (.long p0), (.int (1 : Int32)), (.ref b3)])) rfl (by rw [hml]; rfl) (argsL := [(.long p0), (.int (1 : Int32))]) (rest := [(.int (1 : Int32)), (.ref b3)]) (lenOf pd_5 rfl) rfl (by show 2 * 0 + _ ≤ _; exact Nat.le_of_eq rfl) (hb hby d1_32) (fun _ _ => ⟨rfl, e7, (by decide : 1 + 0 ≤ _), (by decide : 2 + 0 ≤ _)⟩)
  dsimp only [Pt.U, Pt.locs, Pt.cells, Pt.slots] at X8 l8 y8 z8 st8 hQ8
  rw [l8, y8, z8] at X8
  obtain ⟨rfl, N8q, e8⟩ := hQ8
  have N8 := Fr.app N7 N8q
  have pre10 : ∀ t, Steps p.tables e below (T8.setTop (mkF m 35 #[.val (.long p0), .second, .val (.int (2 : Int32)), .val (.ref b3)] [(.int (f_2 p0 (1 : Int32))), (.int (1 : Int32)), (.ref b3)])) t → Steps p.tables e below (s₁.setTop (entryFrame m #[(.long p0)] 4)) t := by
    intro t k
    refine pre9 t ?_
    show Steps p.tables e below (T7.setTop (mkF m 32 #[.val (.long p0), .second, .val (.int (2 : Int32)), .val (.ref b3)] [(.int (1 : Int32)), (.long p0), (.int (1 : Int32)), (.ref b3)])) _
    refine st8 _ ?_
    exact k
  obtain ⟨T11, h11, X11, e11, W11, A11, st11⟩ := own_stC X8 hx hZ e8 A7 (j := (1 : Int32)) (x := (f_2 p0 (1 : Int32))) (k := 1) (by decide) (by decide) (by decide) (g := (mkF m 35 #[.val (.long p0), .second, .val (.int (2 : Int32)), .val (.ref b3)] [(.int (f_2 p0 (1 : Int32))), (.int (1 : Int32)), (.ref b3)])) rfl rfl (hb hby d1_35)
  obtain ⟨g_35, hg_35⟩ : ∃ z : Nat → Int32, z = (own_upd g_22 1 (f_2 p0 (1 : Int32)).toUInt32.toUInt16.toUInt32.toInt32) := ⟨_, rfl⟩
  rw [← hg_35] at A11
  have sta_java_lang_String_COMPACT_STRINGS_11 := sta_java_lang_String_COMPACT_STRINGS_7.wr W11
  have K11 := K7.wr W11 (Or.inr sz_b3)
  have Z11 := Nat.le_trans Z7 (Nat.le_of_eq W11.size.symm)
  have N11 := Fr.snoc X11 N8 ge_b3
  have KH11 := KH7.wr W11 (Or.inr szH_b3)
  have pre12 : ∀ t, Steps p.tables e below (T11.setTop (mkF m 49 #[.val (.long p0), .second, .val (.int (2 : Int32)), .val (.ref b3)] [])) t → Steps p.tables e below (s₁.setTop (entryFrame m #[(.long p0)] 4)) t := by
    intro t k
    refine pre10 t ?_
    show Steps p.tables e below (T8.setTop (mkF m 35 #[.val (.long p0), .second, .val (.int (2 : Int32)), .val (.ref b3)] [(.int (f_2 p0 (1 : Int32))), (.int (1 : Int32)), (.ref b3)])) _
    refine st11 _ ?_
    show Steps p.tables e below (T11.setTop (mkF m 36 #[.val (.long p0), .second, .val (.int (2 : Int32)), .val (.ref b3)] [])) _
    refine XS.iloadN X11.here hx rfl (hb hby d1_36) rfl  ?_
    show Steps p.tables e below (T11.setTop (mkF m 37 #[.val (.long p0), .second, .val (.int (2 : Int32)), .val (.ref b3)] [(.int (2 : Int32))])) _
    refine XS.iconst X11.here hx rfl (hb hby d1_37) ?_
    show Steps p.tables e below (T11.setTop (mkF m 38 #[.val (.long p0), .second, .val (.int (2 : Int32)), .val (.ref b3)] [(.int (2 : Int32)), (.int (2 : Int32))])) _
    refine XS.icmpYes X11.here hx rfl (pc0 := 38) (pc' := 49) rfl (hb hby d1_38) rfl (flt (by decide : ¬ ((2 : Int32) < (2 : Int32)))).2.2.2 (by decide) (by decide) ?_
    exact k
  obtain ⟨T13, h13, X13, e13, E13, A13, D13, -, st13⟩ := newO X11 hx hZ hown (hw _ (List.mem_of_getElem? (i := 10) rfl)) (hw _ (List.mem_of_getElem? (i := 11) rfl)) (hw _ (List.mem_of_getElem? (i := 12) rfl)) e11 (g := (mkF m 49 #[.val (.long p0), .second, .val (.int (2 : Int32)), .val (.ref b3)] [])) rfl (hb hby d1_49) (by decide) (by decide)
  obtain ⟨b13, gb13⟩ : ∃ z, z = h11.size := ⟨_, rfl⟩
  rw [← gb13] at A13 D13 st13
  have ne_b3_b13 : b3 ≠ b13 := Nat.ne_of_lt (Nat.lt_of_lt_of_le A11.lt (Nat.le_of_eq gb13.symm))
  have sz_b13 : h0.size ≤ b13 := Nat.le_trans K11.1 (Nat.le_of_eq gb13.symm)
  have ge_b13 : n0 ≤ b13 := Nat.le_trans Z11 (Nat.le_of_eq gb13.symm)
  have sta_java_lang_String_COMPACT_STRINGS_13 := sta_java_lang_String_COMPACT_STRINGS_11.ext E13
  have arr_b3_13 := A11.ext E13
  have K13 := K11.ext E13
  have Z13 := Nat.le_trans Z11 E13.1
  have szH_b13 : h0.size ≤ b13 := Nat.le_trans KH11.1 (Nat.le_of_eq gb13.symm)
  have KH13 := KH11.ext E13
  have F13_coder : Fld Z h13 b13 "java/lang/String" "coder" "B" (.int (0 : Int32)) := D13 (Or.inr (hw _ (List.mem_of_getElem? (i := 36) rfl))) (ty := .byte) (by decide)
  have F13_value : Fld Z h13 b13 "java/lang/String" "value" "[B" .null := D13 (Or.inr (hw _ (List.mem_of_getElem? (i := 38) rfl))) (ty := (.array .byte)) (by decide)
  have pre15 : ∀ t, Steps p.tables e below (T13.setTop (mkF m 54 #[.val (.long p0), .second, .val (.int (2 : Int32)), .val (.ref b3)] [(.ref b3), (.ref b13), (.ref b13)])) t → Steps p.tables e below (s₁.setTop (entryFrame m #[(.long p0)] 4)) t := by
    intro t k
    refine pre12 t ?_
    show Steps p.tables e below (T11.setTop (mkF m 49 #[.val (.long p0), .second, .val (.int (2 : Int32)), .val (.ref b3)] [])) _
    refine st13 _ ?_
    show Steps p.tables e below (T13.setTop (mkF m 52 #[.val (.long p0), .second, .val (.int (2 : Int32)), .val (.ref b3)] [(.ref b13)])) _
    refine XS.dup X13.here hx rfl (hb hby d1_52) rfl rfl ?_
    show Steps p.tables e below (T13.setTop (mkF m 53 #[.val (.long p0), .second, .val (.int (2 : Int32)), .val (.ref b3)] [(.ref b13), (.ref b13)])) _
    refine XS.aloadN X13.here hx rfl (hb hby d1_53) rfl rfl ?_
    exact k
  obtain ⟨_, _, ⟨T14, L14, k14, n14⟩, -, X14, ⟨Lc14, hQ14, l14, y14, z14⟩, st14⟩ := X13.specialBack hx (y := (⟨"java/lang/String", "<init>", "([C)V"⟩ : MethodName)) rfl hown (mvT hZ (hw _ (List.mem_of_getElem? (i := 13) rfl))) (mvT hZ (hw _ (List.mem_of_getElem? (i := 14) rfl))) (mvT hZ (hw _ (List.mem_of_getElem? (i := 15) rfl))) (by decide) (backOf (W := 1) (rm_3t2 l Z a0 hw [] b13 b3 g_35 cs_ h13 n0 Z13 A13 F13_value F13_coder ge_b13 arr_b3_13 ne_b3_b13.symm sta_java_lang_String_COMPACT_STRINGS_13 hcs (by rw [hg_35, hg_22]; exact own_c255 p0 0) (by rw [hg_35, hg_22]; exact own_c255 p0 1)) hZ (hw _ (List.mem_of_getElem? (i := 15) rfl)) (hw _ (List.mem_of_getElem? (i := 12) rfl)) (by decide) (by decide)) (g := (mkF m 54 #[.val (.long p0), .second, .val (.int (2 : Int32)), .val (.ref b3)] [(.ref b3), (.ref b13), (.ref b13)])) rfl (by rw [hml]; rfl) (Steps.refl _) (a := b13) (argsL := [(.ref b3)]) (rest := [(.ref b13)]) (lenOf pd_4 rfl) rfl (by show 2 * 0 + _ ≤ _; exact Nat.le_of_eq rfl) (hb hby d1_54) (fun _ _ => ⟨rfl, e13, (by decide : 2 + 1 ≤ _), (by decide : 6 + 2 ≤ _)⟩)
  dsimp only [Pt.U, Pt.locs, Pt.cells, Pt.slots] at X14 l14 y14 z14 st14 hQ14
  rw [l14, y14, z14] at X14
  obtain ⟨w_14, rfl, N14q, sz0_w_14, Kc14, Q14_0, Q14_1, Q14_2, Q14_3⟩ := hQ14
  have Kd14 : Keep h13 T14.heap [b13] := Kc14
  have ne_b3_w_14 : b3 ≠ w_14 := Nat.ne_of_lt (Nat.lt_of_lt_of_le arr_b3_13.lt sz0_w_14)
  have ne_b13_w_14 : b13 ≠ w_14 := Nat.ne_of_lt (Nat.lt_of_lt_of_le A13.lt sz0_w_14)
  have sz_w_14 : h0.size ≤ w_14 := Nat.le_trans K13.1 sz0_w_14
  have ge_w_14 : n0 ≤ w_14 := Nat.le_trans Z13 sz0_w_14
  have sta_java_lang_String_COMPACT_STRINGS_14 := own_sta_keep sta_java_lang_String_COMPACT_STRINGS_13 Kd14 (allS (own_E_plain A13) all0)
  have arr_b3_14 := arr_b3_13.keep Kd14 (ninS ne_b3_b13 nin0)
  have exa_b13_14 := A13.keep Kd14
  have K14 := K13.trans Kd14 (allS (Or.inr sz_b13) all0)
  have Z14 := Nat.le_trans Z13 Kd14.1
  have KH14 := KH13.trans Kd14 (allS (Or.inr szH_b13) all0)
  have N14 := Fr.app N11 N14q
  obtain ⟨fs, hr, hrun, hended, hW1, hW2, hW3, hsame⟩ := X14.leaveW hS0 (Nat.le_trans KH14.1 (Nat.le_of_eq (congrArg Array.size (rfl : T14.heap = T14.heap).symm))) (v := some (.ref b13)) (fun h => by rw [Bd.returns] at h; cases h) (BodyLoose.notSynchronized Bd)
  refine ⟨_, _, pre15 _ ?_, hrun, hended, _, _, rfl, ?_, ?_, hW1, hW2, hW3, hsame.mono (by decide) (by decide)⟩
  · show Steps p.tables e below (T13.setTop (mkF m 54 #[.val (.long p0), .second, .val (.int (2 : Int32)), .val (.ref b3)] [(.ref b3), (.ref b13), (.ref b13)])) _
    refine st14.trans ?_
    show Steps p.tables e below (T14.setTop (mkF m 57 #[.val (.long p0), .second, .val (.int (2 : Int32)), .val (.ref b3)] [(.ref b13)])) _
    exact retOut X14 hx Bd.returns rfl (Or.inr (Or.inr (Or.inr (Or.inr ⟨rfl, rfl, rfl⟩)))) (hb hby d1_57) hr
  · show Q_1t2 Z p0 cs_ h0 n0 _ T14.heap _
    have o1 := (by subst hg_22 hg_35; rfl : (f_3t2_1 g_35 cs_) = f_1t2_1 p0 cs_)
    have r1 := Q14_2
    rw [o1] at r1
    have o2 := (by subst hg_22 hg_35; rfl : (f_3t2_2 g_35 cs_) = f_1t2_2 p0 cs_)
    have r2 := Q14_3
    rw [o2] at r2
    exact ⟨b13, w_14, rfl, N14, sz_b13, K14, Q14_0, Q14_1, r1, r2⟩
  · show own_H own_cs Z T14.vm T14.heap
    exact (hH.go (B := (s.setVm s.vm)) hZ wl X14.warmed KH14 all0)
theorem d1_41 : decode method_4_code 41 = .ok (.aload_n 3, 1) := by decide +kernel
theorem d1_42 : decode method_4_code 42 = .ok (.iconst 2, 1) := by decide +kernel
theorem d1_43 : decode method_4_code 43 = .ok (.lload_n 0, 1) := by decide +kernel
theorem d1_44 : decode method_4_code 44 = .ok (.iconst 2, 1) := by decide +kernel
theorem d1_45 : decode method_4_code 45 = .ok (.invokestatic 30, 3) := by decide +kernel
theorem d1_48 : decode method_4_code 48 = .ok (.castore, 1) := by decide +kernel
theorem ef_1t3 (m : MethodId) (p0 : Int64) : entryFrame m #[(.long p0)] 4 = mkF m 0 #[.val (.long p0), .second, .unset, .unset] [] := by first | (simp [entryFrame, mkF, argsToLocals, Value.category]; done) | rfl
def f_1t3_1 (p0 : Int64) (cs_ : Int32) : Int32 := let g_22 : Nat → Int32 := (own_upd own_zI 0 (f_2 p0 (0 : Int32)).toUInt32.toUInt16.toUInt32.toInt32); let g_35 : Nat → Int32 := (own_upd g_22 1 (f_2 p0 (1 : Int32)).toUInt32.toUInt16.toUInt32.toInt32); let g_48 : Nat → Int32 := (own_upd g_35 2 (f_2 p0 (2 : Int32)).toUInt32.toUInt16.toUInt32.toInt32); (f_3t3_1 g_48 cs_)
def f_1t3_2 (p0 : Int64) (cs_ : Int32) : Nat → Int32 := let g_22 : Nat → Int32 := (own_upd own_zI 0 (f_2 p0 (0 : Int32)).toUInt32.toUInt16.toUInt32.toInt32); let g_35 : Nat → Int32 := (own_upd g_22 1 (f_2 p0 (1 : Int32)).toUInt32.toUInt16.toUInt32.toInt32); let g_48 : Nat → Int32 := (own_upd g_35 2 (f_2 p0 (2 : Int32)).toUInt32.toUInt16.toUInt32.toInt32); (f_3t3_2 g_48 cs_)
def Q_1t3 (Z : State) (p0 : Int64) (cs_ : Int32) (h0 : Heap) (n0 : Nat) (v : Option Value) (h : Heap) (L : List Loc) : Prop := ∃ r : Addr, ∃ w : Addr, v = some (.ref r) ∧ Fr n0 L ∧ h0.size ≤ r ∧ Keep h0 h [] ∧ Exa Z h r "java/lang/String" ∧ Fld Z h r "java/lang/String" "value" "[B" (.ref w) ∧ Fld Z h r "java/lang/String" "coder" "B" (.int (f_1t3_1 p0 cs_)) ∧ own_A Z h w .byte 3 (fun i => .int ((f_1t3_2 p0 cs_) i))
set_option maxRecDepth 65536 in
set_option maxHeartbeats 40000000 in
theorem rm_1t3 (l : Launch) (Z : State) (a0 : Array Value) (hw : ∀ d ∈ tables_1, d.before a0 Z = true) (ws : List Jvm.Cond) (p0 : Int64) (cs_ : Int32) (h0 : Heap) (n0 : Nat) (Z0 : n0 ≤ h0.size) (S_COMPACT_STRINGS : Sta Z h0 "java/lang/String" "COMPACT_STRINGS" "Z" (.int cs_)) (hcs : ¬ (cs_ = (0 : Int32))) (hlen : ((p0 &&& (3 : Int64)).toInt32) = (3 : Int32)) :
    MetFree l (⟨"com/example/sequeue/sequeue/route/MessageQueueEqualsPinLaw", "name", "(J)Ljava/lang/String;"⟩ : MethodName) (head1 (Jvm.Cond.code (⟨"com/example/sequeue/sequeue/route/MessageQueueEqualsPinLaw", "name", "(J)Ljava/lang/String;"⟩ : MethodName) method_4_code 4 (some (.object "java/lang/String")) :: ws) ({ frames := 5, cells := 6, slots := 20, locals := 90 } : Room)) (fun a U => a = #[(.long p0)] ∧ Z.Warmed39 U.vm ∧ U.heap = h0 ∧ own_H own_cs Z U.vm h0) (fun _ _ _ _ _ => True) (fun _ U o U' => ∃ v L, o = .returned v ∧ Q_1t3 Z p0 cs_ h0 n0 v U'.heap L ∧ own_H own_cs Z U'.vm U'.heap ∧ ReturnedEndW U o U' L ({ frames := 5, cells := 6, slots := 20, locals := 90 } : Room).cells ({ frames := 5, cells := 6, slots := 20, locals := 90 } : Room).slots) := by
  refine MetFree.of_bodySF (plainFor_of_name pn_1) hisR ?_
  intro p e s m args below meth c s₁ Bd hml0 hP hK
  obtain ⟨rfl, hZ, hh, hH⟩ := hP
  have hx := Bd.exec
  have hby := Bd.bytes
  have hml : c.maxLocals = 4 := hml0
  have hown : s.vm.findClass "com/example/sequeue/sequeue/route/MessageQueueEqualsPinLaw" = some m.cls := findClass_of_methodNamed Bd.named
  have hnm := (name_of_methodNamed Bd.named Bd.method).1
  have wl := own_wl hw
  have wS := own_wS hw
  have hS0 : s.Since s.vm h0.size := (State.WarmedH.refl s).since _
  have hZ : Z.Warmed39 (s.setVm s.vm).vm := hZ
  have hown : (s.setVm s.vm).vm.findClass "com/example/sequeue/sequeue/route/MessageQueueEqualsPinLaw" = some m.cls := hown
  have hH : own_H own_cs Z (s.setVm s.vm).vm h0 := hH
  have X0 : Stand p l e ({ frames := 5, cells := 6, slots := 20, locals := 90 } : Room) (s.setVm s.vm) m #[(.long p0)] below meth c s₁ [] 0 0 := Stand.of_body Bd
  have e0 : s₁.heap = h0 := by rw [← hh, Bd.state]; rfl
  have N0 := Fr.nil n0
  have K0 : Keep h0 h0 [] := Keep.refl h0 _
  have pre0 : ∀ t, Steps p.tables e below (s₁.setTop (mkF m 0 #[.val (.long p0), .second, .unset, .unset] [])) t → Steps p.tables e below (s₁.setTop (entryFrame m #[(.long p0)] 4)) t := fun t k => castTop (ef_1t3 m p0) k
  have pre1 : ∀ t, Steps p.tables e below (s₁.setTop (mkF m 6 #[.val (.long p0), .second, .unset, .unset] [(.int ((p0 &&& (3 : Int64)).toInt32))])) t → Steps p.tables e below (s₁.setTop (entryFrame m #[(.long p0)] 4)) t := by
    intro t k
    refine pre0 t ?_
    show Steps p.tables e below (s₁.setTop (mkF m 0 #[.val (.long p0), .second, .unset, .unset] [])) _
    refine XS.lloadN X0.here hx rfl (hb hby d1_0) rfl  ?_
    show Steps p.tables e below (s₁.setTop (mkF m 1 #[.val (.long p0), .second, .unset, .unset] [(.long p0)])) _
    refine X0.ldc2Long hx hown (mvT hZ (hw _ (List.mem_of_getElem? (i := 4) rfl))) (g := (mkF m 1 #[.val (.long p0), .second, .unset, .unset] [(.long p0)])) rfl (hb hby d1_1) _ ?_
    show Steps p.tables e below (s₁.setTop (mkF m 4 #[.val (.long p0), .second, .unset, .unset] [(.long (3 : Int64)), (.long p0)])) _
    refine XS.land X0.here hx rfl (hb hby d1_4) rfl ?_
    show Steps p.tables e below (s₁.setTop (mkF m 5 #[.val (.long p0), .second, .unset, .unset] [(.long (p0 &&& (3 : Int64)))])) _
    refine XS.l2i X0.here hx rfl (hb hby d1_5) rfl ?_
    exact k
  have preL : ∀ t, Steps p.tables e below (s₁.setTop (mkF m 6 #[.val (.long p0), .second, .unset, .unset] [(.int (3 : Int32))])) t → Steps p.tables e below (s₁.setTop (entryFrame m #[(.long p0)] 4)) t := by
    intro t k_
    refine pre1 t ?_
    rw [hlen]
    exact k_
  have pre2 : ∀ t, Steps p.tables e below (s₁.setTop (mkF m 8 #[.val (.long p0), .second, .val (.int (3 : Int32)), .unset] [(.int (3 : Int32))])) t → Steps p.tables e below (s₁.setTop (entryFrame m #[(.long p0)] 4)) t := by
    intro t k
    refine preL t ?_
    show Steps p.tables e below (s₁.setTop (mkF m 6 #[.val (.long p0), .second, .unset, .unset] [(.int (3 : Int32))])) _
    refine XS.istoreN X0.here hx rfl (hb hby d1_6) rfl (l' := #[.val (.long p0), .second, .val (.int (3 : Int32)), .unset]) rfl ?_
    show Steps p.tables e below (s₁.setTop (mkF m 7 #[.val (.long p0), .second, .val (.int (3 : Int32)), .unset] [])) _
    refine XS.iloadN X0.here hx rfl (hb hby d1_7) rfl  ?_
    exact k
  obtain ⟨T3, h3, b3, gb3, X3, e3, E3, A3, st3⟩ := own_newP X0 hx hZ (hw _ (List.mem_of_getElem? (i := 5) rfl)) e0 (g := (mkF m 8 #[.val (.long p0), .second, .val (.int (3 : Int32)), .unset] [(.int (3 : Int32))])) rfl (hb hby d1_8) rfl (by decide) (n := 3) rfl (G := fun i => .int (own_zI i)) (fun _ => rfl) (cap := 3) (by decide) (by decide) (by decide) (by decide)
  have sz_b3 : h0.size ≤ b3 := Nat.le_trans K0.1 (Nat.le_of_eq gb3.symm)
  have ge_b3 : n0 ≤ b3 := Nat.le_trans Z0 (Nat.le_of_eq gb3.symm)
  have sta_java_lang_String_COMPACT_STRINGS_3 := S_COMPACT_STRINGS.ext E3
  have K3 := K0.ext E3
  have Z3 := Nat.le_trans Z0 E3.1
  have szH_b3 : h0.size ≤ b3 := Nat.le_trans (Keep.refl h0 []).1 (Nat.le_of_eq gb3.symm)
  have KH3 := (Keep.refl h0 []).ext E3
  have pre5 : ∀ t, Steps p.tables e below (T3.setTop (mkF m 19 #[.val (.long p0), .second, .val (.int (3 : Int32)), .val (.ref b3)] [(.int (0 : Int32)), (.long p0), (.int (0 : Int32)), (.ref b3)])) t → Steps p.tables e below (s₁.setTop (entryFrame m #[(.long p0)] 4)) t := by
    intro t k
    refine pre2 t ?_
    show Steps p.tables e below (s₁.setTop (mkF m 8 #[.val (.long p0), .second, .val (.int (3 : Int32)), .unset] [(.int (3 : Int32))])) _
    refine st3 _ ?_
    show Steps p.tables e below (T3.setTop (mkF m 10 #[.val (.long p0), .second, .val (.int (3 : Int32)), .unset] [(.ref b3)])) _
    refine XS.astoreN X3.here hx rfl (hb hby d1_10) rfl rfl (l' := #[.val (.long p0), .second, .val (.int (3 : Int32)), .val (.ref b3)]) rfl ?_
    show Steps p.tables e below (T3.setTop (mkF m 11 #[.val (.long p0), .second, .val (.int (3 : Int32)), .val (.ref b3)] [])) _
    refine XS.iloadN X3.here hx rfl (hb hby d1_11) rfl  ?_
    show Steps p.tables e below (T3.setTop (mkF m 12 #[.val (.long p0), .second, .val (.int (3 : Int32)), .val (.ref b3)] [(.int (3 : Int32))])) _
    refine XS.ifNo X3.here hx rfl (hb hby d1_12) rfl ((if0 _ _).trans (tlt (by decide : (0 : Int32) < (3 : Int32))).2.2.2) ?_
    show Steps p.tables e below (T3.setTop (mkF m 15 #[.val (.long p0), .second, .val (.int (3 : Int32)), .val (.ref b3)] [])) _
    refine XS.aloadN X3.here hx rfl (hb hby d1_15) rfl rfl ?_
    show Steps p.tables e below (T3.setTop (mkF m 16 #[.val (.long p0), .second, .val (.int (3 : Int32)), .val (.ref b3)] [(.ref b3)])) _
    refine XS.iconst X3.here hx rfl (hb hby d1_16) ?_
    show Steps p.tables e below (T3.setTop (mkF m 17 #[.val (.long p0), .second, .val (.int (3 : Int32)), .val (.ref b3)] [(.int (0 : Int32)), (.ref b3)])) _
    refine XS.lloadN X3.here hx rfl (hb hby d1_17) rfl  ?_
    show Steps p.tables e below (T3.setTop (mkF m 18 #[.val (.long p0), .second, .val (.int (3 : Int32)), .val (.ref b3)] [(.long p0), (.int (0 : Int32)), (.ref b3)])) _
    refine XS.iconst X3.here hx rfl (hb hby d1_18) ?_
    exact k
  obtain ⟨_, _, ⟨T4, L4, k4, n4⟩, -, X4, ⟨Lc4, hQ4, l4, y4, z4⟩, st4⟩ := Jvm.LawKit.callS X3 hx (y := (⟨"com/example/sequeue/sequeue/route/MessageQueueEqualsPinLaw", "ch", "(JI)C"⟩ : MethodName)) hown (mvT hZ (hw _ (List.mem_of_getElem? (i := 6) rfl))) (mvT hZ (hw _ (List.mem_of_getElem? (i := 7) rfl))) (mvT hZ (hw _ (List.mem_of_getElem? (i := 2) rfl))) (mvT hZ (hw _ (List.mem_of_getElem? (i := 8) rfl))) (by decide) (backOf (W := 2) (rm_2 l Z a0 hw [] p0 (0 : Int32) h3 n0 Z3 ) hZ (hw _ (List.mem_of_getElem? (i := 8) rfl)) (hw _ (List.mem_of_getElem? (i := 2) rfl)) (by decide) (by decide)) (g := (mkF m 19 #[.val (.long p0), .second, .val (.int (3 : Int32)), .val (.ref b3)] [(.int (0 : Int32)), (.long p0), (.int (0 : Int32)), (.ref b3)])) rfl (by rw [hml]; rfl) (argsL := [(.long p0), (.int (0 : Int32))]) (rest := [(.int (0 : Int32)), (.ref b3)]) (lenOf pd_5 rfl) rfl (by show 2 * 0 + _ ≤ _; exact Nat.le_of_eq rfl) (hb hby d1_19) (fun _ _ => ⟨rfl, e3, (by decide : 1 + 0 ≤ _), (by decide : 3 + 0 ≤ _)⟩)
  dsimp only [Pt.U, Pt.locs, Pt.cells, Pt.slots] at X4 l4 y4 z4 st4 hQ4
  rw [l4, y4, z4] at X4
  obtain ⟨rfl, N4q, e4⟩ := hQ4
  have N4 := Fr.app N0 N4q
  have pre6 : ∀ t, Steps p.tables e below (T4.setTop (mkF m 22 #[.val (.long p0), .second, .val (.int (3 : Int32)), .val (.ref b3)] [(.int (f_2 p0 (0 : Int32))), (.int (0 : Int32)), (.ref b3)])) t → Steps p.tables e below (s₁.setTop (entryFrame m #[(.long p0)] 4)) t := by
    intro t k
    refine pre5 t ?_
    show Steps p.tables e below (T3.setTop (mkF m 19 #[.val (.long p0), .second, .val (.int (3 : Int32)), .val (.ref b3)] [(.int (0 : Int32)), (.long p0), (.int (0 : Int32)), (.ref b3)])) _
    refine st4 _ ?_
    exact k
  obtain ⟨T7, h7, X7, e7, W7, A7, st7⟩ := own_stC X4 hx hZ e4 A3 (j := (0 : Int32)) (x := (f_2 p0 (0 : Int32))) (k := 0) (by decide) (by decide) (by decide) (g := (mkF m 22 #[.val (.long p0), .second, .val (.int (3 : Int32)), .val (.ref b3)] [(.int (f_2 p0 (0 : Int32))), (.int (0 : Int32)), (.ref b3)])) rfl rfl (hb hby d1_22)
  obtain ⟨g_22, hg_22⟩ : ∃ z : Nat → Int32, z = (own_upd own_zI 0 (f_2 p0 (0 : Int32)).toUInt32.toUInt16.toUInt32.toInt32) := ⟨_, rfl⟩
  rw [← hg_22] at A7
  have sta_java_lang_String_COMPACT_STRINGS_7 := sta_java_lang_String_COMPACT_STRINGS_3.wr W7
  have K7 := K3.wr W7 (Or.inr sz_b3)
  have Z7 := Nat.le_trans Z3 (Nat.le_of_eq W7.size.symm)
  have N7 := Fr.snoc X7 N4 ge_b3
  have KH7 := KH3.wr W7 (Or.inr szH_b3)
  have pre9 : ∀ t, Steps p.tables e below (T7.setTop (mkF m 32 #[.val (.long p0), .second, .val (.int (3 : Int32)), .val (.ref b3)] [(.int (1 : Int32)), (.long p0), (.int (1 : Int32)), (.ref b3)])) t → Steps p.tables e below (s₁.setTop (entryFrame m #[(.long p0)] 4)) t := by
    intro t k
    refine pre6 t ?_
    show Steps p.tables e below (T4.setTop (mkF m 22 #[.val (.long p0), .second, .val (.int (3 : Int32)), .val (.ref b3)] [(.int (f_2 p0 (0 : Int32))), (.int (0 : Int32)), (.ref b3)])) _
    refine st7 _ ?_
    show Steps p.tables e below (T7.setTop (mkF m 23 #[.val (.long p0), .second, .val (.int (3 : Int32)), .val (.ref b3)] [])) _
    refine XS.iloadN X7.here hx rfl (hb hby d1_23) rfl  ?_
    show Steps p.tables e below (T7.setTop (mkF m 24 #[.val (.long p0), .second, .val (.int (3 : Int32)), .val (.ref b3)] [(.int (3 : Int32))])) _
    refine XS.iconst X7.here hx rfl (hb hby d1_24) ?_
    show Steps p.tables e below (T7.setTop (mkF m 25 #[.val (.long p0), .second, .val (.int (3 : Int32)), .val (.ref b3)] [(.int (1 : Int32)), (.int (3 : Int32))])) _
    refine XS.icmpNo X7.here hx rfl (hb hby d1_25) rfl (tlt (by decide : (1 : Int32) < (3 : Int32))).2.2.2 ?_
    show Steps p.tables e below (T7.setTop (mkF m 28 #[.val (.long p0), .second, .val (.int (3 : Int32)), .val (.ref b3)] [])) _
    refine XS.aloadN X7.here hx rfl (hb hby d1_28) rfl rfl ?_
    show Steps p.tables e below (T7.setTop (mkF m 29 #[.val (.long p0), .second, .val (.int (3 : Int32)), .val (.ref b3)] [(.ref b3)])) _
    refine XS.iconst X7.here hx rfl (hb hby d1_29) ?_
    show Steps p.tables e below (T7.setTop (mkF m 30 #[.val (.long p0), .second, .val (.int (3 : Int32)), .val (.ref b3)] [(.int (1 : Int32)), (.ref b3)])) _
    refine XS.lloadN X7.here hx rfl (hb hby d1_30) rfl  ?_
    show Steps p.tables e below (T7.setTop (mkF m 31 #[.val (.long p0), .second, .val (.int (3 : Int32)), .val (.ref b3)] [(.long p0), (.int (1 : Int32)), (.ref b3)])) _
    refine XS.iconst X7.here hx rfl (hb hby d1_31) ?_
    exact k
  obtain ⟨_, _, ⟨T8, L8, k8, n8⟩, -, X8, ⟨Lc8, hQ8, l8, y8, z8⟩, st8⟩ := Jvm.LawKit.callS X7 hx (y := (⟨"com/example/sequeue/sequeue/route/MessageQueueEqualsPinLaw", "ch", "(JI)C"⟩ : MethodName)) hown (mvT hZ (hw _ (List.mem_of_getElem? (i := 6) rfl))) (mvT hZ (hw _ (List.mem_of_getElem? (i := 7) rfl))) (mvT hZ (hw _ (List.mem_of_getElem? (i := 2) rfl))) (mvT hZ (hw _ (List.mem_of_getElem? (i := 8) rfl))) (by decide) (backOf (W := 2) (rm_2 l Z a0 hw [] p0 (1 : Int32) h7 n0 Z7 ) hZ (hw _ (List.mem_of_getElem? (i := 8) rfl)) (hw _ (List.mem_of_getElem? (i := 2) rfl)) (by decide) (by decide)) (g := (mkF m 32 #[.val (.long p0), .second, .val (.int (3 : Int32)), .val (.ref b3)] [(.int (1 : Int32)), (.long p0), (.int (1 : Int32)), (.ref b3)])) rfl (by rw [hml]; rfl) (argsL := [(.long p0), (.int (1 : Int32))]) (rest := [(.int (1 : Int32)), (.ref b3)]) (lenOf pd_5 rfl) rfl (by show 2 * 0 + _ ≤ _; exact Nat.le_of_eq rfl) (hb hby d1_32) (fun _ _ => ⟨rfl, e7, (by decide : 1 + 0 ≤ _), (by decide : 3 + 0 ≤ _)⟩)
  dsimp only [Pt.U, Pt.locs, Pt.cells, Pt.slots] at X8 l8 y8 z8 st8 hQ8
  rw [l8, y8, z8] at X8
  obtain ⟨rfl, N8q, e8⟩ := hQ8
  have N8 := Fr.app N7 N8q
  have pre10 : ∀ t, Steps p.tables e below (T8.setTop (mkF m 35 #[.val (.long p0), .second, .val (.int (3 : Int32)), .val (.ref b3)] [(.int (f_2 p0 (1 : Int32))), (.int (1 : Int32)), (.ref b3)])) t → Steps p.tables e below (s₁.setTop (entryFrame m #[(.long p0)] 4)) t := by
    intro t k
    refine pre9 t ?_
    show Steps p.tables e below (T7.setTop (mkF m 32 #[.val (.long p0), .second, .val (.int (3 : Int32)), .val (.ref b3)] [(.int (1 : Int32)), (.long p0), (.int (1 : Int32)), (.ref b3)])) _
    refine st8 _ ?_
    exact k
  obtain ⟨T11, h11, X11, e11, W11, A11, st11⟩ := own_stC X8 hx hZ e8 A7 (j := (1 : Int32)) (x := (f_2 p0 (1 : Int32))) (k := 1) (by decide) (by decide) (by decide) (g := (mkF m 35 #[.val (.long p0), .second, .val (.int (3 : Int32)), .val (.ref b3)] [(.int (f_2 p0 (1 : Int32))), (.int (1 : Int32)), (.ref b3)])) rfl rfl (hb hby d1_35)
  obtain ⟨g_35, hg_35⟩ : ∃ z : Nat → Int32, z = (own_upd g_22 1 (f_2 p0 (1 : Int32)).toUInt32.toUInt16.toUInt32.toInt32) := ⟨_, rfl⟩
  rw [← hg_35] at A11
  have sta_java_lang_String_COMPACT_STRINGS_11 := sta_java_lang_String_COMPACT_STRINGS_7.wr W11
  have K11 := K7.wr W11 (Or.inr sz_b3)
  have Z11 := Nat.le_trans Z7 (Nat.le_of_eq W11.size.symm)
  have N11 := Fr.snoc X11 N8 ge_b3
  have KH11 := KH7.wr W11 (Or.inr szH_b3)
  have pre13 : ∀ t, Steps p.tables e below (T11.setTop (mkF m 45 #[.val (.long p0), .second, .val (.int (3 : Int32)), .val (.ref b3)] [(.int (2 : Int32)), (.long p0), (.int (2 : Int32)), (.ref b3)])) t → Steps p.tables e below (s₁.setTop (entryFrame m #[(.long p0)] 4)) t := by
    intro t k
    refine pre10 t ?_
    show Steps p.tables e below (T8.setTop (mkF m 35 #[.val (.long p0), .second, .val (.int (3 : Int32)), .val (.ref b3)] [(.int (f_2 p0 (1 : Int32))), (.int (1 : Int32)), (.ref b3)])) _
    refine st11 _ ?_
    show Steps p.tables e below (T11.setTop (mkF m 36 #[.val (.long p0), .second, .val (.int (3 : Int32)), .val (.ref b3)] [])) _
    refine XS.iloadN X11.here hx rfl (hb hby d1_36) rfl  ?_
    show Steps p.tables e below (T11.setTop (mkF m 37 #[.val (.long p0), .second, .val (.int (3 : Int32)), .val (.ref b3)] [(.int (3 : Int32))])) _
    refine XS.iconst X11.here hx rfl (hb hby d1_37) ?_
    show Steps p.tables e below (T11.setTop (mkF m 38 #[.val (.long p0), .second, .val (.int (3 : Int32)), .val (.ref b3)] [(.int (2 : Int32)), (.int (3 : Int32))])) _
    refine XS.icmpNo X11.here hx rfl (hb hby d1_38) rfl (tlt (by decide : (2 : Int32) < (3 : Int32))).2.2.2 ?_
    show Steps p.tables e below (T11.setTop (mkF m 41 #[.val (.long p0), .second, .val (.int (3 : Int32)), .val (.ref b3)] [])) _
    refine XS.aloadN X11.here hx rfl (hb hby d1_41) rfl rfl ?_
    show Steps p.tables e below (T11.setTop (mkF m 42 #[.val (.long p0), .second, .val (.int (3 : Int32)), .val (.ref b3)] [(.ref b3)])) _
    refine XS.iconst X11.here hx rfl (hb hby d1_42) ?_
    show Steps p.tables e below (T11.setTop (mkF m 43 #[.val (.long p0), .second, .val (.int (3 : Int32)), .val (.ref b3)] [(.int (2 : Int32)), (.ref b3)])) _
    refine XS.lloadN X11.here hx rfl (hb hby d1_43) rfl  ?_
    show Steps p.tables e below (T11.setTop (mkF m 44 #[.val (.long p0), .second, .val (.int (3 : Int32)), .val (.ref b3)] [(.long p0), (.int (2 : Int32)), (.ref b3)])) _
    refine XS.iconst X11.here hx rfl (hb hby d1_44) ?_
    exact k
  obtain ⟨_, _, ⟨T12, L12, k12, n12⟩, -, X12, ⟨Lc12, hQ12, l12, y12, z12⟩, st12⟩ := Jvm.LawKit.callS X11 hx (y := (⟨"com/example/sequeue/sequeue/route/MessageQueueEqualsPinLaw", "ch", "(JI)C"⟩ : MethodName)) hown (mvT hZ (hw _ (List.mem_of_getElem? (i := 6) rfl))) (mvT hZ (hw _ (List.mem_of_getElem? (i := 7) rfl))) (mvT hZ (hw _ (List.mem_of_getElem? (i := 2) rfl))) (mvT hZ (hw _ (List.mem_of_getElem? (i := 8) rfl))) (by decide) (backOf (W := 2) (rm_2 l Z a0 hw [] p0 (2 : Int32) h11 n0 Z11 ) hZ (hw _ (List.mem_of_getElem? (i := 8) rfl)) (hw _ (List.mem_of_getElem? (i := 2) rfl)) (by decide) (by decide)) (g := (mkF m 45 #[.val (.long p0), .second, .val (.int (3 : Int32)), .val (.ref b3)] [(.int (2 : Int32)), (.long p0), (.int (2 : Int32)), (.ref b3)])) rfl (by rw [hml]; rfl) (argsL := [(.long p0), (.int (2 : Int32))]) (rest := [(.int (2 : Int32)), (.ref b3)]) (lenOf pd_5 rfl) rfl (by show 2 * 0 + _ ≤ _; exact Nat.le_of_eq rfl) (hb hby d1_45) (fun _ _ => ⟨rfl, e11, (by decide : 1 + 0 ≤ _), (by decide : 3 + 0 ≤ _)⟩)
  dsimp only [Pt.U, Pt.locs, Pt.cells, Pt.slots] at X12 l12 y12 z12 st12 hQ12
  rw [l12, y12, z12] at X12
  obtain ⟨rfl, N12q, e12⟩ := hQ12
  have N12 := Fr.app N11 N12q
  have pre14 : ∀ t, Steps p.tables e below (T12.setTop (mkF m 48 #[.val (.long p0), .second, .val (.int (3 : Int32)), .val (.ref b3)] [(.int (f_2 p0 (2 : Int32))), (.int (2 : Int32)), (.ref b3)])) t → Steps p.tables e below (s₁.setTop (entryFrame m #[(.long p0)] 4)) t := by
    intro t k
    refine pre13 t ?_
    show Steps p.tables e below (T11.setTop (mkF m 45 #[.val (.long p0), .second, .val (.int (3 : Int32)), .val (.ref b3)] [(.int (2 : Int32)), (.long p0), (.int (2 : Int32)), (.ref b3)])) _
    refine st12 _ ?_
    exact k
  obtain ⟨T15, h15, X15, e15, W15, A15, st15⟩ := own_stC X12 hx hZ e12 A11 (j := (2 : Int32)) (x := (f_2 p0 (2 : Int32))) (k := 2) (by decide) (by decide) (by decide) (g := (mkF m 48 #[.val (.long p0), .second, .val (.int (3 : Int32)), .val (.ref b3)] [(.int (f_2 p0 (2 : Int32))), (.int (2 : Int32)), (.ref b3)])) rfl rfl (hb hby d1_48)
  obtain ⟨g_48, hg_48⟩ : ∃ z : Nat → Int32, z = (own_upd g_35 2 (f_2 p0 (2 : Int32)).toUInt32.toUInt16.toUInt32.toInt32) := ⟨_, rfl⟩
  rw [← hg_48] at A15
  have sta_java_lang_String_COMPACT_STRINGS_15 := sta_java_lang_String_COMPACT_STRINGS_11.wr W15
  have K15 := K11.wr W15 (Or.inr sz_b3)
  have Z15 := Nat.le_trans Z11 (Nat.le_of_eq W15.size.symm)
  have N15 := Fr.snoc X15 N12 ge_b3
  have KH15 := KH11.wr W15 (Or.inr szH_b3)
  have pre16 : ∀ t, Steps p.tables e below (T15.setTop (mkF m 49 #[.val (.long p0), .second, .val (.int (3 : Int32)), .val (.ref b3)] [])) t → Steps p.tables e below (s₁.setTop (entryFrame m #[(.long p0)] 4)) t := by
    intro t k
    refine pre14 t ?_
    show Steps p.tables e below (T12.setTop (mkF m 48 #[.val (.long p0), .second, .val (.int (3 : Int32)), .val (.ref b3)] [(.int (f_2 p0 (2 : Int32))), (.int (2 : Int32)), (.ref b3)])) _
    refine st15 _ ?_
    exact k
  obtain ⟨T17, h17, X17, e17, E17, A17, D17, -, st17⟩ := newO X15 hx hZ hown (hw _ (List.mem_of_getElem? (i := 10) rfl)) (hw _ (List.mem_of_getElem? (i := 11) rfl)) (hw _ (List.mem_of_getElem? (i := 12) rfl)) e15 (g := (mkF m 49 #[.val (.long p0), .second, .val (.int (3 : Int32)), .val (.ref b3)] [])) rfl (hb hby d1_49) (by decide) (by decide)
  obtain ⟨b17, gb17⟩ : ∃ z, z = h15.size := ⟨_, rfl⟩
  rw [← gb17] at A17 D17 st17
  have ne_b3_b17 : b3 ≠ b17 := Nat.ne_of_lt (Nat.lt_of_lt_of_le A15.lt (Nat.le_of_eq gb17.symm))
  have sz_b17 : h0.size ≤ b17 := Nat.le_trans K15.1 (Nat.le_of_eq gb17.symm)
  have ge_b17 : n0 ≤ b17 := Nat.le_trans Z15 (Nat.le_of_eq gb17.symm)
  have sta_java_lang_String_COMPACT_STRINGS_17 := sta_java_lang_String_COMPACT_STRINGS_15.ext E17
  have arr_b3_17 := A15.ext E17
  have K17 := K15.ext E17
  have Z17 := Nat.le_trans Z15 E17.1
  have szH_b17 : h0.size ≤ b17 := Nat.le_trans KH15.1 (Nat.le_of_eq gb17.symm)
  have KH17 := KH15.ext E17
  have F17_coder : Fld Z h17 b17 "java/lang/String" "coder" "B" (.int (0 : Int32)) := D17 (Or.inr (hw _ (List.mem_of_getElem? (i := 36) rfl))) (ty := .byte) (by decide)
  have F17_value : Fld Z h17 b17 "java/lang/String" "value" "[B" .null := D17 (Or.inr (hw _ (List.mem_of_getElem? (i := 38) rfl))) (ty := (.array .byte)) (by decide)
  have pre19 : ∀ t, Steps p.tables e below (T17.setTop (mkF m 54 #[.val (.long p0), .second, .val (.int (3 : Int32)), .val (.ref b3)] [(.ref b3), (.ref b17), (.ref b17)])) t → Steps p.tables e below (s₁.setTop (entryFrame m #[(.long p0)] 4)) t := by
    intro t k
    refine pre16 t ?_
    show Steps p.tables e below (T15.setTop (mkF m 49 #[.val (.long p0), .second, .val (.int (3 : Int32)), .val (.ref b3)] [])) _
    refine st17 _ ?_
    show Steps p.tables e below (T17.setTop (mkF m 52 #[.val (.long p0), .second, .val (.int (3 : Int32)), .val (.ref b3)] [(.ref b17)])) _
    refine XS.dup X17.here hx rfl (hb hby d1_52) rfl rfl ?_
    show Steps p.tables e below (T17.setTop (mkF m 53 #[.val (.long p0), .second, .val (.int (3 : Int32)), .val (.ref b3)] [(.ref b17), (.ref b17)])) _
    refine XS.aloadN X17.here hx rfl (hb hby d1_53) rfl rfl ?_
    exact k
  obtain ⟨_, _, ⟨T18, L18, k18, n18⟩, -, X18, ⟨Lc18, hQ18, l18, y18, z18⟩, st18⟩ := X17.specialBack hx (y := (⟨"java/lang/String", "<init>", "([C)V"⟩ : MethodName)) rfl hown (mvT hZ (hw _ (List.mem_of_getElem? (i := 13) rfl))) (mvT hZ (hw _ (List.mem_of_getElem? (i := 14) rfl))) (mvT hZ (hw _ (List.mem_of_getElem? (i := 15) rfl))) (by decide) (backOf (W := 1) (rm_3t3 l Z a0 hw [] b17 b3 g_48 cs_ h17 n0 Z17 A17 F17_value F17_coder ge_b17 arr_b3_17 ne_b3_b17.symm sta_java_lang_String_COMPACT_STRINGS_17 hcs (by rw [hg_48, hg_35, hg_22]; exact own_c255 p0 0) (by rw [hg_48, hg_35, hg_22]; exact own_c255 p0 1) (by rw [hg_48, hg_35, hg_22]; exact own_c255 p0 2)) hZ (hw _ (List.mem_of_getElem? (i := 15) rfl)) (hw _ (List.mem_of_getElem? (i := 12) rfl)) (by decide) (by decide)) (g := (mkF m 54 #[.val (.long p0), .second, .val (.int (3 : Int32)), .val (.ref b3)] [(.ref b3), (.ref b17), (.ref b17)])) rfl (by rw [hml]; rfl) (Steps.refl _) (a := b17) (argsL := [(.ref b3)]) (rest := [(.ref b17)]) (lenOf pd_4 rfl) rfl (by show 2 * 0 + _ ≤ _; exact Nat.le_of_eq rfl) (hb hby d1_54) (fun _ _ => ⟨rfl, e17, (by decide : 2 + 1 ≤ _), (by decide : 7 + 3 ≤ _)⟩)
  dsimp only [Pt.U, Pt.locs, Pt.cells, Pt.slots] at X18 l18 y18 z18 st18 hQ18
  rw [l18, y18, z18] at X18
  obtain ⟨w_18, rfl, N18q, sz0_w_18, Kc18, Q18_0, Q18_1, Q18_2, Q18_3⟩ := hQ18
  have Kd18 : Keep h17 T18.heap [b17] := Kc18
  have ne_b3_w_18 : b3 ≠ w_18 := Nat.ne_of_lt (Nat.lt_of_lt_of_le arr_b3_17.lt sz0_w_18)
  have ne_b17_w_18 : b17 ≠ w_18 := Nat.ne_of_lt (Nat.lt_of_lt_of_le A17.lt sz0_w_18)
  have sz_w_18 : h0.size ≤ w_18 := Nat.le_trans K17.1 sz0_w_18
  have ge_w_18 : n0 ≤ w_18 := Nat.le_trans Z17 sz0_w_18
  have sta_java_lang_String_COMPACT_STRINGS_18 := own_sta_keep sta_java_lang_String_COMPACT_STRINGS_17 Kd18 (allS (own_E_plain A17) all0)
  have arr_b3_18 := arr_b3_17.keep Kd18 (ninS ne_b3_b17 nin0)
  have exa_b17_18 := A17.keep Kd18
  have K18 := K17.trans Kd18 (allS (Or.inr sz_b17) all0)
  have Z18 := Nat.le_trans Z17 Kd18.1
  have KH18 := KH17.trans Kd18 (allS (Or.inr szH_b17) all0)
  have N18 := Fr.app N15 N18q
  obtain ⟨fs, hr, hrun, hended, hW1, hW2, hW3, hsame⟩ := X18.leaveW hS0 (Nat.le_trans KH18.1 (Nat.le_of_eq (congrArg Array.size (rfl : T18.heap = T18.heap).symm))) (v := some (.ref b17)) (fun h => by rw [Bd.returns] at h; cases h) (BodyLoose.notSynchronized Bd)
  refine ⟨_, _, pre19 _ ?_, hrun, hended, _, _, rfl, ?_, ?_, hW1, hW2, hW3, hsame.mono (by decide) (by decide)⟩
  · show Steps p.tables e below (T17.setTop (mkF m 54 #[.val (.long p0), .second, .val (.int (3 : Int32)), .val (.ref b3)] [(.ref b3), (.ref b17), (.ref b17)])) _
    refine st18.trans ?_
    show Steps p.tables e below (T18.setTop (mkF m 57 #[.val (.long p0), .second, .val (.int (3 : Int32)), .val (.ref b3)] [(.ref b17)])) _
    exact retOut X18 hx Bd.returns rfl (Or.inr (Or.inr (Or.inr (Or.inr ⟨rfl, rfl, rfl⟩)))) (hb hby d1_57) hr
  · show Q_1t3 Z p0 cs_ h0 n0 _ T18.heap _
    have o1 := (by subst hg_22 hg_35 hg_48; rfl : (f_3t3_1 g_48 cs_) = f_1t3_1 p0 cs_)
    have r1 := Q18_2
    rw [o1] at r1
    have o2 := (by subst hg_22 hg_35 hg_48; rfl : (f_3t3_2 g_48 cs_) = f_1t3_2 p0 cs_)
    have r2 := Q18_3
    rw [o2] at r2
    exact ⟨b17, w_18, rfl, N18, sz_b17, K18, Q18_0, Q18_1, r1, r2⟩
  · show own_H own_cs Z T18.vm T18.heap
    exact (hH.go (B := (s.setVm s.vm)) hZ wl X18.warmed KH18 all0)
def own_n (x : Int64) : Nat := ((x &&& (3 : Int64)).toInt32).toNatClampNeg
def own_cb (x : Int64) (i : Int32) : Int32 := ((f_2 x i).toUInt32.toUInt16.toUInt32.toInt32).toInt8.toInt32.toInt8.toInt32
def own_g (x : Int64) (i : Nat) : Int32 := own_cb x (if i = 0 then 0 else if i = 1 then 1 else 2)
theorem own_len4 (x : Int64) : (x &&& (3 : Int64)).toInt32 = 0 ∨ (x &&& (3 : Int64)).toInt32 = 1 ∨ (x &&& (3 : Int64)).toInt32 = 2 ∨ (x &&& (3 : Int64)).toInt32 = 3 := by
  have m := c_maskL x (3 : Int64) 2 (by decide) (by decide)
  have l := c_l2i (x &&& (3 : Int64))
  have r1 := Int32.toInt_lt (x &&& (3 : Int64)).toInt32
  have r2 := Int32.le_toInt (x &&& (3 : Int64)).toInt32
  have q : (x &&& (3 : Int64)).toInt32.toInt = 0 ∨ (x &&& (3 : Int64)).toInt32.toInt = 1 ∨ (x &&& (3 : Int64)).toInt32.toInt = 2 ∨ (x &&& (3 : Int64)).toInt32.toInt = 3 := by omega
  rcases q with q | q | q | q
  · exact .inl (Int32.toInt_inj.mp q)
  · exact .inr (.inl (Int32.toInt_inj.mp q))
  · exact .inr (.inr (.inl (Int32.toInt_inj.mp q)))
  · exact .inr (.inr (.inr (Int32.toInt_inj.mp q)))
theorem own_n_of {x : Int64} {k : Int32} (h : (x &&& (3 : Int64)).toInt32 = k) : own_n x = k.toNatClampNeg := by rw [own_n, h]
theorem own_n3 {x : Int64} (h0 : ¬ (own_n x = 0)) (h1 : ¬ (own_n x = 1)) (h2 : ¬ (own_n x = 2)) : own_n x = 3 := by
  rcases own_len4 x with h | h | h | h
  · exact absurd (own_n_of h) h0
  · exact absurd (own_n_of h) h1
  · exact absurd (own_n_of h) h2
  · exact own_n_of h
theorem own_nne {x y : Int64} (h : ¬ (own_n x = own_n y)) : ¬ (Nat.toInt32 (own_n x) = Nat.toInt32 (own_n y)) := by
  rcases own_len4 x with hx | hx | hx | hx <;> rcases own_len4 y with hy | hy | hy | hy <;> rw [own_n_of hx, own_n_of hy] at h ⊢ <;> first | decide | (exact absurd rfl h)
theorem own_len_iff (x y : Int64) : (x &&& (3 : Int64)).toInt32 = (y &&& (3 : Int64)).toInt32 ↔ own_n x = own_n y := by
  constructor
  · intro h; rw [own_n, own_n, h]
  · intro h
    rcases own_len4 x with hx | hx | hx | hx <;> rcases own_len4 y with hy | hy | hy | hy <;> rw [own_n_of hx, own_n_of hy] at h <;> rw [hx, hy] <;> first | rfl | (exact absurd h (by decide))
theorem own_cb_iff (x y : Int64) (i : Int32) : own_cb x i = own_cb y i ↔ f_2 x i = f_2 y i := by
  constructor
  · intro h
    have h' := congrArg Int32.toInt h
    unfold own_cb at h'
    have r := own_f2r x i
    have c := c_i2c (f_2 x i)
    have b := c_i2b ((f_2 x i).toUInt32.toUInt16.toUInt32.toInt32)
    have b' := c_i2b (((f_2 x i).toUInt32.toUInt16.toUInt32.toInt32).toInt8.toInt32)
    have s := own_f2r y i
    have d := c_i2c (f_2 y i)
    have e := c_i2b ((f_2 y i).toUInt32.toUInt16.toUInt32.toInt32)
    have e' := c_i2b (((f_2 y i).toUInt32.toUInt16.toUInt32.toInt32).toInt8.toInt32)
    exact Int32.toInt_inj.mp (by omega)
  · intro h; unfold own_cb; rw [h]
theorem own_g0 (x : Int64) : own_g x 0 = own_cb x 0 := rfl
theorem own_g1 (x : Int64) : own_g x 1 = own_cb x 1 := rfl
theorem own_g2 (x : Int64) : own_g x 2 = own_cb x 2 := rfl
def Q_1 (Z : State) (p0 : Int64) (cs_ : Int32) (h0 : Heap) (n0 : Nat) (v : Option Value) (h : Heap) (L : List Loc) : Prop := ∃ r : Addr, ∃ w : Addr, v = some (.ref r) ∧ Fr n0 L ∧ h0.size ≤ r ∧ Keep h0 h [] ∧ Exa Z h r "java/lang/String" ∧ Fld Z h r "java/lang/String" "value" "[B" (.ref w) ∧ Fld Z h r "java/lang/String" "coder" "B" (.int (0 : Int32)) ∧ own_A Z h w .byte (own_n p0) (fun i => .int (own_g p0 i))
theorem rm_1 (l : Launch) (Z : State) (a0 : Array Value) (hw : ∀ d ∈ tables_1, d.before a0 Z = true) (ws : List Jvm.Cond) (p0 : Int64) (cs_ : Int32) (h0 : Heap) (n0 : Nat) (Z0 : n0 ≤ h0.size) (S_COMPACT_STRINGS : Sta Z h0 "java/lang/String" "COMPACT_STRINGS" "Z" (.int cs_)) (hcs : ¬ (cs_ = (0 : Int32))) :
    MetFree l (⟨"com/example/sequeue/sequeue/route/MessageQueueEqualsPinLaw", "name", "(J)Ljava/lang/String;"⟩ : MethodName) (head1 (Jvm.Cond.code (⟨"com/example/sequeue/sequeue/route/MessageQueueEqualsPinLaw", "name", "(J)Ljava/lang/String;"⟩ : MethodName) method_4_code 4 (some (.object "java/lang/String")) :: ws) ({ frames := 5, cells := 6, slots := 20, locals := 90 } : Room)) (fun a U => a = #[(.long p0)] ∧ Z.Warmed39 U.vm ∧ U.heap = h0 ∧ own_H own_cs Z U.vm h0) (fun _ _ _ _ _ => True) (fun _ U o U' => ∃ v L, o = .returned v ∧ Q_1 Z p0 cs_ h0 n0 v U'.heap L ∧ own_H own_cs Z U'.vm U'.heap ∧ ReturnedEndW U o U' L ({ frames := 5, cells := 6, slots := 20, locals := 90 } : Room).cells ({ frames := 5, cells := 6, slots := 20, locals := 90 } : Room).slots) := by
  rcases own_len4 p0 with hk | hk | hk | hk
  · refine MetFree.imp (rm_1t0 l Z a0 hw ws p0 cs_ h0 n0 Z0 S_COMPACT_STRINGS hcs hk) ?_
    rintro _ U o U' ⟨v, L, rfl, ⟨r, w, rfl, N, sz, K, E, F1, F2, A⟩, H, RE⟩
    have hn : own_n p0 = 0 := own_n_of hk
    refine ⟨_, L, rfl, ⟨r, w, rfl, N, sz, K, E, F1, F2, ?_⟩, H, RE⟩
    rw [hn]
    exact A.congr (fun i hi => by
      exact absurd hi (Nat.not_lt_zero i))
  · refine MetFree.imp (rm_1t1 l Z a0 hw ws p0 cs_ h0 n0 Z0 S_COMPACT_STRINGS hcs hk) ?_
    rintro _ U o U' ⟨v, L, rfl, ⟨r, w, rfl, N, sz, K, E, F1, F2, A⟩, H, RE⟩
    have hn : own_n p0 = 1 := own_n_of hk
    refine ⟨_, L, rfl, ⟨r, w, rfl, N, sz, K, E, F1, F2, ?_⟩, H, RE⟩
    rw [hn]
    exact A.congr (fun i hi => by
      match i, hi with
      | 0, _ => rfl)
  · refine MetFree.imp (rm_1t2 l Z a0 hw ws p0 cs_ h0 n0 Z0 S_COMPACT_STRINGS hcs hk) ?_
    rintro _ U o U' ⟨v, L, rfl, ⟨r, w, rfl, N, sz, K, E, F1, F2, A⟩, H, RE⟩
    have hn : own_n p0 = 2 := own_n_of hk
    refine ⟨_, L, rfl, ⟨r, w, rfl, N, sz, K, E, F1, F2, ?_⟩, H, RE⟩
    rw [hn]
    exact A.congr (fun i hi => by
      match i, hi with
      | 0, _ => rfl
      | 1, _ => rfl)
  · refine MetFree.imp (rm_1t3 l Z a0 hw ws p0 cs_ h0 n0 Z0 S_COMPACT_STRINGS hcs hk) ?_
    rintro _ U o U' ⟨v, L, rfl, ⟨r, w, rfl, N, sz, K, E, F1, F2, A⟩, H, RE⟩
    have hn : own_n p0 = 3 := own_n_of hk
    refine ⟨_, L, rfl, ⟨r, w, rfl, N, sz, K, E, F1, F2, ?_⟩, H, RE⟩
    rw [hn]
    exact A.congr (fun i hi => by
      match i, hi with
      | 0, _ => rfl
      | 1, _ => rfl
      | 2, _ => rfl)
theorem d14_0 : decode jdk_43_method_13_code 0 = .ok (.aload_n 0, 1) := by decide +kernel
theorem d14_1 : decode jdk_43_method_13_code 1 = .ok (.arraylength, 1) := by decide +kernel
theorem d14_2 : decode jdk_43_method_13_code 2 = .ok (.aload_n 1, 1) := by decide +kernel
theorem d14_3 : decode jdk_43_method_13_code 3 = .ok (.arraylength, 1) := by decide +kernel
theorem d14_4 : decode jdk_43_method_13_code 4 = .ok (.if_icmp .ne 30, 3) := by decide +kernel
theorem d14_7 : decode jdk_43_method_13_code 7 = .ok (.iconst 0, 1) := by decide +kernel
theorem d14_8 : decode jdk_43_method_13_code 8 = .ok (.istore_n 2, 1) := by decide +kernel
theorem d14_9 : decode jdk_43_method_13_code 9 = .ok (.iload_n 2, 1) := by decide +kernel
theorem d14_10 : decode jdk_43_method_13_code 10 = .ok (.aload_n 0, 1) := by decide +kernel
theorem d14_11 : decode jdk_43_method_13_code 11 = .ok (.arraylength, 1) := by decide +kernel
theorem d14_12 : decode jdk_43_method_13_code 12 = .ok (.if_icmp .ge 20, 3) := by decide +kernel
theorem d14_32 : decode jdk_43_method_13_code 32 = .ok (.iconst 1, 1) := by decide +kernel
theorem d14_33 : decode jdk_43_method_13_code 33 = .ok (.ireturn, 1) := by decide +kernel
theorem pn_14 : plainName "java/lang/StringLatin1" = true := by first | (simp [plainName, overriddenIn]; done) | decide +kernel
theorem ef_14e0 (m : MethodId) (p0 : Addr) (p1 : Addr) : entryFrame m #[(.ref p0), (.ref p1)] 3 = mkF m 0 #[.val (.ref p0), .val (.ref p1), .unset] [] := by first | (simp [entryFrame, mkF, argsToLocals, Value.category]; done) | rfl
def f_14e0 (x_ : Nat → Int32) (y_ : Nat → Int32) : Int32 := (1 : Int32)
def Q_14e0 (Z : State) (p0 : Addr) (p1 : Addr) (x_ : Nat → Int32) (y_ : Nat → Int32) (h0 : Heap) (n0 : Nat) (v : Option Value) (h : Heap) (L : List Loc) : Prop := v = some (.int (f_14e0 x_ y_)) ∧ Fr n0 L ∧ h = h0
set_option maxRecDepth 65536 in
set_option maxHeartbeats 40000000 in
theorem rm_14e0 (l : Launch) (Z : State) (a0 : Array Value) (hw : ∀ d ∈ tables_1, d.before a0 Z = true) (ws : List Jvm.Cond) (p0 : Addr) (p1 : Addr) (x_ : Nat → Int32) (y_ : Nat → Int32) (h0 : Heap) (n0 : Nat) (Z0 : n0 ≤ h0.size) (A_p0 : own_A Z h0 p0 .byte 0 (fun i => .int (x_ i))) (A_p1 : own_A Z h0 p1 .byte 0 (fun i => .int (y_ i))) :
    MetFree l (⟨"java/lang/StringLatin1", "equals", "([B[B)Z"⟩ : MethodName) (head1 (Jvm.Cond.code (⟨"java/lang/StringLatin1", "equals", "([B[B)Z"⟩ : MethodName) jdk_43_method_13_code 3 (some .boolean) :: ws) ({ frames := 0, cells := 0, slots := 0, locals := 0 } : Room)) (fun a U => a = #[(.ref p0), (.ref p1)] ∧ Z.Warmed39 U.vm ∧ U.heap = h0) (fun _ _ _ _ _ => True) (fun _ U o U' => ∃ v L, o = .returned v ∧ Q_14e0 Z p0 p1 x_ y_ h0 n0 v U'.heap L ∧ FrameEnd U o U' L ({ frames := 0, cells := 0, slots := 0, locals := 0 } : Room).cells ({ frames := 0, cells := 0, slots := 0, locals := 0 } : Room).slots) := by
  refine MetFree.of_bodySF (plainFor_of_name pn_14) hisR ?_
  intro p e s m args below meth c s₁ Bd hml0 hP hK
  obtain ⟨rfl, hZ, hh⟩ := hP
  have hx := Bd.exec
  have hby := Bd.bytes
  have hml : c.maxLocals = 3 := hml0
  have hown : s.vm.findClass "java/lang/StringLatin1" = some m.cls := findClass_of_methodNamed Bd.named
  have hnm := (name_of_methodNamed Bd.named Bd.method).1
  have X0 : Stand p l e ({ frames := 0, cells := 0, slots := 0, locals := 0 } : Room) s m #[(.ref p0), (.ref p1)] below meth c s₁ [] 0 0 := Stand.of_body Bd
  have e0 : s₁.heap = h0 := by rw [← hh, Bd.state]; rfl
  have N0 := Fr.nil n0
  have K0 : Keep h0 h0 [] := Keep.refl h0 _
  have pre0 : ∀ t, Steps p.tables e below (s₁.setTop (mkF m 0 #[.val (.ref p0), .val (.ref p1), .unset] [])) t → Steps p.tables e below (s₁.setTop (entryFrame m #[(.ref p0), (.ref p1)] 3)) t := fun t k => castTop (ef_14e0 m p0 p1) k
  obtain ⟨fs, hr, hrun, hended, hW, hsame⟩ := X0.leave (v := some (.int (1 : Int32))) (fun h => by rw [Bd.returns] at h; cases h) (BodyLoose.notSynchronized Bd)
  refine ⟨_, _, pre0 _ ?_, hrun, hended, _, _, rfl, ?_, ⟨_, rfl⟩, hW, hsame.mono (by decide) (by decide)⟩
  · show Steps p.tables e below (s₁.setTop (mkF m 0 #[.val (.ref p0), .val (.ref p1), .unset] [])) _
    refine XS.aloadN X0.here hx rfl (hb hby d14_0) rfl rfl ?_
    show Steps p.tables e below (s₁.setTop (mkF m 1 #[.val (.ref p0), .val (.ref p1), .unset] [(.ref p0)])) _
    refine own_len X0 hx hZ e0 A_p0 (z := (0 : Int32)) rfl (g := (mkF m 1 #[.val (.ref p0), .val (.ref p1), .unset] [(.ref p0)])) rfl rfl (hb hby d14_1) ?_
    show Steps p.tables e below (s₁.setTop (mkF m 2 #[.val (.ref p0), .val (.ref p1), .unset] [(.int (0 : Int32))])) _
    refine XS.aloadN X0.here hx rfl (hb hby d14_2) rfl rfl ?_
    show Steps p.tables e below (s₁.setTop (mkF m 3 #[.val (.ref p0), .val (.ref p1), .unset] [(.ref p1), (.int (0 : Int32))])) _
    refine own_len X0 hx hZ e0 A_p1 (z := (0 : Int32)) rfl (g := (mkF m 3 #[.val (.ref p0), .val (.ref p1), .unset] [(.ref p1), (.int (0 : Int32))])) rfl rfl (hb hby d14_3) ?_
    show Steps p.tables e below (s₁.setTop (mkF m 4 #[.val (.ref p0), .val (.ref p1), .unset] [(.int (0 : Int32)), (.int (0 : Int32))])) _
    refine XS.icmpNo X0.here hx rfl (hb hby d14_4) rfl (teq (by decide : (0 : Int32) = (0 : Int32))).2 ?_
    show Steps p.tables e below (s₁.setTop (mkF m 7 #[.val (.ref p0), .val (.ref p1), .unset] [])) _
    refine XS.iconst X0.here hx rfl (hb hby d14_7) ?_
    show Steps p.tables e below (s₁.setTop (mkF m 8 #[.val (.ref p0), .val (.ref p1), .unset] [(.int (0 : Int32))])) _
    refine XS.istoreN X0.here hx rfl (hb hby d14_8) rfl (l' := #[.val (.ref p0), .val (.ref p1), .val (.int (0 : Int32))]) rfl ?_
    show Steps p.tables e below (s₁.setTop (mkF m 9 #[.val (.ref p0), .val (.ref p1), .val (.int (0 : Int32))] [])) _
    refine XS.iloadN X0.here hx rfl (hb hby d14_9) rfl  ?_
    show Steps p.tables e below (s₁.setTop (mkF m 10 #[.val (.ref p0), .val (.ref p1), .val (.int (0 : Int32))] [(.int (0 : Int32))])) _
    refine XS.aloadN X0.here hx rfl (hb hby d14_10) rfl rfl ?_
    show Steps p.tables e below (s₁.setTop (mkF m 11 #[.val (.ref p0), .val (.ref p1), .val (.int (0 : Int32))] [(.ref p0), (.int (0 : Int32))])) _
    refine own_len X0 hx hZ e0 A_p0 (z := (0 : Int32)) rfl (g := (mkF m 11 #[.val (.ref p0), .val (.ref p1), .val (.int (0 : Int32))] [(.ref p0), (.int (0 : Int32))])) rfl rfl (hb hby d14_11) ?_
    show Steps p.tables e below (s₁.setTop (mkF m 12 #[.val (.ref p0), .val (.ref p1), .val (.int (0 : Int32))] [(.int (0 : Int32)), (.int (0 : Int32))])) _
    refine XS.icmpYes X0.here hx rfl (pc0 := 12) (pc' := 32) rfl (hb hby d14_12) rfl (flt (by decide : ¬ ((0 : Int32) < (0 : Int32)))).2.1 (by decide) (by decide) ?_
    show Steps p.tables e below (s₁.setTop (mkF m 32 #[.val (.ref p0), .val (.ref p1), .val (.int (0 : Int32))] [])) _
    refine XS.iconst X0.here hx rfl (hb hby d14_32) ?_
    show Steps p.tables e below (s₁.setTop (mkF m 33 #[.val (.ref p0), .val (.ref p1), .val (.int (0 : Int32))] [(.int (1 : Int32))])) _
    exact retN X0 hx (t := .boolean) Bd.returns (by simp) (hb hby d14_33) hr
  · show Q_14e0 Z p0 p1 x_ y_ h0 n0 _ s₁.heap _
    rw [e0]
    exact ⟨congrArg (fun z => some (Value.int z)) (by rfl : (1 : Int32) = f_14e0 x_ y_), N0, rfl⟩
theorem pd_6 : parseMethodDescriptor "([B[B)Z" = some ⟨[(.array .byte), (.array .byte)], some .boolean⟩ := by decide +kernel
theorem d13_0 : decode jdk_42_method_66_code 0 = .ok (.aload_n 0, 1) := by decide +kernel
theorem d13_1 : decode jdk_42_method_66_code 1 = .ok (.aload_n 1, 1) := by decide +kernel
theorem d13_2 : decode jdk_42_method_66_code 2 = .ok (.if_acmp .ne 5, 3) := by decide +kernel
theorem d13_7 : decode jdk_42_method_66_code 7 = .ok (.aload_n 1, 1) := by decide +kernel
theorem d13_8 : decode jdk_42_method_66_code 8 = .ok (.instanceof 10, 3) := by decide +kernel
theorem d13_11 : decode jdk_42_method_66_code 11 = .ok (.ifCond .eq 43, 3) := by decide +kernel
theorem d13_14 : decode jdk_42_method_66_code 14 = .ok (.aload_n 1, 1) := by decide +kernel
theorem d13_15 : decode jdk_42_method_66_code 15 = .ok (.checkcast 10, 3) := by decide +kernel
theorem d13_18 : decode jdk_42_method_66_code 18 = .ok (.astore_n 2, 1) := by decide +kernel
theorem d13_19 : decode jdk_42_method_66_code 19 = .ok (.getstatic 38, 3) := by decide +kernel
theorem d13_22 : decode jdk_42_method_66_code 22 = .ok (.ifCond .eq 14, 3) := by decide +kernel
theorem d13_25 : decode jdk_42_method_66_code 25 = .ok (.aload_n 0, 1) := by decide +kernel
theorem d13_26 : decode jdk_42_method_66_code 26 = .ok (.getfield 15, 3) := by decide +kernel
theorem d13_29 : decode jdk_42_method_66_code 29 = .ok (.aload_n 2, 1) := by decide +kernel
theorem d13_30 : decode jdk_42_method_66_code 30 = .ok (.getfield 15, 3) := by decide +kernel
theorem d13_33 : decode jdk_42_method_66_code 33 = .ok (.if_icmp .ne 21, 3) := by decide +kernel
theorem d13_36 : decode jdk_42_method_66_code 36 = .ok (.aload_n 0, 1) := by decide +kernel
theorem d13_37 : decode jdk_42_method_66_code 37 = .ok (.getfield 9, 3) := by decide +kernel
theorem d13_40 : decode jdk_42_method_66_code 40 = .ok (.aload_n 2, 1) := by decide +kernel
theorem d13_41 : decode jdk_42_method_66_code 41 = .ok (.getfield 9, 3) := by decide +kernel
theorem d13_44 : decode jdk_42_method_66_code 44 = .ok (.invokestatic 541, 3) := by decide +kernel
theorem d13_47 : decode jdk_42_method_66_code 47 = .ok (.ifCond .eq 7, 3) := by decide +kernel
theorem d13_50 : decode jdk_42_method_66_code 50 = .ok (.iconst 1, 1) := by decide +kernel
theorem d13_51 : decode jdk_42_method_66_code 51 = .ok (.goto 4, 3) := by decide +kernel
theorem d13_54 : decode jdk_42_method_66_code 54 = .ok (.iconst 0, 1) := by decide +kernel
theorem d13_55 : decode jdk_42_method_66_code 55 = .ok (.ireturn, 1) := by decide +kernel
theorem pn_13 : plainName "java/lang/String" = true := by first | (simp [plainName, overriddenIn]; done) | decide +kernel
theorem ef_13e0 (m : MethodId) (p0 : Addr) (p1 : Addr) : entryFrame m #[(.ref p0), (.ref p1)] 3 = mkF m 0 #[.val (.ref p0), .val (.ref p1), .unset] [] := by first | (simp [entryFrame, mkF, argsToLocals, Value.category]; done) | rfl
def f_13e0 (cs_ : Int32) (x_ : Nat → Int32) (y_ : Nat → Int32) : Int32 := let ms0_55 : Int32 := (if (f_14e0 x_ y_) = (0 : Int32) then (0 : Int32) else (1 : Int32)); ms0_55
def Q_13e0 (Z : State) (p0 : Addr) (p1 : Addr) (cs_ : Int32) (v0_ : Addr) (v1_ : Addr) (x_ : Nat → Int32) (y_ : Nat → Int32) (h0 : Heap) (n0 : Nat) (v : Option Value) (h : Heap) (L : List Loc) : Prop := v = some (.int (f_13e0 cs_ x_ y_)) ∧ Fr n0 L ∧ h = h0
set_option maxRecDepth 65536 in
set_option maxHeartbeats 40000000 in
theorem rm_13e0 (l : Launch) (Z : State) (a0 : Array Value) (hw : ∀ d ∈ tables_1, d.before a0 Z = true) (ws : List Jvm.Cond) (p0 : Addr) (p1 : Addr) (cs_ : Int32) (v0_ : Addr) (v1_ : Addr) (x_ : Nat → Int32) (y_ : Nat → Int32) (h0 : Heap) (n0 : Nat) (Z0 : n0 ≤ h0.size) (ne_p0_p1 : p0 ≠ p1) (E_p1 : Exa Z h0 p1 "java/lang/String") (S_COMPACT_STRINGS : Sta Z h0 "java/lang/String" "COMPACT_STRINGS" "Z" (.int cs_)) (hcs : ¬ (cs_ = (0 : Int32))) (F_p0_value : Fld Z h0 p0 "java/lang/String" "value" "[B" (.ref v0_)) (F_p0_coder : Fld Z h0 p0 "java/lang/String" "coder" "B" (.int (0 : Int32))) (F_p1_value : Fld Z h0 p1 "java/lang/String" "value" "[B" (.ref v1_)) (F_p1_coder : Fld Z h0 p1 "java/lang/String" "coder" "B" (.int (0 : Int32))) (A_v0_ : own_A Z h0 v0_ .byte 0 (fun i => .int (x_ i))) (A_v1_ : own_A Z h0 v1_ .byte 0 (fun i => .int (y_ i))) :
    MetFree l (⟨"java/lang/String", "equals", "(Ljava/lang/Object;)Z"⟩ : MethodName) (head1 (Jvm.Cond.code (⟨"java/lang/String", "equals", "(Ljava/lang/Object;)Z"⟩ : MethodName) jdk_42_method_66_code 3 (some .boolean) :: ws) ({ frames := 1, cells := 0, slots := 0, locals := 14 } : Room)) (fun a U => a = #[(.ref p0), (.ref p1)] ∧ Z.Warmed39 U.vm ∧ U.heap = h0) (fun _ _ _ _ _ => True) (fun _ U o U' => ∃ v L, o = .returned v ∧ Q_13e0 Z p0 p1 cs_ v0_ v1_ x_ y_ h0 n0 v U'.heap L ∧ FrameEnd U o U' L ({ frames := 1, cells := 0, slots := 0, locals := 14 } : Room).cells ({ frames := 1, cells := 0, slots := 0, locals := 14 } : Room).slots) := by
  refine MetFree.of_bodySF (plainFor_of_name pn_13) hisR ?_
  intro p e s m args below meth c s₁ Bd hml0 hP hK
  obtain ⟨rfl, hZ, hh⟩ := hP
  have hx := Bd.exec
  have hby := Bd.bytes
  have hml : c.maxLocals = 3 := hml0
  have hown : s.vm.findClass "java/lang/String" = some m.cls := findClass_of_methodNamed Bd.named
  have hnm := (name_of_methodNamed Bd.named Bd.method).1
  have X0 : Stand p l e ({ frames := 1, cells := 0, slots := 0, locals := 14 } : Room) s m #[(.ref p0), (.ref p1)] below meth c s₁ [] 0 0 := Stand.of_body Bd
  have e0 : s₁.heap = h0 := by rw [← hh, Bd.state]; rfl
  have N0 := Fr.nil n0
  have K0 : Keep h0 h0 [] := Keep.refl h0 _
  have pre0 : ∀ t, Steps p.tables e below (s₁.setTop (mkF m 0 #[.val (.ref p0), .val (.ref p1), .unset] [])) t → Steps p.tables e below (s₁.setTop (entryFrame m #[(.ref p0), (.ref p1)] 3)) t := fun t k => castTop (ef_13e0 m p0 p1) k
  have pre1 : ∀ t, Steps p.tables e below (s₁.setTop (mkF m 8 #[.val (.ref p0), .val (.ref p1), .unset] [(.ref p1)])) t → Steps p.tables e below (s₁.setTop (entryFrame m #[(.ref p0), (.ref p1)] 3)) t := by
    intro t k
    refine pre0 t ?_
    show Steps p.tables e below (s₁.setTop (mkF m 0 #[.val (.ref p0), .val (.ref p1), .unset] [])) _
    refine XS.aloadN X0.here hx rfl (hb hby d13_0) rfl rfl ?_
    show Steps p.tables e below (s₁.setTop (mkF m 1 #[.val (.ref p0), .val (.ref p1), .unset] [(.ref p0)])) _
    refine XS.aloadN X0.here hx rfl (hb hby d13_1) rfl rfl ?_
    show Steps p.tables e below (s₁.setTop (mkF m 2 #[.val (.ref p0), .val (.ref p1), .unset] [(.ref p1), (.ref p0)])) _
    refine Jvm.RoadKit.acmp (g := (mkF m 2 #[.val (.ref p0), .val (.ref p1), .unset] [(.ref p1), (.ref p0)])) X0 hx rfl rfl rfl (pc0 := 2) (pc' := 7) (same := false) rfl (hb hby d13_2) rfl (decide_eq_false fun q => (ne_p0_p1 : p0 ≠ p1) (Value.ref.inj q)) (by decide) (by decide) ?_
    show Steps p.tables e below (s₁.setTop (mkF m 7 #[.val (.ref p0), .val (.ref p1), .unset] [])) _
    refine XS.aloadN X0.here hx rfl (hb hby d13_7) rfl rfl ?_
    exact k
  obtain ⟨T2, X2, e2, st2⟩ := instY X0 hx hZ hown (hw _ (List.mem_of_getElem? (i := 73) rfl)) e0 (Ins.self E_p1) (g := (mkF m 8 #[.val (.ref p0), .val (.ref p1), .unset] [(.ref p1)])) rfl rfl (hb hby d13_8)
  have pre3 : ∀ t, Steps p.tables e below (T2.setTop (mkF m 15 #[.val (.ref p0), .val (.ref p1), .unset] [(.ref p1)])) t → Steps p.tables e below (s₁.setTop (entryFrame m #[(.ref p0), (.ref p1)] 3)) t := by
    intro t k
    refine pre1 t ?_
    show Steps p.tables e below (s₁.setTop (mkF m 8 #[.val (.ref p0), .val (.ref p1), .unset] [(.ref p1)])) _
    refine st2 _ ?_
    show Steps p.tables e below (T2.setTop (mkF m 11 #[.val (.ref p0), .val (.ref p1), .unset] [(.int (1 : Int32))])) _
    refine XS.ifNo X2.here hx rfl (hb hby d13_11) rfl ((if0 _ _).trans (feq (by decide : ¬ ((1 : Int32) = (0 : Int32)))).1) ?_
    show Steps p.tables e below (T2.setTop (mkF m 14 #[.val (.ref p0), .val (.ref p1), .unset] [])) _
    refine XS.aloadN X2.here hx rfl (hb hby d13_14) rfl rfl ?_
    exact k
  obtain ⟨T4, X4, e4, st4⟩ := castY X2 hx hZ hown (hw _ (List.mem_of_getElem? (i := 73) rfl)) e2 (Ins.self E_p1) (g := (mkF m 15 #[.val (.ref p0), .val (.ref p1), .unset] [(.ref p1)])) rfl rfl (hb hby d13_15)
  have pre5 : ∀ t, Steps p.tables e below (T4.setTop (mkF m 19 #[.val (.ref p0), .val (.ref p1), .val (.ref p1)] [])) t → Steps p.tables e below (s₁.setTop (entryFrame m #[(.ref p0), (.ref p1)] 3)) t := by
    intro t k
    refine pre3 t ?_
    show Steps p.tables e below (T2.setTop (mkF m 15 #[.val (.ref p0), .val (.ref p1), .unset] [(.ref p1)])) _
    refine st4 _ ?_
    show Steps p.tables e below (T4.setTop (mkF m 18 #[.val (.ref p0), .val (.ref p1), .unset] [(.ref p1)])) _
    refine XS.astoreN X4.here hx rfl (hb hby d13_18) rfl rfl (l' := #[.val (.ref p0), .val (.ref p1), .val (.ref p1)]) rfl ?_
    exact k
  obtain ⟨T6, X6, e6, st6⟩ := getS2 X4 hx hZ hown (host := "") (Or.inl (hw _ (List.mem_of_getElem? (i := 23) rfl))) Via.refl e4 S_COMPACT_STRINGS (g := (mkF m 19 #[.val (.ref p0), .val (.ref p1), .val (.ref p1)] [])) rfl (hb hby d13_19)
  have pre7 : ∀ t, Steps p.tables e below (T6.setTop (mkF m 26 #[.val (.ref p0), .val (.ref p1), .val (.ref p1)] [(.ref p0)])) t → Steps p.tables e below (s₁.setTop (entryFrame m #[(.ref p0), (.ref p1)] 3)) t := by
    intro t k
    refine pre5 t ?_
    show Steps p.tables e below (T4.setTop (mkF m 19 #[.val (.ref p0), .val (.ref p1), .val (.ref p1)] [])) _
    refine st6 _ ?_
    show Steps p.tables e below (T6.setTop (mkF m 22 #[.val (.ref p0), .val (.ref p1), .val (.ref p1)] [(.int cs_)])) _
    refine XS.ifNo X6.here hx rfl (hb hby d13_22) rfl ((if0 _ _).trans (feq (hcs : ¬ (cs_ = (0 : Int32)))).1) ?_
    show Steps p.tables e below (T6.setTop (mkF m 25 #[.val (.ref p0), .val (.ref p1), .val (.ref p1)] [])) _
    refine XS.aloadN X6.here hx rfl (hb hby d13_25) rfl rfl ?_
    exact k
  obtain ⟨T8, X8, e8, st8⟩ := getF X6 hx hZ hown (host := "") (Or.inl (hw _ (List.mem_of_getElem? (i := 35) rfl))) Via.refl e6 F_p0_coder (g := (mkF m 26 #[.val (.ref p0), .val (.ref p1), .val (.ref p1)] [(.ref p0)])) rfl rfl (hb hby d13_26)
  have pre9 : ∀ t, Steps p.tables e below (T8.setTop (mkF m 30 #[.val (.ref p0), .val (.ref p1), .val (.ref p1)] [(.ref p1), (.int (0 : Int32))])) t → Steps p.tables e below (s₁.setTop (entryFrame m #[(.ref p0), (.ref p1)] 3)) t := by
    intro t k
    refine pre7 t ?_
    show Steps p.tables e below (T6.setTop (mkF m 26 #[.val (.ref p0), .val (.ref p1), .val (.ref p1)] [(.ref p0)])) _
    refine st8 _ ?_
    show Steps p.tables e below (T8.setTop (mkF m 29 #[.val (.ref p0), .val (.ref p1), .val (.ref p1)] [(.int (0 : Int32))])) _
    refine XS.aloadN X8.here hx rfl (hb hby d13_29) rfl rfl ?_
    exact k
  obtain ⟨T10, X10, e10, st10⟩ := getF X8 hx hZ hown (host := "") (Or.inl (hw _ (List.mem_of_getElem? (i := 35) rfl))) Via.refl e8 F_p1_coder (g := (mkF m 30 #[.val (.ref p0), .val (.ref p1), .val (.ref p1)] [(.ref p1), (.int (0 : Int32))])) rfl rfl (hb hby d13_30)
  have pre11 : ∀ t, Steps p.tables e below (T10.setTop (mkF m 37 #[.val (.ref p0), .val (.ref p1), .val (.ref p1)] [(.ref p0)])) t → Steps p.tables e below (s₁.setTop (entryFrame m #[(.ref p0), (.ref p1)] 3)) t := by
    intro t k
    refine pre9 t ?_
    show Steps p.tables e below (T8.setTop (mkF m 30 #[.val (.ref p0), .val (.ref p1), .val (.ref p1)] [(.ref p1), (.int (0 : Int32))])) _
    refine st10 _ ?_
    show Steps p.tables e below (T10.setTop (mkF m 33 #[.val (.ref p0), .val (.ref p1), .val (.ref p1)] [(.int (0 : Int32)), (.int (0 : Int32))])) _
    refine XS.icmpNo X10.here hx rfl (hb hby d13_33) rfl (teq (by decide : (0 : Int32) = (0 : Int32))).2 ?_
    show Steps p.tables e below (T10.setTop (mkF m 36 #[.val (.ref p0), .val (.ref p1), .val (.ref p1)] [])) _
    refine XS.aloadN X10.here hx rfl (hb hby d13_36) rfl rfl ?_
    exact k
  obtain ⟨T12, X12, e12, st12⟩ := getF X10 hx hZ hown (host := "") (Or.inl (hw _ (List.mem_of_getElem? (i := 37) rfl))) Via.refl e10 F_p0_value (g := (mkF m 37 #[.val (.ref p0), .val (.ref p1), .val (.ref p1)] [(.ref p0)])) rfl rfl (hb hby d13_37)
  have pre13 : ∀ t, Steps p.tables e below (T12.setTop (mkF m 41 #[.val (.ref p0), .val (.ref p1), .val (.ref p1)] [(.ref p1), (.ref v0_)])) t → Steps p.tables e below (s₁.setTop (entryFrame m #[(.ref p0), (.ref p1)] 3)) t := by
    intro t k
    refine pre11 t ?_
    show Steps p.tables e below (T10.setTop (mkF m 37 #[.val (.ref p0), .val (.ref p1), .val (.ref p1)] [(.ref p0)])) _
    refine st12 _ ?_
    show Steps p.tables e below (T12.setTop (mkF m 40 #[.val (.ref p0), .val (.ref p1), .val (.ref p1)] [(.ref v0_)])) _
    refine XS.aloadN X12.here hx rfl (hb hby d13_40) rfl rfl ?_
    exact k
  obtain ⟨T14, X14, e14, st14⟩ := getF X12 hx hZ hown (host := "") (Or.inl (hw _ (List.mem_of_getElem? (i := 37) rfl))) Via.refl e12 F_p1_value (g := (mkF m 41 #[.val (.ref p0), .val (.ref p1), .val (.ref p1)] [(.ref p1), (.ref v0_)])) rfl rfl (hb hby d13_41)
  have pre16 : ∀ t, Steps p.tables e below (T14.setTop (mkF m 44 #[.val (.ref p0), .val (.ref p1), .val (.ref p1)] [(.ref v1_), (.ref v0_)])) t → Steps p.tables e below (s₁.setTop (entryFrame m #[(.ref p0), (.ref p1)] 3)) t := by
    intro t k
    refine pre13 t ?_
    show Steps p.tables e below (T12.setTop (mkF m 41 #[.val (.ref p0), .val (.ref p1), .val (.ref p1)] [(.ref p1), (.ref v0_)])) _
    refine st14 _ ?_
    exact k
  obtain ⟨_, _, ⟨T15, L15, k15, n15⟩, -, X15, ⟨Lc15, hQ15, l15, y15, z15⟩, st15⟩ := Jvm.LawKit.callS X14 hx (y := (⟨"java/lang/StringLatin1", "equals", "([B[B)Z"⟩ : MethodName)) hown (mvT hZ (hw _ (List.mem_of_getElem? (i := 74) rfl))) (mvT hZ (hw _ (List.mem_of_getElem? (i := 75) rfl))) (mvT hZ (hw _ (List.mem_of_getElem? (i := 76) rfl))) (mvT hZ (hw _ (List.mem_of_getElem? (i := 77) rfl))) (by decide) (backOf (W := 0) (rm_14e0 l Z a0 hw [] v0_ v1_ x_ y_ h0 n0 Z0 A_v0_ A_v1_) hZ (hw _ (List.mem_of_getElem? (i := 77) rfl)) (hw _ (List.mem_of_getElem? (i := 76) rfl)) (by decide) (by decide)) (g := (mkF m 44 #[.val (.ref p0), .val (.ref p1), .val (.ref p1)] [(.ref v1_), (.ref v0_)])) rfl (by rw [hml]; rfl) (argsL := [(.ref v0_), (.ref v1_)]) (rest := []) (lenOf pd_6 rfl) rfl (by show 2 * 0 + _ ≤ _; exact Nat.le_of_eq rfl) (hb hby d13_44) (fun _ _ => ⟨rfl, e14, (by decide : 0 + 0 ≤ _), (by decide : 0 + 0 ≤ _)⟩)
  dsimp only [Pt.U, Pt.locs, Pt.cells, Pt.slots] at X15 l15 y15 z15 st15 hQ15
  rw [l15, y15, z15] at X15
  obtain ⟨rfl, N15q, e15⟩ := hQ15
  have N15 := Fr.app N0 N15q
  have pre17 : ∀ t, Steps p.tables e below (T15.setTop (mkF m 47 #[.val (.ref p0), .val (.ref p1), .val (.ref p1)] [(.int (f_14e0 x_ y_))])) t → Steps p.tables e below (s₁.setTop (entryFrame m #[(.ref p0), (.ref p1)] 3)) t := by
    intro t k
    refine pre16 t ?_
    show Steps p.tables e below (T14.setTop (mkF m 44 #[.val (.ref p0), .val (.ref p1), .val (.ref p1)] [(.ref v1_), (.ref v0_)])) _
    refine st15 _ ?_
    exact k
  obtain ⟨ms0_55, hms0_55⟩ : ∃ z : Int32, z = (if (f_14e0 x_ y_) = (0 : Int32) then (0 : Int32) else (1 : Int32)) := ⟨_, rfl⟩
  have pre18 : ∀ t, Steps p.tables e below (T15.setTop (mkF m 55 #[.val (.ref p0), .val (.ref p1), .val (.ref p1)] [(.int ms0_55)])) t → Steps p.tables e below (s₁.setTop (entryFrame m #[(.ref p0), (.ref p1)] 3)) t := by
    intro t k
    refine pre17 t ?_
    by_cases hc47 : (f_14e0 x_ y_) = (0 : Int32)
    · show Steps p.tables e below (T15.setTop (mkF m 47 #[.val (.ref p0), .val (.ref p1), .val (.ref p1)] [(.int (f_14e0 x_ y_))])) _
      refine XS.ifYes X15.here hx rfl (pc0 := 47) (pc' := 54) rfl (hb hby d13_47) rfl ((if0 _ _).trans (teq hc47).1) (by decide) (by decide) ?_
      show Steps p.tables e below (T15.setTop (mkF m 54 #[.val (.ref p0), .val (.ref p1), .val (.ref p1)] [])) _
      refine XS.iconst X15.here hx rfl (hb hby d13_54) ?_
      have qms0_55 : ms0_55 = (0 : Int32) := by rw [hms0_55, if_pos hc47]
      rw [qms0_55] at k
      exact k
    · show Steps p.tables e below (T15.setTop (mkF m 47 #[.val (.ref p0), .val (.ref p1), .val (.ref p1)] [(.int (f_14e0 x_ y_))])) _
      refine XS.ifNo X15.here hx rfl (hb hby d13_47) rfl ((if0 _ _).trans (feq hc47).1) ?_
      show Steps p.tables e below (T15.setTop (mkF m 50 #[.val (.ref p0), .val (.ref p1), .val (.ref p1)] [])) _
      refine XS.iconst X15.here hx rfl (hb hby d13_50) ?_
      show Steps p.tables e below (T15.setTop (mkF m 51 #[.val (.ref p0), .val (.ref p1), .val (.ref p1)] [(.int (1 : Int32))])) _
      refine XS.goto X15.here hx rfl (pc0 := 51) (pc' := 55) rfl (hb hby d13_51) (by decide) (by decide) ?_
      have qms0_55 : ms0_55 = (1 : Int32) := by rw [hms0_55, if_neg hc47]
      rw [qms0_55] at k
      exact k
  have hnar : nar .boolean ms0_55 = ms0_55 := by rw [hms0_55]; (repeat' split) <;> rfl
  obtain ⟨fs, hr, hrun, hended, hW, hsame⟩ := X15.leave (v := some (.int ms0_55)) (fun h => by rw [Bd.returns] at h; cases h) (BodyLoose.notSynchronized Bd)
  refine ⟨_, _, pre18 _ ?_, hrun, hended, _, _, rfl, ?_, ⟨_, rfl⟩, hW, hsame.mono (by decide) (by decide)⟩
  · show Steps p.tables e below (T15.setTop (mkF m 55 #[.val (.ref p0), .val (.ref p1), .val (.ref p1)] [(.int ms0_55)])) _
    exact retN X15 hx (t := .boolean) Bd.returns (by simp) (hb hby d13_55) (by rw [hnar]; exact hr)
  · show Q_13e0 Z p0 p1 cs_ v0_ v1_ x_ y_ h0 n0 _ T15.heap _
    rw [e15]
    exact ⟨congrArg (fun z => some (Value.int z)) (by subst hms0_55; rfl : ms0_55 = f_13e0 cs_ x_ y_), N15, rfl⟩
theorem pd_7 : parseMethodDescriptor "(Ljava/lang/Object;)Z" = some ⟨[(.object "java/lang/Object")], some .boolean⟩ := by decide +kernel
theorem d12_0 : decode prog_36_method_5_code 0 = .ok (.aload_n 1, 1) := by decide +kernel
theorem d12_1 : decode prog_36_method_5_code 1 = .ok (.instanceof 18, 3) := by decide +kernel
theorem d12_4 : decode prog_36_method_5_code 4 = .ok (.ifCond .ne 5, 3) := by decide +kernel
theorem d12_9 : decode prog_36_method_5_code 9 = .ok (.aload_n 1, 1) := by decide +kernel
theorem d12_10 : decode prog_36_method_5_code 10 = .ok (.checkcast 18, 3) := by decide +kernel
theorem d12_13 : decode prog_36_method_5_code 13 = .ok (.astore_n 2, 1) := by decide +kernel
theorem d12_14 : decode prog_36_method_5_code 14 = .ok (.aload_n 0, 1) := by decide +kernel
theorem d12_15 : decode prog_36_method_5_code 15 = .ok (.getfield 17, 3) := by decide +kernel
theorem d12_18 : decode prog_36_method_5_code 18 = .ok (.aload_n 2, 1) := by decide +kernel
theorem d12_19 : decode prog_36_method_5_code 19 = .ok (.getfield 17, 3) := by decide +kernel
theorem d12_22 : decode prog_36_method_5_code 22 = .ok (.invokevirtual 36, 3) := by decide +kernel
theorem d12_25 : decode prog_36_method_5_code 25 = .ok (.ifCond .eq 18, 3) := by decide +kernel
theorem d12_28 : decode prog_36_method_5_code 28 = .ok (.aload_n 0, 1) := by decide +kernel
theorem d12_29 : decode prog_36_method_5_code 29 = .ok (.getfield 22, 3) := by decide +kernel
theorem d12_32 : decode prog_36_method_5_code 32 = .ok (.aload_n 2, 1) := by decide +kernel
theorem d12_33 : decode prog_36_method_5_code 33 = .ok (.getfield 22, 3) := by decide +kernel
theorem d12_36 : decode prog_36_method_5_code 36 = .ok (.if_icmp .ne 7, 3) := by decide +kernel
theorem d12_39 : decode prog_36_method_5_code 39 = .ok (.iconst 1, 1) := by decide +kernel
theorem d12_40 : decode prog_36_method_5_code 40 = .ok (.goto 4, 3) := by decide +kernel
theorem d12_43 : decode prog_36_method_5_code 43 = .ok (.iconst 0, 1) := by decide +kernel
theorem d12_44 : decode prog_36_method_5_code 44 = .ok (.ireturn, 1) := by decide +kernel
theorem pn_12 : plainName "com/example/sequeue/sequeue/route/MessageQueue" = true := by first | (simp [plainName, overriddenIn]; done) | decide +kernel
theorem ef_12e0 (m : MethodId) (p0 : Addr) (p1 : Addr) : entryFrame m #[(.ref p0), (.ref p1)] 3 = mkF m 0 #[.val (.ref p0), .val (.ref p1), .unset] [] := by first | (simp [entryFrame, mkF, argsToLocals, Value.category]; done) | rfl
def f_12e0 (i0_ : Int32) (i1_ : Int32) (cs_ : Int32) (x_ : Nat → Int32) (y_ : Nat → Int32) : Int32 := (if (f_13e0 cs_ x_ y_) = (0 : Int32) then (0 : Int32) else let ms0_44 : Int32 := (if i0_ = i1_ then (1 : Int32) else (0 : Int32)); ms0_44)
def Q_12e0 (Z : State) (p0 : Addr) (p1 : Addr) (s0_ : Addr) (i0_ : Int32) (s1_ : Addr) (i1_ : Int32) (cs_ : Int32) (v0_ : Addr) (v1_ : Addr) (x_ : Nat → Int32) (y_ : Nat → Int32) (h0 : Heap) (n0 : Nat) (v : Option Value) (h : Heap) (L : List Loc) : Prop := v = some (.int (f_12e0 i0_ i1_ cs_ x_ y_)) ∧ Fr n0 L ∧ h = h0
set_option maxRecDepth 65536 in
set_option maxHeartbeats 40000000 in
theorem rm_12e0 (l : Launch) (Z : State) (a0 : Array Value) (hw : ∀ d ∈ tables_1, d.before a0 Z = true) (ws : List Jvm.Cond) (p0 : Addr) (p1 : Addr) (s0_ : Addr) (i0_ : Int32) (s1_ : Addr) (i1_ : Int32) (cs_ : Int32) (v0_ : Addr) (v1_ : Addr) (x_ : Nat → Int32) (y_ : Nat → Int32) (h0 : Heap) (n0 : Nat) (Z0 : n0 ≤ h0.size) (ne_p0_p1 : p0 ≠ p1) (E_p1 : Exa Z h0 p1 "com/example/sequeue/sequeue/route/MessageQueue") (F_p0_brokerName : Fld Z h0 p0 "com/example/sequeue/sequeue/route/MessageQueue" "brokerName" "Ljava/lang/String;" (.ref s0_)) (F_p0_queueId : Fld Z h0 p0 "com/example/sequeue/sequeue/route/MessageQueue" "queueId" "I" (.int i0_)) (F_p1_brokerName : Fld Z h0 p1 "com/example/sequeue/sequeue/route/MessageQueue" "brokerName" "Ljava/lang/String;" (.ref s1_)) (F_p1_queueId : Fld Z h0 p1 "com/example/sequeue/sequeue/route/MessageQueue" "queueId" "I" (.int i1_)) (ne_s0__s1_ : s0_ ≠ s1_) (E_s0_ : Exa Z h0 s0_ "java/lang/String") (E_s1_ : Exa Z h0 s1_ "java/lang/String") (S_COMPACT_STRINGS : Sta Z h0 "java/lang/String" "COMPACT_STRINGS" "Z" (.int cs_)) (hcs : ¬ (cs_ = (0 : Int32))) (F_s0__value : Fld Z h0 s0_ "java/lang/String" "value" "[B" (.ref v0_)) (F_s0__coder : Fld Z h0 s0_ "java/lang/String" "coder" "B" (.int (0 : Int32))) (F_s1__value : Fld Z h0 s1_ "java/lang/String" "value" "[B" (.ref v1_)) (F_s1__coder : Fld Z h0 s1_ "java/lang/String" "coder" "B" (.int (0 : Int32))) (A_v0_ : own_A Z h0 v0_ .byte 0 (fun i => .int (x_ i))) (A_v1_ : own_A Z h0 v1_ .byte 0 (fun i => .int (y_ i))) :
    MetFree l (⟨"com/example/sequeue/sequeue/route/MessageQueue", "equals", "(Ljava/lang/Object;)Z"⟩ : MethodName) (head1 (Jvm.Cond.code (⟨"com/example/sequeue/sequeue/route/MessageQueue", "equals", "(Ljava/lang/Object;)Z"⟩ : MethodName) prog_36_method_5_code 3 (some .boolean) :: ws) ({ frames := 2, cells := 0, slots := 0, locals := 28 } : Room)) (fun a U => a = #[(.ref p0), (.ref p1)] ∧ Z.Warmed39 U.vm ∧ U.heap = h0) (fun _ _ _ _ _ => True) (fun _ U o U' => ∃ v L, o = .returned v ∧ Q_12e0 Z p0 p1 s0_ i0_ s1_ i1_ cs_ v0_ v1_ x_ y_ h0 n0 v U'.heap L ∧ FrameEnd U o U' L ({ frames := 2, cells := 0, slots := 0, locals := 28 } : Room).cells ({ frames := 2, cells := 0, slots := 0, locals := 28 } : Room).slots) := by
  refine MetFree.of_bodySF (plainFor_of_name pn_12) hisR ?_
  intro p e s m args below meth c s₁ Bd hml0 hP hK
  obtain ⟨rfl, hZ, hh⟩ := hP
  have hx := Bd.exec
  have hby := Bd.bytes
  have hml : c.maxLocals = 3 := hml0
  have hown : s.vm.findClass "com/example/sequeue/sequeue/route/MessageQueue" = some m.cls := findClass_of_methodNamed Bd.named
  have hnm := (name_of_methodNamed Bd.named Bd.method).1
  have X0 : Stand p l e ({ frames := 2, cells := 0, slots := 0, locals := 28 } : Room) s m #[(.ref p0), (.ref p1)] below meth c s₁ [] 0 0 := Stand.of_body Bd
  have e0 : s₁.heap = h0 := by rw [← hh, Bd.state]; rfl
  have N0 := Fr.nil n0
  have K0 : Keep h0 h0 [] := Keep.refl h0 _
  have pre0 : ∀ t, Steps p.tables e below (s₁.setTop (mkF m 0 #[.val (.ref p0), .val (.ref p1), .unset] [])) t → Steps p.tables e below (s₁.setTop (entryFrame m #[(.ref p0), (.ref p1)] 3)) t := fun t k => castTop (ef_12e0 m p0 p1) k
  have pre1 : ∀ t, Steps p.tables e below (s₁.setTop (mkF m 1 #[.val (.ref p0), .val (.ref p1), .unset] [(.ref p1)])) t → Steps p.tables e below (s₁.setTop (entryFrame m #[(.ref p0), (.ref p1)] 3)) t := by
    intro t k
    refine pre0 t ?_
    show Steps p.tables e below (s₁.setTop (mkF m 0 #[.val (.ref p0), .val (.ref p1), .unset] [])) _
    refine XS.aloadN X0.here hx rfl (hb hby d12_0) rfl rfl ?_
    exact k
  obtain ⟨T2, X2, e2, st2⟩ := instY X0 hx hZ hown (hw _ (List.mem_of_getElem? (i := 66) rfl)) e0 (Ins.self E_p1) (g := (mkF m 1 #[.val (.ref p0), .val (.ref p1), .unset] [(.ref p1)])) rfl rfl (hb hby d12_1)
  have pre3 : ∀ t, Steps p.tables e below (T2.setTop (mkF m 10 #[.val (.ref p0), .val (.ref p1), .unset] [(.ref p1)])) t → Steps p.tables e below (s₁.setTop (entryFrame m #[(.ref p0), (.ref p1)] 3)) t := by
    intro t k
    refine pre1 t ?_
    show Steps p.tables e below (s₁.setTop (mkF m 1 #[.val (.ref p0), .val (.ref p1), .unset] [(.ref p1)])) _
    refine st2 _ ?_
    show Steps p.tables e below (T2.setTop (mkF m 4 #[.val (.ref p0), .val (.ref p1), .unset] [(.int (1 : Int32))])) _
    refine XS.ifYes X2.here hx rfl (pc0 := 4) (pc' := 9) rfl (hb hby d12_4) rfl ((if0 _ _).trans (feq (by decide : ¬ ((1 : Int32) = (0 : Int32)))).2) (by decide) (by decide) ?_
    show Steps p.tables e below (T2.setTop (mkF m 9 #[.val (.ref p0), .val (.ref p1), .unset] [])) _
    refine XS.aloadN X2.here hx rfl (hb hby d12_9) rfl rfl ?_
    exact k
  obtain ⟨T4, X4, e4, st4⟩ := castY X2 hx hZ hown (hw _ (List.mem_of_getElem? (i := 66) rfl)) e2 (Ins.self E_p1) (g := (mkF m 10 #[.val (.ref p0), .val (.ref p1), .unset] [(.ref p1)])) rfl rfl (hb hby d12_10)
  have pre5 : ∀ t, Steps p.tables e below (T4.setTop (mkF m 15 #[.val (.ref p0), .val (.ref p1), .val (.ref p1)] [(.ref p0)])) t → Steps p.tables e below (s₁.setTop (entryFrame m #[(.ref p0), (.ref p1)] 3)) t := by
    intro t k
    refine pre3 t ?_
    show Steps p.tables e below (T2.setTop (mkF m 10 #[.val (.ref p0), .val (.ref p1), .unset] [(.ref p1)])) _
    refine st4 _ ?_
    show Steps p.tables e below (T4.setTop (mkF m 13 #[.val (.ref p0), .val (.ref p1), .unset] [(.ref p1)])) _
    refine XS.astoreN X4.here hx rfl (hb hby d12_13) rfl rfl (l' := #[.val (.ref p0), .val (.ref p1), .val (.ref p1)]) rfl ?_
    show Steps p.tables e below (T4.setTop (mkF m 14 #[.val (.ref p0), .val (.ref p1), .val (.ref p1)] [])) _
    refine XS.aloadN X4.here hx rfl (hb hby d12_14) rfl rfl ?_
    exact k
  obtain ⟨T6, X6, e6, st6⟩ := getF X4 hx hZ hown (host := "") (Or.inl (hw _ (List.mem_of_getElem? (i := 54) rfl))) Via.refl e4 F_p0_brokerName (g := (mkF m 15 #[.val (.ref p0), .val (.ref p1), .val (.ref p1)] [(.ref p0)])) rfl rfl (hb hby d12_15)
  have pre7 : ∀ t, Steps p.tables e below (T6.setTop (mkF m 19 #[.val (.ref p0), .val (.ref p1), .val (.ref p1)] [(.ref p1), (.ref s0_)])) t → Steps p.tables e below (s₁.setTop (entryFrame m #[(.ref p0), (.ref p1)] 3)) t := by
    intro t k
    refine pre5 t ?_
    show Steps p.tables e below (T4.setTop (mkF m 15 #[.val (.ref p0), .val (.ref p1), .val (.ref p1)] [(.ref p0)])) _
    refine st6 _ ?_
    show Steps p.tables e below (T6.setTop (mkF m 18 #[.val (.ref p0), .val (.ref p1), .val (.ref p1)] [(.ref s0_)])) _
    refine XS.aloadN X6.here hx rfl (hb hby d12_18) rfl rfl ?_
    exact k
  obtain ⟨T8, X8, e8, st8⟩ := getF X6 hx hZ hown (host := "") (Or.inl (hw _ (List.mem_of_getElem? (i := 54) rfl))) Via.refl e6 F_p1_brokerName (g := (mkF m 19 #[.val (.ref p0), .val (.ref p1), .val (.ref p1)] [(.ref p1), (.ref s0_)])) rfl rfl (hb hby d12_19)
  have pre10 : ∀ t, Steps p.tables e below (T8.setTop (mkF m 22 #[.val (.ref p0), .val (.ref p1), .val (.ref p1)] [(.ref s1_), (.ref s0_)])) t → Steps p.tables e below (s₁.setTop (entryFrame m #[(.ref p0), (.ref p1)] 3)) t := by
    intro t k
    refine pre7 t ?_
    show Steps p.tables e below (T6.setTop (mkF m 19 #[.val (.ref p0), .val (.ref p1), .val (.ref p1)] [(.ref p1), (.ref s0_)])) _
    refine st8 _ ?_
    exact k
  obtain ⟨cq9, kq9, q9a, q9b, q9c⟩ := isOf hZ e8 E_s0_
  obtain ⟨_, _, ⟨T9, L9, k9, n9⟩, -, X9, ⟨Lc9, hQ9, l9, y9, z9⟩, st9⟩ := X8.virtualBack hx (y := (⟨"java/lang/String", "equals", "(Ljava/lang/Object;)Z"⟩ : MethodName)) (z := (⟨"java/lang/String", "equals", "(Ljava/lang/Object;)Z"⟩ : MethodName)) hown (mvT hZ (hw _ (List.mem_of_getElem? (i := 68) rfl))) (mvT hZ (hw _ (List.mem_of_getElem? (i := 69) rfl))) (notFace_of_selects (args := #[]) (mvT hZ (hw _ (List.mem_of_getElem? (i := 71) rfl)))) (mvT hZ (hw _ (List.mem_of_getElem? (i := 71) rfl))) (mvT hZ (hw _ (List.mem_of_getElem? (i := 70) rfl))) (by decide) (backOf (W := 0) (rm_13e0 l Z a0 hw [] s0_ s1_ cs_ v0_ v1_ x_ y_ h0 n0 Z0 ne_s0__s1_ E_s1_ S_COMPACT_STRINGS hcs F_s0__value F_s0__coder F_s1__value F_s1__coder A_v0_ A_v1_) hZ (hw _ (List.mem_of_getElem? (i := 72) rfl)) (hw _ (List.mem_of_getElem? (i := 12) rfl)) (by decide) (by decide)) q9a q9c (g := (mkF m 22 #[.val (.ref p0), .val (.ref p1), .val (.ref p1)] [(.ref s1_), (.ref s0_)])) rfl (by rw [hml]; rfl) (Steps.refl _) (argsL := [(.ref s1_)]) (rest := []) (lenOf pd_7 rfl) rfl (by show 2 * 0 + _ ≤ _; exact Nat.le_of_eq rfl) (hb hby d12_22) (fun _ _ => ⟨rfl, e8, (by decide : 0 + 0 ≤ _), (by decide : 0 + 0 ≤ _)⟩)
  dsimp only [Pt.U, Pt.locs, Pt.cells, Pt.slots] at X9 l9 y9 z9 st9 hQ9
  rw [l9, y9, z9] at X9
  obtain ⟨rfl, N9q, e9⟩ := hQ9
  have N9 := Fr.app N0 N9q
  have pre11 : ∀ t, Steps p.tables e below (T9.setTop (mkF m 25 #[.val (.ref p0), .val (.ref p1), .val (.ref p1)] [(.int (f_13e0 cs_ x_ y_))])) t → Steps p.tables e below (s₁.setTop (entryFrame m #[(.ref p0), (.ref p1)] 3)) t := by
    intro t k
    refine pre10 t ?_
    show Steps p.tables e below (T8.setTop (mkF m 22 #[.val (.ref p0), .val (.ref p1), .val (.ref p1)] [(.ref s1_), (.ref s0_)])) _
    refine st9.trans ?_
    exact k
  by_cases hc25 : (f_13e0 cs_ x_ y_) = (0 : Int32)
  · obtain ⟨fs, hr, hrun, hended, hW, hsame⟩ := X9.leave (v := some (.int (0 : Int32))) (fun h => by rw [Bd.returns] at h; cases h) (BodyLoose.notSynchronized Bd)
    refine ⟨_, _, pre11 _ ?_, hrun, hended, _, _, rfl, ?_, ⟨_, rfl⟩, hW, hsame.mono (by decide) (by decide)⟩
    · show Steps p.tables e below (T9.setTop (mkF m 25 #[.val (.ref p0), .val (.ref p1), .val (.ref p1)] [(.int (f_13e0 cs_ x_ y_))])) _
      refine XS.ifYes X9.here hx rfl (pc0 := 25) (pc' := 43) rfl (hb hby d12_25) rfl ((if0 _ _).trans (teq hc25).1) (by decide) (by decide) ?_
      show Steps p.tables e below (T9.setTop (mkF m 43 #[.val (.ref p0), .val (.ref p1), .val (.ref p1)] [])) _
      refine XS.iconst X9.here hx rfl (hb hby d12_43) ?_
      show Steps p.tables e below (T9.setTop (mkF m 44 #[.val (.ref p0), .val (.ref p1), .val (.ref p1)] [(.int (0 : Int32))])) _
      exact retN X9 hx (t := .boolean) Bd.returns (by simp) (hb hby d12_44) hr
    · show Q_12e0 Z p0 p1 s0_ i0_ s1_ i1_ cs_ v0_ v1_ x_ y_ h0 n0 _ T9.heap _
      rw [e9]
      exact ⟨congrArg (fun z => some (Value.int z)) (by exact (if_pos hc25).symm : (0 : Int32) = f_12e0 i0_ i1_ cs_ x_ y_), N9, rfl⟩
  · have pre12 : ∀ t, Steps p.tables e below (T9.setTop (mkF m 29 #[.val (.ref p0), .val (.ref p1), .val (.ref p1)] [(.ref p0)])) t → Steps p.tables e below (s₁.setTop (entryFrame m #[(.ref p0), (.ref p1)] 3)) t := by
      intro t k
      refine pre11 t ?_
      show Steps p.tables e below (T9.setTop (mkF m 25 #[.val (.ref p0), .val (.ref p1), .val (.ref p1)] [(.int (f_13e0 cs_ x_ y_))])) _
      refine XS.ifNo X9.here hx rfl (hb hby d12_25) rfl ((if0 _ _).trans (feq hc25).1) ?_
      show Steps p.tables e below (T9.setTop (mkF m 28 #[.val (.ref p0), .val (.ref p1), .val (.ref p1)] [])) _
      refine XS.aloadN X9.here hx rfl (hb hby d12_28) rfl rfl ?_
      exact k
    obtain ⟨T13, X13, e13, st13⟩ := getF X9 hx hZ hown (host := "") (Or.inl (hw _ (List.mem_of_getElem? (i := 56) rfl))) Via.refl e9 F_p0_queueId (g := (mkF m 29 #[.val (.ref p0), .val (.ref p1), .val (.ref p1)] [(.ref p0)])) rfl rfl (hb hby d12_29)
    have pre14 : ∀ t, Steps p.tables e below (T13.setTop (mkF m 33 #[.val (.ref p0), .val (.ref p1), .val (.ref p1)] [(.ref p1), (.int i0_)])) t → Steps p.tables e below (s₁.setTop (entryFrame m #[(.ref p0), (.ref p1)] 3)) t := by
      intro t k
      refine pre12 t ?_
      show Steps p.tables e below (T9.setTop (mkF m 29 #[.val (.ref p0), .val (.ref p1), .val (.ref p1)] [(.ref p0)])) _
      refine st13 _ ?_
      show Steps p.tables e below (T13.setTop (mkF m 32 #[.val (.ref p0), .val (.ref p1), .val (.ref p1)] [(.int i0_)])) _
      refine XS.aloadN X13.here hx rfl (hb hby d12_32) rfl rfl ?_
      exact k
    obtain ⟨T15, X15, e15, st15⟩ := getF X13 hx hZ hown (host := "") (Or.inl (hw _ (List.mem_of_getElem? (i := 56) rfl))) Via.refl e13 F_p1_queueId (g := (mkF m 33 #[.val (.ref p0), .val (.ref p1), .val (.ref p1)] [(.ref p1), (.int i0_)])) rfl rfl (hb hby d12_33)
    have pre16 : ∀ t, Steps p.tables e below (T15.setTop (mkF m 36 #[.val (.ref p0), .val (.ref p1), .val (.ref p1)] [(.int i1_), (.int i0_)])) t → Steps p.tables e below (s₁.setTop (entryFrame m #[(.ref p0), (.ref p1)] 3)) t := by
      intro t k
      refine pre14 t ?_
      show Steps p.tables e below (T13.setTop (mkF m 33 #[.val (.ref p0), .val (.ref p1), .val (.ref p1)] [(.ref p1), (.int i0_)])) _
      refine st15 _ ?_
      exact k
    obtain ⟨ms0_44, hms0_44⟩ : ∃ z : Int32, z = (if i0_ = i1_ then (1 : Int32) else (0 : Int32)) := ⟨_, rfl⟩
    have pre17 : ∀ t, Steps p.tables e below (T15.setTop (mkF m 44 #[.val (.ref p0), .val (.ref p1), .val (.ref p1)] [(.int ms0_44)])) t → Steps p.tables e below (s₁.setTop (entryFrame m #[(.ref p0), (.ref p1)] 3)) t := by
      intro t k
      refine pre16 t ?_
      by_cases hc36 : i0_ = i1_
      · show Steps p.tables e below (T15.setTop (mkF m 36 #[.val (.ref p0), .val (.ref p1), .val (.ref p1)] [(.int i1_), (.int i0_)])) _
        refine XS.icmpNo X15.here hx rfl (hb hby d12_36) rfl (teq hc36).2 ?_
        show Steps p.tables e below (T15.setTop (mkF m 39 #[.val (.ref p0), .val (.ref p1), .val (.ref p1)] [])) _
        refine XS.iconst X15.here hx rfl (hb hby d12_39) ?_
        show Steps p.tables e below (T15.setTop (mkF m 40 #[.val (.ref p0), .val (.ref p1), .val (.ref p1)] [(.int (1 : Int32))])) _
        refine XS.goto X15.here hx rfl (pc0 := 40) (pc' := 44) rfl (hb hby d12_40) (by decide) (by decide) ?_
        have qms0_44 : ms0_44 = (1 : Int32) := by rw [hms0_44, if_pos hc36]
        rw [qms0_44] at k
        exact k
      · show Steps p.tables e below (T15.setTop (mkF m 36 #[.val (.ref p0), .val (.ref p1), .val (.ref p1)] [(.int i1_), (.int i0_)])) _
        refine XS.icmpYes X15.here hx rfl (pc0 := 36) (pc' := 43) rfl (hb hby d12_36) rfl (feq hc36).2 (by decide) (by decide) ?_
        show Steps p.tables e below (T15.setTop (mkF m 43 #[.val (.ref p0), .val (.ref p1), .val (.ref p1)] [])) _
        refine XS.iconst X15.here hx rfl (hb hby d12_43) ?_
        have qms0_44 : ms0_44 = (0 : Int32) := by rw [hms0_44, if_neg hc36]
        rw [qms0_44] at k
        exact k
    have hnar : nar .boolean ms0_44 = ms0_44 := by rw [hms0_44]; (repeat' split) <;> rfl
    obtain ⟨fs, hr, hrun, hended, hW, hsame⟩ := X15.leave (v := some (.int ms0_44)) (fun h => by rw [Bd.returns] at h; cases h) (BodyLoose.notSynchronized Bd)
    refine ⟨_, _, pre17 _ ?_, hrun, hended, _, _, rfl, ?_, ⟨_, rfl⟩, hW, hsame.mono (by decide) (by decide)⟩
    · show Steps p.tables e below (T15.setTop (mkF m 44 #[.val (.ref p0), .val (.ref p1), .val (.ref p1)] [(.int ms0_44)])) _
      exact retN X15 hx (t := .boolean) Bd.returns (by simp) (hb hby d12_44) (by rw [hnar]; exact hr)
    · show Q_12e0 Z p0 p1 s0_ i0_ s1_ i1_ cs_ v0_ v1_ x_ y_ h0 n0 _ T15.heap _
      rw [e15]
      exact ⟨congrArg (fun z => some (Value.int z)) (by subst hms0_44; exact (if_neg hc25).symm : ms0_44 = f_12e0 i0_ i1_ cs_ x_ y_), N9, rfl⟩
theorem d14_15 : decode jdk_43_method_13_code 15 = .ok (.aload_n 0, 1) := by decide +kernel
theorem d14_16 : decode jdk_43_method_13_code 16 = .ok (.iload_n 2, 1) := by decide +kernel
theorem d14_17 : decode jdk_43_method_13_code 17 = .ok (.baload, 1) := by decide +kernel
theorem d14_18 : decode jdk_43_method_13_code 18 = .ok (.aload_n 1, 1) := by decide +kernel
theorem d14_19 : decode jdk_43_method_13_code 19 = .ok (.iload_n 2, 1) := by decide +kernel
theorem d14_20 : decode jdk_43_method_13_code 20 = .ok (.baload, 1) := by decide +kernel
theorem d14_21 : decode jdk_43_method_13_code 21 = .ok (.if_icmp .eq 5, 3) := by decide +kernel
theorem d14_24 : decode jdk_43_method_13_code 24 = .ok (.iconst 0, 1) := by decide +kernel
theorem d14_25 : decode jdk_43_method_13_code 25 = .ok (.ireturn, 1) := by decide +kernel
theorem d14_26 : decode jdk_43_method_13_code 26 = .ok (.iinc 2 1, 3) := by decide +kernel
theorem d14_29 : decode jdk_43_method_13_code 29 = .ok (.goto (-20), 3) := by decide +kernel
theorem ef_14e1 (m : MethodId) (p0 : Addr) (p1 : Addr) : entryFrame m #[(.ref p0), (.ref p1)] 3 = mkF m 0 #[.val (.ref p0), .val (.ref p1), .unset] [] := by first | (simp [entryFrame, mkF, argsToLocals, Value.category]; done) | rfl
def f_14e1 (x_ : Nat → Int32) (y_ : Nat → Int32) : Int32 := (if (x_ 0) = (y_ 0) then (1 : Int32) else (0 : Int32))
def Q_14e1 (Z : State) (p0 : Addr) (p1 : Addr) (x_ : Nat → Int32) (y_ : Nat → Int32) (h0 : Heap) (n0 : Nat) (v : Option Value) (h : Heap) (L : List Loc) : Prop := v = some (.int (f_14e1 x_ y_)) ∧ Fr n0 L ∧ h = h0
set_option maxRecDepth 65536 in
set_option maxHeartbeats 40000000 in
theorem rm_14e1 (l : Launch) (Z : State) (a0 : Array Value) (hw : ∀ d ∈ tables_1, d.before a0 Z = true) (ws : List Jvm.Cond) (p0 : Addr) (p1 : Addr) (x_ : Nat → Int32) (y_ : Nat → Int32) (h0 : Heap) (n0 : Nat) (Z0 : n0 ≤ h0.size) (A_p0 : own_A Z h0 p0 .byte 1 (fun i => .int (x_ i))) (A_p1 : own_A Z h0 p1 .byte 1 (fun i => .int (y_ i))) :
    MetFree l (⟨"java/lang/StringLatin1", "equals", "([B[B)Z"⟩ : MethodName) (head1 (Jvm.Cond.code (⟨"java/lang/StringLatin1", "equals", "([B[B)Z"⟩ : MethodName) jdk_43_method_13_code 3 (some .boolean) :: ws) ({ frames := 0, cells := 0, slots := 0, locals := 0 } : Room)) (fun a U => a = #[(.ref p0), (.ref p1)] ∧ Z.Warmed39 U.vm ∧ U.heap = h0) (fun _ _ _ _ _ => True) (fun _ U o U' => ∃ v L, o = .returned v ∧ Q_14e1 Z p0 p1 x_ y_ h0 n0 v U'.heap L ∧ FrameEnd U o U' L ({ frames := 0, cells := 0, slots := 0, locals := 0 } : Room).cells ({ frames := 0, cells := 0, slots := 0, locals := 0 } : Room).slots) := by
  refine MetFree.of_bodySF (plainFor_of_name pn_14) hisR ?_
  intro p e s m args below meth c s₁ Bd hml0 hP hK
  obtain ⟨rfl, hZ, hh⟩ := hP
  have hx := Bd.exec
  have hby := Bd.bytes
  have hml : c.maxLocals = 3 := hml0
  have hown : s.vm.findClass "java/lang/StringLatin1" = some m.cls := findClass_of_methodNamed Bd.named
  have hnm := (name_of_methodNamed Bd.named Bd.method).1
  have X0 : Stand p l e ({ frames := 0, cells := 0, slots := 0, locals := 0 } : Room) s m #[(.ref p0), (.ref p1)] below meth c s₁ [] 0 0 := Stand.of_body Bd
  have e0 : s₁.heap = h0 := by rw [← hh, Bd.state]; rfl
  have N0 := Fr.nil n0
  have K0 : Keep h0 h0 [] := Keep.refl h0 _
  have pre0 : ∀ t, Steps p.tables e below (s₁.setTop (mkF m 0 #[.val (.ref p0), .val (.ref p1), .unset] [])) t → Steps p.tables e below (s₁.setTop (entryFrame m #[(.ref p0), (.ref p1)] 3)) t := fun t k => castTop (ef_14e1 m p0 p1) k
  have pre1 : ∀ t, Steps p.tables e below (s₁.setTop (mkF m 21 #[.val (.ref p0), .val (.ref p1), .val (.int (0 : Int32))] [(.int (y_ 0)), (.int (x_ 0))])) t → Steps p.tables e below (s₁.setTop (entryFrame m #[(.ref p0), (.ref p1)] 3)) t := by
    intro t k
    refine pre0 t ?_
    show Steps p.tables e below (s₁.setTop (mkF m 0 #[.val (.ref p0), .val (.ref p1), .unset] [])) _
    refine XS.aloadN X0.here hx rfl (hb hby d14_0) rfl rfl ?_
    show Steps p.tables e below (s₁.setTop (mkF m 1 #[.val (.ref p0), .val (.ref p1), .unset] [(.ref p0)])) _
    refine own_len X0 hx hZ e0 A_p0 (z := (1 : Int32)) rfl (g := (mkF m 1 #[.val (.ref p0), .val (.ref p1), .unset] [(.ref p0)])) rfl rfl (hb hby d14_1) ?_
    show Steps p.tables e below (s₁.setTop (mkF m 2 #[.val (.ref p0), .val (.ref p1), .unset] [(.int (1 : Int32))])) _
    refine XS.aloadN X0.here hx rfl (hb hby d14_2) rfl rfl ?_
    show Steps p.tables e below (s₁.setTop (mkF m 3 #[.val (.ref p0), .val (.ref p1), .unset] [(.ref p1), (.int (1 : Int32))])) _
    refine own_len X0 hx hZ e0 A_p1 (z := (1 : Int32)) rfl (g := (mkF m 3 #[.val (.ref p0), .val (.ref p1), .unset] [(.ref p1), (.int (1 : Int32))])) rfl rfl (hb hby d14_3) ?_
    show Steps p.tables e below (s₁.setTop (mkF m 4 #[.val (.ref p0), .val (.ref p1), .unset] [(.int (1 : Int32)), (.int (1 : Int32))])) _
    refine XS.icmpNo X0.here hx rfl (hb hby d14_4) rfl (teq (by decide : (1 : Int32) = (1 : Int32))).2 ?_
    show Steps p.tables e below (s₁.setTop (mkF m 7 #[.val (.ref p0), .val (.ref p1), .unset] [])) _
    refine XS.iconst X0.here hx rfl (hb hby d14_7) ?_
    show Steps p.tables e below (s₁.setTop (mkF m 8 #[.val (.ref p0), .val (.ref p1), .unset] [(.int (0 : Int32))])) _
    refine XS.istoreN X0.here hx rfl (hb hby d14_8) rfl (l' := #[.val (.ref p0), .val (.ref p1), .val (.int (0 : Int32))]) rfl ?_
    show Steps p.tables e below (s₁.setTop (mkF m 9 #[.val (.ref p0), .val (.ref p1), .val (.int (0 : Int32))] [])) _
    refine XS.iloadN X0.here hx rfl (hb hby d14_9) rfl  ?_
    show Steps p.tables e below (s₁.setTop (mkF m 10 #[.val (.ref p0), .val (.ref p1), .val (.int (0 : Int32))] [(.int (0 : Int32))])) _
    refine XS.aloadN X0.here hx rfl (hb hby d14_10) rfl rfl ?_
    show Steps p.tables e below (s₁.setTop (mkF m 11 #[.val (.ref p0), .val (.ref p1), .val (.int (0 : Int32))] [(.ref p0), (.int (0 : Int32))])) _
    refine own_len X0 hx hZ e0 A_p0 (z := (1 : Int32)) rfl (g := (mkF m 11 #[.val (.ref p0), .val (.ref p1), .val (.int (0 : Int32))] [(.ref p0), (.int (0 : Int32))])) rfl rfl (hb hby d14_11) ?_
    show Steps p.tables e below (s₁.setTop (mkF m 12 #[.val (.ref p0), .val (.ref p1), .val (.int (0 : Int32))] [(.int (1 : Int32)), (.int (0 : Int32))])) _
    refine XS.icmpNo X0.here hx rfl (hb hby d14_12) rfl (tlt (by decide : (0 : Int32) < (1 : Int32))).2.1 ?_
    show Steps p.tables e below (s₁.setTop (mkF m 15 #[.val (.ref p0), .val (.ref p1), .val (.int (0 : Int32))] [])) _
    refine XS.aloadN X0.here hx rfl (hb hby d14_15) rfl rfl ?_
    show Steps p.tables e below (s₁.setTop (mkF m 16 #[.val (.ref p0), .val (.ref p1), .val (.int (0 : Int32))] [(.ref p0)])) _
    refine XS.iloadN X0.here hx rfl (hb hby d14_16) rfl  ?_
    show Steps p.tables e below (s₁.setTop (mkF m 17 #[.val (.ref p0), .val (.ref p1), .val (.int (0 : Int32))] [(.int (0 : Int32)), (.ref p0)])) _
    refine own_ldB X0 hx hZ e0 A_p0 (j := (0 : Int32)) (k := 0) (by decide) (by decide) (by decide) (g := (mkF m 17 #[.val (.ref p0), .val (.ref p1), .val (.int (0 : Int32))] [(.int (0 : Int32)), (.ref p0)])) rfl rfl (hb hby d14_17) ?_
    show Steps p.tables e below (s₁.setTop (mkF m 18 #[.val (.ref p0), .val (.ref p1), .val (.int (0 : Int32))] [(.int (x_ 0))])) _
    refine XS.aloadN X0.here hx rfl (hb hby d14_18) rfl rfl ?_
    show Steps p.tables e below (s₁.setTop (mkF m 19 #[.val (.ref p0), .val (.ref p1), .val (.int (0 : Int32))] [(.ref p1), (.int (x_ 0))])) _
    refine XS.iloadN X0.here hx rfl (hb hby d14_19) rfl  ?_
    show Steps p.tables e below (s₁.setTop (mkF m 20 #[.val (.ref p0), .val (.ref p1), .val (.int (0 : Int32))] [(.int (0 : Int32)), (.ref p1), (.int (x_ 0))])) _
    refine own_ldB X0 hx hZ e0 A_p1 (j := (0 : Int32)) (k := 0) (by decide) (by decide) (by decide) (g := (mkF m 20 #[.val (.ref p0), .val (.ref p1), .val (.int (0 : Int32))] [(.int (0 : Int32)), (.ref p1), (.int (x_ 0))])) rfl rfl (hb hby d14_20) ?_
    exact k
  by_cases hc21 : (x_ 0) = (y_ 0)
  · obtain ⟨fs, hr, hrun, hended, hW, hsame⟩ := X0.leave (v := some (.int (1 : Int32))) (fun h => by rw [Bd.returns] at h; cases h) (BodyLoose.notSynchronized Bd)
    refine ⟨_, _, pre1 _ ?_, hrun, hended, _, _, rfl, ?_, ⟨_, rfl⟩, hW, hsame.mono (by decide) (by decide)⟩
    · show Steps p.tables e below (s₁.setTop (mkF m 21 #[.val (.ref p0), .val (.ref p1), .val (.int (0 : Int32))] [(.int (y_ 0)), (.int (x_ 0))])) _
      refine XS.icmpYes X0.here hx rfl (pc0 := 21) (pc' := 26) rfl (hb hby d14_21) rfl (teq hc21).1 (by decide) (by decide) ?_
      show Steps p.tables e below (s₁.setTop (mkF m 26 #[.val (.ref p0), .val (.ref p1), .val (.int (0 : Int32))] [])) _
      refine XS.iinc X0.here hx rfl (hb hby d14_26) rfl (l' := #[.val (.ref p0), .val (.ref p1), .val (.int (1 : Int32))]) rfl ?_
      show Steps p.tables e below (s₁.setTop (mkF m 29 #[.val (.ref p0), .val (.ref p1), .val (.int (1 : Int32))] [])) _
      refine XS.goto X0.here hx rfl (pc0 := 29) (pc' := 9) rfl (hb hby d14_29) (by decide) (by decide) ?_
      show Steps p.tables e below (s₁.setTop (mkF m 9 #[.val (.ref p0), .val (.ref p1), .val (.int (1 : Int32))] [])) _
      refine XS.iloadN X0.here hx rfl (hb hby d14_9) rfl  ?_
      show Steps p.tables e below (s₁.setTop (mkF m 10 #[.val (.ref p0), .val (.ref p1), .val (.int (1 : Int32))] [(.int (1 : Int32))])) _
      refine XS.aloadN X0.here hx rfl (hb hby d14_10) rfl rfl ?_
      show Steps p.tables e below (s₁.setTop (mkF m 11 #[.val (.ref p0), .val (.ref p1), .val (.int (1 : Int32))] [(.ref p0), (.int (1 : Int32))])) _
      refine own_len X0 hx hZ e0 A_p0 (z := (1 : Int32)) rfl (g := (mkF m 11 #[.val (.ref p0), .val (.ref p1), .val (.int (1 : Int32))] [(.ref p0), (.int (1 : Int32))])) rfl rfl (hb hby d14_11) ?_
      show Steps p.tables e below (s₁.setTop (mkF m 12 #[.val (.ref p0), .val (.ref p1), .val (.int (1 : Int32))] [(.int (1 : Int32)), (.int (1 : Int32))])) _
      refine XS.icmpYes X0.here hx rfl (pc0 := 12) (pc' := 32) rfl (hb hby d14_12) rfl (flt (by decide : ¬ ((1 : Int32) < (1 : Int32)))).2.1 (by decide) (by decide) ?_
      show Steps p.tables e below (s₁.setTop (mkF m 32 #[.val (.ref p0), .val (.ref p1), .val (.int (1 : Int32))] [])) _
      refine XS.iconst X0.here hx rfl (hb hby d14_32) ?_
      show Steps p.tables e below (s₁.setTop (mkF m 33 #[.val (.ref p0), .val (.ref p1), .val (.int (1 : Int32))] [(.int (1 : Int32))])) _
      exact retN X0 hx (t := .boolean) Bd.returns (by simp) (hb hby d14_33) hr
    · show Q_14e1 Z p0 p1 x_ y_ h0 n0 _ s₁.heap _
      rw [e0]
      exact ⟨congrArg (fun z => some (Value.int z)) (by exact (if_pos hc21).symm : (1 : Int32) = f_14e1 x_ y_), N0, rfl⟩
  · obtain ⟨fs, hr, hrun, hended, hW, hsame⟩ := X0.leave (v := some (.int (0 : Int32))) (fun h => by rw [Bd.returns] at h; cases h) (BodyLoose.notSynchronized Bd)
    refine ⟨_, _, pre1 _ ?_, hrun, hended, _, _, rfl, ?_, ⟨_, rfl⟩, hW, hsame.mono (by decide) (by decide)⟩
    · show Steps p.tables e below (s₁.setTop (mkF m 21 #[.val (.ref p0), .val (.ref p1), .val (.int (0 : Int32))] [(.int (y_ 0)), (.int (x_ 0))])) _
      refine XS.icmpNo X0.here hx rfl (hb hby d14_21) rfl (feq hc21).1 ?_
      show Steps p.tables e below (s₁.setTop (mkF m 24 #[.val (.ref p0), .val (.ref p1), .val (.int (0 : Int32))] [])) _
      refine XS.iconst X0.here hx rfl (hb hby d14_24) ?_
      show Steps p.tables e below (s₁.setTop (mkF m 25 #[.val (.ref p0), .val (.ref p1), .val (.int (0 : Int32))] [(.int (0 : Int32))])) _
      exact retN X0 hx (t := .boolean) Bd.returns (by simp) (hb hby d14_25) hr
    · show Q_14e1 Z p0 p1 x_ y_ h0 n0 _ s₁.heap _
      rw [e0]
      exact ⟨congrArg (fun z => some (Value.int z)) (by exact (if_neg hc21).symm : (0 : Int32) = f_14e1 x_ y_), N0, rfl⟩
theorem ef_13e1 (m : MethodId) (p0 : Addr) (p1 : Addr) : entryFrame m #[(.ref p0), (.ref p1)] 3 = mkF m 0 #[.val (.ref p0), .val (.ref p1), .unset] [] := by first | (simp [entryFrame, mkF, argsToLocals, Value.category]; done) | rfl
def f_13e1 (cs_ : Int32) (x_ : Nat → Int32) (y_ : Nat → Int32) : Int32 := let ms0_55 : Int32 := (if (f_14e1 x_ y_) = (0 : Int32) then (0 : Int32) else (1 : Int32)); ms0_55
def Q_13e1 (Z : State) (p0 : Addr) (p1 : Addr) (cs_ : Int32) (v0_ : Addr) (v1_ : Addr) (x_ : Nat → Int32) (y_ : Nat → Int32) (h0 : Heap) (n0 : Nat) (v : Option Value) (h : Heap) (L : List Loc) : Prop := v = some (.int (f_13e1 cs_ x_ y_)) ∧ Fr n0 L ∧ h = h0
set_option maxRecDepth 65536 in
set_option maxHeartbeats 40000000 in
theorem rm_13e1 (l : Launch) (Z : State) (a0 : Array Value) (hw : ∀ d ∈ tables_1, d.before a0 Z = true) (ws : List Jvm.Cond) (p0 : Addr) (p1 : Addr) (cs_ : Int32) (v0_ : Addr) (v1_ : Addr) (x_ : Nat → Int32) (y_ : Nat → Int32) (h0 : Heap) (n0 : Nat) (Z0 : n0 ≤ h0.size) (ne_p0_p1 : p0 ≠ p1) (E_p1 : Exa Z h0 p1 "java/lang/String") (S_COMPACT_STRINGS : Sta Z h0 "java/lang/String" "COMPACT_STRINGS" "Z" (.int cs_)) (hcs : ¬ (cs_ = (0 : Int32))) (F_p0_value : Fld Z h0 p0 "java/lang/String" "value" "[B" (.ref v0_)) (F_p0_coder : Fld Z h0 p0 "java/lang/String" "coder" "B" (.int (0 : Int32))) (F_p1_value : Fld Z h0 p1 "java/lang/String" "value" "[B" (.ref v1_)) (F_p1_coder : Fld Z h0 p1 "java/lang/String" "coder" "B" (.int (0 : Int32))) (A_v0_ : own_A Z h0 v0_ .byte 1 (fun i => .int (x_ i))) (A_v1_ : own_A Z h0 v1_ .byte 1 (fun i => .int (y_ i))) :
    MetFree l (⟨"java/lang/String", "equals", "(Ljava/lang/Object;)Z"⟩ : MethodName) (head1 (Jvm.Cond.code (⟨"java/lang/String", "equals", "(Ljava/lang/Object;)Z"⟩ : MethodName) jdk_42_method_66_code 3 (some .boolean) :: ws) ({ frames := 1, cells := 0, slots := 0, locals := 14 } : Room)) (fun a U => a = #[(.ref p0), (.ref p1)] ∧ Z.Warmed39 U.vm ∧ U.heap = h0) (fun _ _ _ _ _ => True) (fun _ U o U' => ∃ v L, o = .returned v ∧ Q_13e1 Z p0 p1 cs_ v0_ v1_ x_ y_ h0 n0 v U'.heap L ∧ FrameEnd U o U' L ({ frames := 1, cells := 0, slots := 0, locals := 14 } : Room).cells ({ frames := 1, cells := 0, slots := 0, locals := 14 } : Room).slots) := by
  refine MetFree.of_bodySF (plainFor_of_name pn_13) hisR ?_
  intro p e s m args below meth c s₁ Bd hml0 hP hK
  obtain ⟨rfl, hZ, hh⟩ := hP
  have hx := Bd.exec
  have hby := Bd.bytes
  have hml : c.maxLocals = 3 := hml0
  have hown : s.vm.findClass "java/lang/String" = some m.cls := findClass_of_methodNamed Bd.named
  have hnm := (name_of_methodNamed Bd.named Bd.method).1
  have X0 : Stand p l e ({ frames := 1, cells := 0, slots := 0, locals := 14 } : Room) s m #[(.ref p0), (.ref p1)] below meth c s₁ [] 0 0 := Stand.of_body Bd
  have e0 : s₁.heap = h0 := by rw [← hh, Bd.state]; rfl
  have N0 := Fr.nil n0
  have K0 : Keep h0 h0 [] := Keep.refl h0 _
  have pre0 : ∀ t, Steps p.tables e below (s₁.setTop (mkF m 0 #[.val (.ref p0), .val (.ref p1), .unset] [])) t → Steps p.tables e below (s₁.setTop (entryFrame m #[(.ref p0), (.ref p1)] 3)) t := fun t k => castTop (ef_13e1 m p0 p1) k
  have pre1 : ∀ t, Steps p.tables e below (s₁.setTop (mkF m 8 #[.val (.ref p0), .val (.ref p1), .unset] [(.ref p1)])) t → Steps p.tables e below (s₁.setTop (entryFrame m #[(.ref p0), (.ref p1)] 3)) t := by
    intro t k
    refine pre0 t ?_
    show Steps p.tables e below (s₁.setTop (mkF m 0 #[.val (.ref p0), .val (.ref p1), .unset] [])) _
    refine XS.aloadN X0.here hx rfl (hb hby d13_0) rfl rfl ?_
    show Steps p.tables e below (s₁.setTop (mkF m 1 #[.val (.ref p0), .val (.ref p1), .unset] [(.ref p0)])) _
    refine XS.aloadN X0.here hx rfl (hb hby d13_1) rfl rfl ?_
    show Steps p.tables e below (s₁.setTop (mkF m 2 #[.val (.ref p0), .val (.ref p1), .unset] [(.ref p1), (.ref p0)])) _
    refine Jvm.RoadKit.acmp (g := (mkF m 2 #[.val (.ref p0), .val (.ref p1), .unset] [(.ref p1), (.ref p0)])) X0 hx rfl rfl rfl (pc0 := 2) (pc' := 7) (same := false) rfl (hb hby d13_2) rfl (decide_eq_false fun q => (ne_p0_p1 : p0 ≠ p1) (Value.ref.inj q)) (by decide) (by decide) ?_
    show Steps p.tables e below (s₁.setTop (mkF m 7 #[.val (.ref p0), .val (.ref p1), .unset] [])) _
    refine XS.aloadN X0.here hx rfl (hb hby d13_7) rfl rfl ?_
    exact k
  obtain ⟨T2, X2, e2, st2⟩ := instY X0 hx hZ hown (hw _ (List.mem_of_getElem? (i := 73) rfl)) e0 (Ins.self E_p1) (g := (mkF m 8 #[.val (.ref p0), .val (.ref p1), .unset] [(.ref p1)])) rfl rfl (hb hby d13_8)
  have pre3 : ∀ t, Steps p.tables e below (T2.setTop (mkF m 15 #[.val (.ref p0), .val (.ref p1), .unset] [(.ref p1)])) t → Steps p.tables e below (s₁.setTop (entryFrame m #[(.ref p0), (.ref p1)] 3)) t := by
    intro t k
    refine pre1 t ?_
    show Steps p.tables e below (s₁.setTop (mkF m 8 #[.val (.ref p0), .val (.ref p1), .unset] [(.ref p1)])) _
    refine st2 _ ?_
    show Steps p.tables e below (T2.setTop (mkF m 11 #[.val (.ref p0), .val (.ref p1), .unset] [(.int (1 : Int32))])) _
    refine XS.ifNo X2.here hx rfl (hb hby d13_11) rfl ((if0 _ _).trans (feq (by decide : ¬ ((1 : Int32) = (0 : Int32)))).1) ?_
    show Steps p.tables e below (T2.setTop (mkF m 14 #[.val (.ref p0), .val (.ref p1), .unset] [])) _
    refine XS.aloadN X2.here hx rfl (hb hby d13_14) rfl rfl ?_
    exact k
  obtain ⟨T4, X4, e4, st4⟩ := castY X2 hx hZ hown (hw _ (List.mem_of_getElem? (i := 73) rfl)) e2 (Ins.self E_p1) (g := (mkF m 15 #[.val (.ref p0), .val (.ref p1), .unset] [(.ref p1)])) rfl rfl (hb hby d13_15)
  have pre5 : ∀ t, Steps p.tables e below (T4.setTop (mkF m 19 #[.val (.ref p0), .val (.ref p1), .val (.ref p1)] [])) t → Steps p.tables e below (s₁.setTop (entryFrame m #[(.ref p0), (.ref p1)] 3)) t := by
    intro t k
    refine pre3 t ?_
    show Steps p.tables e below (T2.setTop (mkF m 15 #[.val (.ref p0), .val (.ref p1), .unset] [(.ref p1)])) _
    refine st4 _ ?_
    show Steps p.tables e below (T4.setTop (mkF m 18 #[.val (.ref p0), .val (.ref p1), .unset] [(.ref p1)])) _
    refine XS.astoreN X4.here hx rfl (hb hby d13_18) rfl rfl (l' := #[.val (.ref p0), .val (.ref p1), .val (.ref p1)]) rfl ?_
    exact k
  obtain ⟨T6, X6, e6, st6⟩ := getS2 X4 hx hZ hown (host := "") (Or.inl (hw _ (List.mem_of_getElem? (i := 23) rfl))) Via.refl e4 S_COMPACT_STRINGS (g := (mkF m 19 #[.val (.ref p0), .val (.ref p1), .val (.ref p1)] [])) rfl (hb hby d13_19)
  have pre7 : ∀ t, Steps p.tables e below (T6.setTop (mkF m 26 #[.val (.ref p0), .val (.ref p1), .val (.ref p1)] [(.ref p0)])) t → Steps p.tables e below (s₁.setTop (entryFrame m #[(.ref p0), (.ref p1)] 3)) t := by
    intro t k
    refine pre5 t ?_
    show Steps p.tables e below (T4.setTop (mkF m 19 #[.val (.ref p0), .val (.ref p1), .val (.ref p1)] [])) _
    refine st6 _ ?_
    show Steps p.tables e below (T6.setTop (mkF m 22 #[.val (.ref p0), .val (.ref p1), .val (.ref p1)] [(.int cs_)])) _
    refine XS.ifNo X6.here hx rfl (hb hby d13_22) rfl ((if0 _ _).trans (feq (hcs : ¬ (cs_ = (0 : Int32)))).1) ?_
    show Steps p.tables e below (T6.setTop (mkF m 25 #[.val (.ref p0), .val (.ref p1), .val (.ref p1)] [])) _
    refine XS.aloadN X6.here hx rfl (hb hby d13_25) rfl rfl ?_
    exact k
  obtain ⟨T8, X8, e8, st8⟩ := getF X6 hx hZ hown (host := "") (Or.inl (hw _ (List.mem_of_getElem? (i := 35) rfl))) Via.refl e6 F_p0_coder (g := (mkF m 26 #[.val (.ref p0), .val (.ref p1), .val (.ref p1)] [(.ref p0)])) rfl rfl (hb hby d13_26)
  have pre9 : ∀ t, Steps p.tables e below (T8.setTop (mkF m 30 #[.val (.ref p0), .val (.ref p1), .val (.ref p1)] [(.ref p1), (.int (0 : Int32))])) t → Steps p.tables e below (s₁.setTop (entryFrame m #[(.ref p0), (.ref p1)] 3)) t := by
    intro t k
    refine pre7 t ?_
    show Steps p.tables e below (T6.setTop (mkF m 26 #[.val (.ref p0), .val (.ref p1), .val (.ref p1)] [(.ref p0)])) _
    refine st8 _ ?_
    show Steps p.tables e below (T8.setTop (mkF m 29 #[.val (.ref p0), .val (.ref p1), .val (.ref p1)] [(.int (0 : Int32))])) _
    refine XS.aloadN X8.here hx rfl (hb hby d13_29) rfl rfl ?_
    exact k
  obtain ⟨T10, X10, e10, st10⟩ := getF X8 hx hZ hown (host := "") (Or.inl (hw _ (List.mem_of_getElem? (i := 35) rfl))) Via.refl e8 F_p1_coder (g := (mkF m 30 #[.val (.ref p0), .val (.ref p1), .val (.ref p1)] [(.ref p1), (.int (0 : Int32))])) rfl rfl (hb hby d13_30)
  have pre11 : ∀ t, Steps p.tables e below (T10.setTop (mkF m 37 #[.val (.ref p0), .val (.ref p1), .val (.ref p1)] [(.ref p0)])) t → Steps p.tables e below (s₁.setTop (entryFrame m #[(.ref p0), (.ref p1)] 3)) t := by
    intro t k
    refine pre9 t ?_
    show Steps p.tables e below (T8.setTop (mkF m 30 #[.val (.ref p0), .val (.ref p1), .val (.ref p1)] [(.ref p1), (.int (0 : Int32))])) _
    refine st10 _ ?_
    show Steps p.tables e below (T10.setTop (mkF m 33 #[.val (.ref p0), .val (.ref p1), .val (.ref p1)] [(.int (0 : Int32)), (.int (0 : Int32))])) _
    refine XS.icmpNo X10.here hx rfl (hb hby d13_33) rfl (teq (by decide : (0 : Int32) = (0 : Int32))).2 ?_
    show Steps p.tables e below (T10.setTop (mkF m 36 #[.val (.ref p0), .val (.ref p1), .val (.ref p1)] [])) _
    refine XS.aloadN X10.here hx rfl (hb hby d13_36) rfl rfl ?_
    exact k
  obtain ⟨T12, X12, e12, st12⟩ := getF X10 hx hZ hown (host := "") (Or.inl (hw _ (List.mem_of_getElem? (i := 37) rfl))) Via.refl e10 F_p0_value (g := (mkF m 37 #[.val (.ref p0), .val (.ref p1), .val (.ref p1)] [(.ref p0)])) rfl rfl (hb hby d13_37)
  have pre13 : ∀ t, Steps p.tables e below (T12.setTop (mkF m 41 #[.val (.ref p0), .val (.ref p1), .val (.ref p1)] [(.ref p1), (.ref v0_)])) t → Steps p.tables e below (s₁.setTop (entryFrame m #[(.ref p0), (.ref p1)] 3)) t := by
    intro t k
    refine pre11 t ?_
    show Steps p.tables e below (T10.setTop (mkF m 37 #[.val (.ref p0), .val (.ref p1), .val (.ref p1)] [(.ref p0)])) _
    refine st12 _ ?_
    show Steps p.tables e below (T12.setTop (mkF m 40 #[.val (.ref p0), .val (.ref p1), .val (.ref p1)] [(.ref v0_)])) _
    refine XS.aloadN X12.here hx rfl (hb hby d13_40) rfl rfl ?_
    exact k
  obtain ⟨T14, X14, e14, st14⟩ := getF X12 hx hZ hown (host := "") (Or.inl (hw _ (List.mem_of_getElem? (i := 37) rfl))) Via.refl e12 F_p1_value (g := (mkF m 41 #[.val (.ref p0), .val (.ref p1), .val (.ref p1)] [(.ref p1), (.ref v0_)])) rfl rfl (hb hby d13_41)
  have pre16 : ∀ t, Steps p.tables e below (T14.setTop (mkF m 44 #[.val (.ref p0), .val (.ref p1), .val (.ref p1)] [(.ref v1_), (.ref v0_)])) t → Steps p.tables e below (s₁.setTop (entryFrame m #[(.ref p0), (.ref p1)] 3)) t := by
    intro t k
    refine pre13 t ?_
    show Steps p.tables e below (T12.setTop (mkF m 41 #[.val (.ref p0), .val (.ref p1), .val (.ref p1)] [(.ref p1), (.ref v0_)])) _
    refine st14 _ ?_
    exact k
  obtain ⟨_, _, ⟨T15, L15, k15, n15⟩, -, X15, ⟨Lc15, hQ15, l15, y15, z15⟩, st15⟩ := Jvm.LawKit.callS X14 hx (y := (⟨"java/lang/StringLatin1", "equals", "([B[B)Z"⟩ : MethodName)) hown (mvT hZ (hw _ (List.mem_of_getElem? (i := 74) rfl))) (mvT hZ (hw _ (List.mem_of_getElem? (i := 75) rfl))) (mvT hZ (hw _ (List.mem_of_getElem? (i := 76) rfl))) (mvT hZ (hw _ (List.mem_of_getElem? (i := 77) rfl))) (by decide) (backOf (W := 0) (rm_14e1 l Z a0 hw [] v0_ v1_ x_ y_ h0 n0 Z0 A_v0_ A_v1_) hZ (hw _ (List.mem_of_getElem? (i := 77) rfl)) (hw _ (List.mem_of_getElem? (i := 76) rfl)) (by decide) (by decide)) (g := (mkF m 44 #[.val (.ref p0), .val (.ref p1), .val (.ref p1)] [(.ref v1_), (.ref v0_)])) rfl (by rw [hml]; rfl) (argsL := [(.ref v0_), (.ref v1_)]) (rest := []) (lenOf pd_6 rfl) rfl (by show 2 * 0 + _ ≤ _; exact Nat.le_of_eq rfl) (hb hby d13_44) (fun _ _ => ⟨rfl, e14, (by decide : 0 + 0 ≤ _), (by decide : 0 + 0 ≤ _)⟩)
  dsimp only [Pt.U, Pt.locs, Pt.cells, Pt.slots] at X15 l15 y15 z15 st15 hQ15
  rw [l15, y15, z15] at X15
  obtain ⟨rfl, N15q, e15⟩ := hQ15
  have N15 := Fr.app N0 N15q
  have pre17 : ∀ t, Steps p.tables e below (T15.setTop (mkF m 47 #[.val (.ref p0), .val (.ref p1), .val (.ref p1)] [(.int (f_14e1 x_ y_))])) t → Steps p.tables e below (s₁.setTop (entryFrame m #[(.ref p0), (.ref p1)] 3)) t := by
    intro t k
    refine pre16 t ?_
    show Steps p.tables e below (T14.setTop (mkF m 44 #[.val (.ref p0), .val (.ref p1), .val (.ref p1)] [(.ref v1_), (.ref v0_)])) _
    refine st15 _ ?_
    exact k
  obtain ⟨ms0_55, hms0_55⟩ : ∃ z : Int32, z = (if (f_14e1 x_ y_) = (0 : Int32) then (0 : Int32) else (1 : Int32)) := ⟨_, rfl⟩
  have pre18 : ∀ t, Steps p.tables e below (T15.setTop (mkF m 55 #[.val (.ref p0), .val (.ref p1), .val (.ref p1)] [(.int ms0_55)])) t → Steps p.tables e below (s₁.setTop (entryFrame m #[(.ref p0), (.ref p1)] 3)) t := by
    intro t k
    refine pre17 t ?_
    by_cases hc47 : (f_14e1 x_ y_) = (0 : Int32)
    · show Steps p.tables e below (T15.setTop (mkF m 47 #[.val (.ref p0), .val (.ref p1), .val (.ref p1)] [(.int (f_14e1 x_ y_))])) _
      refine XS.ifYes X15.here hx rfl (pc0 := 47) (pc' := 54) rfl (hb hby d13_47) rfl ((if0 _ _).trans (teq hc47).1) (by decide) (by decide) ?_
      show Steps p.tables e below (T15.setTop (mkF m 54 #[.val (.ref p0), .val (.ref p1), .val (.ref p1)] [])) _
      refine XS.iconst X15.here hx rfl (hb hby d13_54) ?_
      have qms0_55 : ms0_55 = (0 : Int32) := by rw [hms0_55, if_pos hc47]
      rw [qms0_55] at k
      exact k
    · show Steps p.tables e below (T15.setTop (mkF m 47 #[.val (.ref p0), .val (.ref p1), .val (.ref p1)] [(.int (f_14e1 x_ y_))])) _
      refine XS.ifNo X15.here hx rfl (hb hby d13_47) rfl ((if0 _ _).trans (feq hc47).1) ?_
      show Steps p.tables e below (T15.setTop (mkF m 50 #[.val (.ref p0), .val (.ref p1), .val (.ref p1)] [])) _
      refine XS.iconst X15.here hx rfl (hb hby d13_50) ?_
      show Steps p.tables e below (T15.setTop (mkF m 51 #[.val (.ref p0), .val (.ref p1), .val (.ref p1)] [(.int (1 : Int32))])) _
      refine XS.goto X15.here hx rfl (pc0 := 51) (pc' := 55) rfl (hb hby d13_51) (by decide) (by decide) ?_
      have qms0_55 : ms0_55 = (1 : Int32) := by rw [hms0_55, if_neg hc47]
      rw [qms0_55] at k
      exact k
  have hnar : nar .boolean ms0_55 = ms0_55 := by rw [hms0_55]; (repeat' split) <;> rfl
  obtain ⟨fs, hr, hrun, hended, hW, hsame⟩ := X15.leave (v := some (.int ms0_55)) (fun h => by rw [Bd.returns] at h; cases h) (BodyLoose.notSynchronized Bd)
  refine ⟨_, _, pre18 _ ?_, hrun, hended, _, _, rfl, ?_, ⟨_, rfl⟩, hW, hsame.mono (by decide) (by decide)⟩
  · show Steps p.tables e below (T15.setTop (mkF m 55 #[.val (.ref p0), .val (.ref p1), .val (.ref p1)] [(.int ms0_55)])) _
    exact retN X15 hx (t := .boolean) Bd.returns (by simp) (hb hby d13_55) (by rw [hnar]; exact hr)
  · show Q_13e1 Z p0 p1 cs_ v0_ v1_ x_ y_ h0 n0 _ T15.heap _
    rw [e15]
    exact ⟨congrArg (fun z => some (Value.int z)) (by subst hms0_55; rfl : ms0_55 = f_13e1 cs_ x_ y_), N15, rfl⟩
theorem ef_12e1 (m : MethodId) (p0 : Addr) (p1 : Addr) : entryFrame m #[(.ref p0), (.ref p1)] 3 = mkF m 0 #[.val (.ref p0), .val (.ref p1), .unset] [] := by first | (simp [entryFrame, mkF, argsToLocals, Value.category]; done) | rfl
def f_12e1 (i0_ : Int32) (i1_ : Int32) (cs_ : Int32) (x_ : Nat → Int32) (y_ : Nat → Int32) : Int32 := (if (f_13e1 cs_ x_ y_) = (0 : Int32) then (0 : Int32) else let ms0_44 : Int32 := (if i0_ = i1_ then (1 : Int32) else (0 : Int32)); ms0_44)
def Q_12e1 (Z : State) (p0 : Addr) (p1 : Addr) (s0_ : Addr) (i0_ : Int32) (s1_ : Addr) (i1_ : Int32) (cs_ : Int32) (v0_ : Addr) (v1_ : Addr) (x_ : Nat → Int32) (y_ : Nat → Int32) (h0 : Heap) (n0 : Nat) (v : Option Value) (h : Heap) (L : List Loc) : Prop := v = some (.int (f_12e1 i0_ i1_ cs_ x_ y_)) ∧ Fr n0 L ∧ h = h0
set_option maxRecDepth 65536 in
set_option maxHeartbeats 40000000 in
theorem rm_12e1 (l : Launch) (Z : State) (a0 : Array Value) (hw : ∀ d ∈ tables_1, d.before a0 Z = true) (ws : List Jvm.Cond) (p0 : Addr) (p1 : Addr) (s0_ : Addr) (i0_ : Int32) (s1_ : Addr) (i1_ : Int32) (cs_ : Int32) (v0_ : Addr) (v1_ : Addr) (x_ : Nat → Int32) (y_ : Nat → Int32) (h0 : Heap) (n0 : Nat) (Z0 : n0 ≤ h0.size) (ne_p0_p1 : p0 ≠ p1) (E_p1 : Exa Z h0 p1 "com/example/sequeue/sequeue/route/MessageQueue") (F_p0_brokerName : Fld Z h0 p0 "com/example/sequeue/sequeue/route/MessageQueue" "brokerName" "Ljava/lang/String;" (.ref s0_)) (F_p0_queueId : Fld Z h0 p0 "com/example/sequeue/sequeue/route/MessageQueue" "queueId" "I" (.int i0_)) (F_p1_brokerName : Fld Z h0 p1 "com/example/sequeue/sequeue/route/MessageQueue" "brokerName" "Ljava/lang/String;" (.ref s1_)) (F_p1_queueId : Fld Z h0 p1 "com/example/sequeue/sequeue/route/MessageQueue" "queueId" "I" (.int i1_)) (ne_s0__s1_ : s0_ ≠ s1_) (E_s0_ : Exa Z h0 s0_ "java/lang/String") (E_s1_ : Exa Z h0 s1_ "java/lang/String") (S_COMPACT_STRINGS : Sta Z h0 "java/lang/String" "COMPACT_STRINGS" "Z" (.int cs_)) (hcs : ¬ (cs_ = (0 : Int32))) (F_s0__value : Fld Z h0 s0_ "java/lang/String" "value" "[B" (.ref v0_)) (F_s0__coder : Fld Z h0 s0_ "java/lang/String" "coder" "B" (.int (0 : Int32))) (F_s1__value : Fld Z h0 s1_ "java/lang/String" "value" "[B" (.ref v1_)) (F_s1__coder : Fld Z h0 s1_ "java/lang/String" "coder" "B" (.int (0 : Int32))) (A_v0_ : own_A Z h0 v0_ .byte 1 (fun i => .int (x_ i))) (A_v1_ : own_A Z h0 v1_ .byte 1 (fun i => .int (y_ i))) :
    MetFree l (⟨"com/example/sequeue/sequeue/route/MessageQueue", "equals", "(Ljava/lang/Object;)Z"⟩ : MethodName) (head1 (Jvm.Cond.code (⟨"com/example/sequeue/sequeue/route/MessageQueue", "equals", "(Ljava/lang/Object;)Z"⟩ : MethodName) prog_36_method_5_code 3 (some .boolean) :: ws) ({ frames := 2, cells := 0, slots := 0, locals := 28 } : Room)) (fun a U => a = #[(.ref p0), (.ref p1)] ∧ Z.Warmed39 U.vm ∧ U.heap = h0) (fun _ _ _ _ _ => True) (fun _ U o U' => ∃ v L, o = .returned v ∧ Q_12e1 Z p0 p1 s0_ i0_ s1_ i1_ cs_ v0_ v1_ x_ y_ h0 n0 v U'.heap L ∧ FrameEnd U o U' L ({ frames := 2, cells := 0, slots := 0, locals := 28 } : Room).cells ({ frames := 2, cells := 0, slots := 0, locals := 28 } : Room).slots) := by
  refine MetFree.of_bodySF (plainFor_of_name pn_12) hisR ?_
  intro p e s m args below meth c s₁ Bd hml0 hP hK
  obtain ⟨rfl, hZ, hh⟩ := hP
  have hx := Bd.exec
  have hby := Bd.bytes
  have hml : c.maxLocals = 3 := hml0
  have hown : s.vm.findClass "com/example/sequeue/sequeue/route/MessageQueue" = some m.cls := findClass_of_methodNamed Bd.named
  have hnm := (name_of_methodNamed Bd.named Bd.method).1
  have X0 : Stand p l e ({ frames := 2, cells := 0, slots := 0, locals := 28 } : Room) s m #[(.ref p0), (.ref p1)] below meth c s₁ [] 0 0 := Stand.of_body Bd
  have e0 : s₁.heap = h0 := by rw [← hh, Bd.state]; rfl
  have N0 := Fr.nil n0
  have K0 : Keep h0 h0 [] := Keep.refl h0 _
  have pre0 : ∀ t, Steps p.tables e below (s₁.setTop (mkF m 0 #[.val (.ref p0), .val (.ref p1), .unset] [])) t → Steps p.tables e below (s₁.setTop (entryFrame m #[(.ref p0), (.ref p1)] 3)) t := fun t k => castTop (ef_12e1 m p0 p1) k
  have pre1 : ∀ t, Steps p.tables e below (s₁.setTop (mkF m 1 #[.val (.ref p0), .val (.ref p1), .unset] [(.ref p1)])) t → Steps p.tables e below (s₁.setTop (entryFrame m #[(.ref p0), (.ref p1)] 3)) t := by
    intro t k
    refine pre0 t ?_
    show Steps p.tables e below (s₁.setTop (mkF m 0 #[.val (.ref p0), .val (.ref p1), .unset] [])) _
    refine XS.aloadN X0.here hx rfl (hb hby d12_0) rfl rfl ?_
    exact k
  obtain ⟨T2, X2, e2, st2⟩ := instY X0 hx hZ hown (hw _ (List.mem_of_getElem? (i := 66) rfl)) e0 (Ins.self E_p1) (g := (mkF m 1 #[.val (.ref p0), .val (.ref p1), .unset] [(.ref p1)])) rfl rfl (hb hby d12_1)
  have pre3 : ∀ t, Steps p.tables e below (T2.setTop (mkF m 10 #[.val (.ref p0), .val (.ref p1), .unset] [(.ref p1)])) t → Steps p.tables e below (s₁.setTop (entryFrame m #[(.ref p0), (.ref p1)] 3)) t := by
    intro t k
    refine pre1 t ?_
    show Steps p.tables e below (s₁.setTop (mkF m 1 #[.val (.ref p0), .val (.ref p1), .unset] [(.ref p1)])) _
    refine st2 _ ?_
    show Steps p.tables e below (T2.setTop (mkF m 4 #[.val (.ref p0), .val (.ref p1), .unset] [(.int (1 : Int32))])) _
    refine XS.ifYes X2.here hx rfl (pc0 := 4) (pc' := 9) rfl (hb hby d12_4) rfl ((if0 _ _).trans (feq (by decide : ¬ ((1 : Int32) = (0 : Int32)))).2) (by decide) (by decide) ?_
    show Steps p.tables e below (T2.setTop (mkF m 9 #[.val (.ref p0), .val (.ref p1), .unset] [])) _
    refine XS.aloadN X2.here hx rfl (hb hby d12_9) rfl rfl ?_
    exact k
  obtain ⟨T4, X4, e4, st4⟩ := castY X2 hx hZ hown (hw _ (List.mem_of_getElem? (i := 66) rfl)) e2 (Ins.self E_p1) (g := (mkF m 10 #[.val (.ref p0), .val (.ref p1), .unset] [(.ref p1)])) rfl rfl (hb hby d12_10)
  have pre5 : ∀ t, Steps p.tables e below (T4.setTop (mkF m 15 #[.val (.ref p0), .val (.ref p1), .val (.ref p1)] [(.ref p0)])) t → Steps p.tables e below (s₁.setTop (entryFrame m #[(.ref p0), (.ref p1)] 3)) t := by
    intro t k
    refine pre3 t ?_
    show Steps p.tables e below (T2.setTop (mkF m 10 #[.val (.ref p0), .val (.ref p1), .unset] [(.ref p1)])) _
    refine st4 _ ?_
    show Steps p.tables e below (T4.setTop (mkF m 13 #[.val (.ref p0), .val (.ref p1), .unset] [(.ref p1)])) _
    refine XS.astoreN X4.here hx rfl (hb hby d12_13) rfl rfl (l' := #[.val (.ref p0), .val (.ref p1), .val (.ref p1)]) rfl ?_
    show Steps p.tables e below (T4.setTop (mkF m 14 #[.val (.ref p0), .val (.ref p1), .val (.ref p1)] [])) _
    refine XS.aloadN X4.here hx rfl (hb hby d12_14) rfl rfl ?_
    exact k
  obtain ⟨T6, X6, e6, st6⟩ := getF X4 hx hZ hown (host := "") (Or.inl (hw _ (List.mem_of_getElem? (i := 54) rfl))) Via.refl e4 F_p0_brokerName (g := (mkF m 15 #[.val (.ref p0), .val (.ref p1), .val (.ref p1)] [(.ref p0)])) rfl rfl (hb hby d12_15)
  have pre7 : ∀ t, Steps p.tables e below (T6.setTop (mkF m 19 #[.val (.ref p0), .val (.ref p1), .val (.ref p1)] [(.ref p1), (.ref s0_)])) t → Steps p.tables e below (s₁.setTop (entryFrame m #[(.ref p0), (.ref p1)] 3)) t := by
    intro t k
    refine pre5 t ?_
    show Steps p.tables e below (T4.setTop (mkF m 15 #[.val (.ref p0), .val (.ref p1), .val (.ref p1)] [(.ref p0)])) _
    refine st6 _ ?_
    show Steps p.tables e below (T6.setTop (mkF m 18 #[.val (.ref p0), .val (.ref p1), .val (.ref p1)] [(.ref s0_)])) _
    refine XS.aloadN X6.here hx rfl (hb hby d12_18) rfl rfl ?_
    exact k
  obtain ⟨T8, X8, e8, st8⟩ := getF X6 hx hZ hown (host := "") (Or.inl (hw _ (List.mem_of_getElem? (i := 54) rfl))) Via.refl e6 F_p1_brokerName (g := (mkF m 19 #[.val (.ref p0), .val (.ref p1), .val (.ref p1)] [(.ref p1), (.ref s0_)])) rfl rfl (hb hby d12_19)
  have pre10 : ∀ t, Steps p.tables e below (T8.setTop (mkF m 22 #[.val (.ref p0), .val (.ref p1), .val (.ref p1)] [(.ref s1_), (.ref s0_)])) t → Steps p.tables e below (s₁.setTop (entryFrame m #[(.ref p0), (.ref p1)] 3)) t := by
    intro t k
    refine pre7 t ?_
    show Steps p.tables e below (T6.setTop (mkF m 19 #[.val (.ref p0), .val (.ref p1), .val (.ref p1)] [(.ref p1), (.ref s0_)])) _
    refine st8 _ ?_
    exact k
  obtain ⟨cq9, kq9, q9a, q9b, q9c⟩ := isOf hZ e8 E_s0_
  obtain ⟨_, _, ⟨T9, L9, k9, n9⟩, -, X9, ⟨Lc9, hQ9, l9, y9, z9⟩, st9⟩ := X8.virtualBack hx (y := (⟨"java/lang/String", "equals", "(Ljava/lang/Object;)Z"⟩ : MethodName)) (z := (⟨"java/lang/String", "equals", "(Ljava/lang/Object;)Z"⟩ : MethodName)) hown (mvT hZ (hw _ (List.mem_of_getElem? (i := 68) rfl))) (mvT hZ (hw _ (List.mem_of_getElem? (i := 69) rfl))) (notFace_of_selects (args := #[]) (mvT hZ (hw _ (List.mem_of_getElem? (i := 71) rfl)))) (mvT hZ (hw _ (List.mem_of_getElem? (i := 71) rfl))) (mvT hZ (hw _ (List.mem_of_getElem? (i := 70) rfl))) (by decide) (backOf (W := 0) (rm_13e1 l Z a0 hw [] s0_ s1_ cs_ v0_ v1_ x_ y_ h0 n0 Z0 ne_s0__s1_ E_s1_ S_COMPACT_STRINGS hcs F_s0__value F_s0__coder F_s1__value F_s1__coder A_v0_ A_v1_) hZ (hw _ (List.mem_of_getElem? (i := 72) rfl)) (hw _ (List.mem_of_getElem? (i := 12) rfl)) (by decide) (by decide)) q9a q9c (g := (mkF m 22 #[.val (.ref p0), .val (.ref p1), .val (.ref p1)] [(.ref s1_), (.ref s0_)])) rfl (by rw [hml]; rfl) (Steps.refl _) (argsL := [(.ref s1_)]) (rest := []) (lenOf pd_7 rfl) rfl (by show 2 * 0 + _ ≤ _; exact Nat.le_of_eq rfl) (hb hby d12_22) (fun _ _ => ⟨rfl, e8, (by decide : 0 + 0 ≤ _), (by decide : 0 + 0 ≤ _)⟩)
  dsimp only [Pt.U, Pt.locs, Pt.cells, Pt.slots] at X9 l9 y9 z9 st9 hQ9
  rw [l9, y9, z9] at X9
  obtain ⟨rfl, N9q, e9⟩ := hQ9
  have N9 := Fr.app N0 N9q
  have pre11 : ∀ t, Steps p.tables e below (T9.setTop (mkF m 25 #[.val (.ref p0), .val (.ref p1), .val (.ref p1)] [(.int (f_13e1 cs_ x_ y_))])) t → Steps p.tables e below (s₁.setTop (entryFrame m #[(.ref p0), (.ref p1)] 3)) t := by
    intro t k
    refine pre10 t ?_
    show Steps p.tables e below (T8.setTop (mkF m 22 #[.val (.ref p0), .val (.ref p1), .val (.ref p1)] [(.ref s1_), (.ref s0_)])) _
    refine st9.trans ?_
    exact k
  by_cases hc25 : (f_13e1 cs_ x_ y_) = (0 : Int32)
  · obtain ⟨fs, hr, hrun, hended, hW, hsame⟩ := X9.leave (v := some (.int (0 : Int32))) (fun h => by rw [Bd.returns] at h; cases h) (BodyLoose.notSynchronized Bd)
    refine ⟨_, _, pre11 _ ?_, hrun, hended, _, _, rfl, ?_, ⟨_, rfl⟩, hW, hsame.mono (by decide) (by decide)⟩
    · show Steps p.tables e below (T9.setTop (mkF m 25 #[.val (.ref p0), .val (.ref p1), .val (.ref p1)] [(.int (f_13e1 cs_ x_ y_))])) _
      refine XS.ifYes X9.here hx rfl (pc0 := 25) (pc' := 43) rfl (hb hby d12_25) rfl ((if0 _ _).trans (teq hc25).1) (by decide) (by decide) ?_
      show Steps p.tables e below (T9.setTop (mkF m 43 #[.val (.ref p0), .val (.ref p1), .val (.ref p1)] [])) _
      refine XS.iconst X9.here hx rfl (hb hby d12_43) ?_
      show Steps p.tables e below (T9.setTop (mkF m 44 #[.val (.ref p0), .val (.ref p1), .val (.ref p1)] [(.int (0 : Int32))])) _
      exact retN X9 hx (t := .boolean) Bd.returns (by simp) (hb hby d12_44) hr
    · show Q_12e1 Z p0 p1 s0_ i0_ s1_ i1_ cs_ v0_ v1_ x_ y_ h0 n0 _ T9.heap _
      rw [e9]
      exact ⟨congrArg (fun z => some (Value.int z)) (by exact (if_pos hc25).symm : (0 : Int32) = f_12e1 i0_ i1_ cs_ x_ y_), N9, rfl⟩
  · have pre12 : ∀ t, Steps p.tables e below (T9.setTop (mkF m 29 #[.val (.ref p0), .val (.ref p1), .val (.ref p1)] [(.ref p0)])) t → Steps p.tables e below (s₁.setTop (entryFrame m #[(.ref p0), (.ref p1)] 3)) t := by
      intro t k
      refine pre11 t ?_
      show Steps p.tables e below (T9.setTop (mkF m 25 #[.val (.ref p0), .val (.ref p1), .val (.ref p1)] [(.int (f_13e1 cs_ x_ y_))])) _
      refine XS.ifNo X9.here hx rfl (hb hby d12_25) rfl ((if0 _ _).trans (feq hc25).1) ?_
      show Steps p.tables e below (T9.setTop (mkF m 28 #[.val (.ref p0), .val (.ref p1), .val (.ref p1)] [])) _
      refine XS.aloadN X9.here hx rfl (hb hby d12_28) rfl rfl ?_
      exact k
    obtain ⟨T13, X13, e13, st13⟩ := getF X9 hx hZ hown (host := "") (Or.inl (hw _ (List.mem_of_getElem? (i := 56) rfl))) Via.refl e9 F_p0_queueId (g := (mkF m 29 #[.val (.ref p0), .val (.ref p1), .val (.ref p1)] [(.ref p0)])) rfl rfl (hb hby d12_29)
    have pre14 : ∀ t, Steps p.tables e below (T13.setTop (mkF m 33 #[.val (.ref p0), .val (.ref p1), .val (.ref p1)] [(.ref p1), (.int i0_)])) t → Steps p.tables e below (s₁.setTop (entryFrame m #[(.ref p0), (.ref p1)] 3)) t := by
      intro t k
      refine pre12 t ?_
      show Steps p.tables e below (T9.setTop (mkF m 29 #[.val (.ref p0), .val (.ref p1), .val (.ref p1)] [(.ref p0)])) _
      refine st13 _ ?_
      show Steps p.tables e below (T13.setTop (mkF m 32 #[.val (.ref p0), .val (.ref p1), .val (.ref p1)] [(.int i0_)])) _
      refine XS.aloadN X13.here hx rfl (hb hby d12_32) rfl rfl ?_
      exact k
    obtain ⟨T15, X15, e15, st15⟩ := getF X13 hx hZ hown (host := "") (Or.inl (hw _ (List.mem_of_getElem? (i := 56) rfl))) Via.refl e13 F_p1_queueId (g := (mkF m 33 #[.val (.ref p0), .val (.ref p1), .val (.ref p1)] [(.ref p1), (.int i0_)])) rfl rfl (hb hby d12_33)
    have pre16 : ∀ t, Steps p.tables e below (T15.setTop (mkF m 36 #[.val (.ref p0), .val (.ref p1), .val (.ref p1)] [(.int i1_), (.int i0_)])) t → Steps p.tables e below (s₁.setTop (entryFrame m #[(.ref p0), (.ref p1)] 3)) t := by
      intro t k
      refine pre14 t ?_
      show Steps p.tables e below (T13.setTop (mkF m 33 #[.val (.ref p0), .val (.ref p1), .val (.ref p1)] [(.ref p1), (.int i0_)])) _
      refine st15 _ ?_
      exact k
    obtain ⟨ms0_44, hms0_44⟩ : ∃ z : Int32, z = (if i0_ = i1_ then (1 : Int32) else (0 : Int32)) := ⟨_, rfl⟩
    have pre17 : ∀ t, Steps p.tables e below (T15.setTop (mkF m 44 #[.val (.ref p0), .val (.ref p1), .val (.ref p1)] [(.int ms0_44)])) t → Steps p.tables e below (s₁.setTop (entryFrame m #[(.ref p0), (.ref p1)] 3)) t := by
      intro t k
      refine pre16 t ?_
      by_cases hc36 : i0_ = i1_
      · show Steps p.tables e below (T15.setTop (mkF m 36 #[.val (.ref p0), .val (.ref p1), .val (.ref p1)] [(.int i1_), (.int i0_)])) _
        refine XS.icmpNo X15.here hx rfl (hb hby d12_36) rfl (teq hc36).2 ?_
        show Steps p.tables e below (T15.setTop (mkF m 39 #[.val (.ref p0), .val (.ref p1), .val (.ref p1)] [])) _
        refine XS.iconst X15.here hx rfl (hb hby d12_39) ?_
        show Steps p.tables e below (T15.setTop (mkF m 40 #[.val (.ref p0), .val (.ref p1), .val (.ref p1)] [(.int (1 : Int32))])) _
        refine XS.goto X15.here hx rfl (pc0 := 40) (pc' := 44) rfl (hb hby d12_40) (by decide) (by decide) ?_
        have qms0_44 : ms0_44 = (1 : Int32) := by rw [hms0_44, if_pos hc36]
        rw [qms0_44] at k
        exact k
      · show Steps p.tables e below (T15.setTop (mkF m 36 #[.val (.ref p0), .val (.ref p1), .val (.ref p1)] [(.int i1_), (.int i0_)])) _
        refine XS.icmpYes X15.here hx rfl (pc0 := 36) (pc' := 43) rfl (hb hby d12_36) rfl (feq hc36).2 (by decide) (by decide) ?_
        show Steps p.tables e below (T15.setTop (mkF m 43 #[.val (.ref p0), .val (.ref p1), .val (.ref p1)] [])) _
        refine XS.iconst X15.here hx rfl (hb hby d12_43) ?_
        have qms0_44 : ms0_44 = (0 : Int32) := by rw [hms0_44, if_neg hc36]
        rw [qms0_44] at k
        exact k
    have hnar : nar .boolean ms0_44 = ms0_44 := by rw [hms0_44]; (repeat' split) <;> rfl
    obtain ⟨fs, hr, hrun, hended, hW, hsame⟩ := X15.leave (v := some (.int ms0_44)) (fun h => by rw [Bd.returns] at h; cases h) (BodyLoose.notSynchronized Bd)
    refine ⟨_, _, pre17 _ ?_, hrun, hended, _, _, rfl, ?_, ⟨_, rfl⟩, hW, hsame.mono (by decide) (by decide)⟩
    · show Steps p.tables e below (T15.setTop (mkF m 44 #[.val (.ref p0), .val (.ref p1), .val (.ref p1)] [(.int ms0_44)])) _
      exact retN X15 hx (t := .boolean) Bd.returns (by simp) (hb hby d12_44) (by rw [hnar]; exact hr)
    · show Q_12e1 Z p0 p1 s0_ i0_ s1_ i1_ cs_ v0_ v1_ x_ y_ h0 n0 _ T15.heap _
      rw [e15]
      exact ⟨congrArg (fun z => some (Value.int z)) (by subst hms0_44; exact (if_neg hc25).symm : ms0_44 = f_12e1 i0_ i1_ cs_ x_ y_), N9, rfl⟩
theorem ef_14e2 (m : MethodId) (p0 : Addr) (p1 : Addr) : entryFrame m #[(.ref p0), (.ref p1)] 3 = mkF m 0 #[.val (.ref p0), .val (.ref p1), .unset] [] := by first | (simp [entryFrame, mkF, argsToLocals, Value.category]; done) | rfl
def f_14e2 (x_ : Nat → Int32) (y_ : Nat → Int32) : Int32 := (if (x_ 0) = (y_ 0) then (if (x_ 1) = (y_ 1) then (1 : Int32) else (0 : Int32)) else (0 : Int32))
def Q_14e2 (Z : State) (p0 : Addr) (p1 : Addr) (x_ : Nat → Int32) (y_ : Nat → Int32) (h0 : Heap) (n0 : Nat) (v : Option Value) (h : Heap) (L : List Loc) : Prop := v = some (.int (f_14e2 x_ y_)) ∧ Fr n0 L ∧ h = h0
set_option maxRecDepth 65536 in
set_option maxHeartbeats 40000000 in
theorem rm_14e2 (l : Launch) (Z : State) (a0 : Array Value) (hw : ∀ d ∈ tables_1, d.before a0 Z = true) (ws : List Jvm.Cond) (p0 : Addr) (p1 : Addr) (x_ : Nat → Int32) (y_ : Nat → Int32) (h0 : Heap) (n0 : Nat) (Z0 : n0 ≤ h0.size) (A_p0 : own_A Z h0 p0 .byte 2 (fun i => .int (x_ i))) (A_p1 : own_A Z h0 p1 .byte 2 (fun i => .int (y_ i))) :
    MetFree l (⟨"java/lang/StringLatin1", "equals", "([B[B)Z"⟩ : MethodName) (head1 (Jvm.Cond.code (⟨"java/lang/StringLatin1", "equals", "([B[B)Z"⟩ : MethodName) jdk_43_method_13_code 3 (some .boolean) :: ws) ({ frames := 0, cells := 0, slots := 0, locals := 0 } : Room)) (fun a U => a = #[(.ref p0), (.ref p1)] ∧ Z.Warmed39 U.vm ∧ U.heap = h0) (fun _ _ _ _ _ => True) (fun _ U o U' => ∃ v L, o = .returned v ∧ Q_14e2 Z p0 p1 x_ y_ h0 n0 v U'.heap L ∧ FrameEnd U o U' L ({ frames := 0, cells := 0, slots := 0, locals := 0 } : Room).cells ({ frames := 0, cells := 0, slots := 0, locals := 0 } : Room).slots) := by
  refine MetFree.of_bodySF (plainFor_of_name pn_14) hisR ?_
  intro p e s m args below meth c s₁ Bd hml0 hP hK
  obtain ⟨rfl, hZ, hh⟩ := hP
  have hx := Bd.exec
  have hby := Bd.bytes
  have hml : c.maxLocals = 3 := hml0
  have hown : s.vm.findClass "java/lang/StringLatin1" = some m.cls := findClass_of_methodNamed Bd.named
  have hnm := (name_of_methodNamed Bd.named Bd.method).1
  have X0 : Stand p l e ({ frames := 0, cells := 0, slots := 0, locals := 0 } : Room) s m #[(.ref p0), (.ref p1)] below meth c s₁ [] 0 0 := Stand.of_body Bd
  have e0 : s₁.heap = h0 := by rw [← hh, Bd.state]; rfl
  have N0 := Fr.nil n0
  have K0 : Keep h0 h0 [] := Keep.refl h0 _
  have pre0 : ∀ t, Steps p.tables e below (s₁.setTop (mkF m 0 #[.val (.ref p0), .val (.ref p1), .unset] [])) t → Steps p.tables e below (s₁.setTop (entryFrame m #[(.ref p0), (.ref p1)] 3)) t := fun t k => castTop (ef_14e2 m p0 p1) k
  have pre1 : ∀ t, Steps p.tables e below (s₁.setTop (mkF m 21 #[.val (.ref p0), .val (.ref p1), .val (.int (0 : Int32))] [(.int (y_ 0)), (.int (x_ 0))])) t → Steps p.tables e below (s₁.setTop (entryFrame m #[(.ref p0), (.ref p1)] 3)) t := by
    intro t k
    refine pre0 t ?_
    show Steps p.tables e below (s₁.setTop (mkF m 0 #[.val (.ref p0), .val (.ref p1), .unset] [])) _
    refine XS.aloadN X0.here hx rfl (hb hby d14_0) rfl rfl ?_
    show Steps p.tables e below (s₁.setTop (mkF m 1 #[.val (.ref p0), .val (.ref p1), .unset] [(.ref p0)])) _
    refine own_len X0 hx hZ e0 A_p0 (z := (2 : Int32)) rfl (g := (mkF m 1 #[.val (.ref p0), .val (.ref p1), .unset] [(.ref p0)])) rfl rfl (hb hby d14_1) ?_
    show Steps p.tables e below (s₁.setTop (mkF m 2 #[.val (.ref p0), .val (.ref p1), .unset] [(.int (2 : Int32))])) _
    refine XS.aloadN X0.here hx rfl (hb hby d14_2) rfl rfl ?_
    show Steps p.tables e below (s₁.setTop (mkF m 3 #[.val (.ref p0), .val (.ref p1), .unset] [(.ref p1), (.int (2 : Int32))])) _
    refine own_len X0 hx hZ e0 A_p1 (z := (2 : Int32)) rfl (g := (mkF m 3 #[.val (.ref p0), .val (.ref p1), .unset] [(.ref p1), (.int (2 : Int32))])) rfl rfl (hb hby d14_3) ?_
    show Steps p.tables e below (s₁.setTop (mkF m 4 #[.val (.ref p0), .val (.ref p1), .unset] [(.int (2 : Int32)), (.int (2 : Int32))])) _
    refine XS.icmpNo X0.here hx rfl (hb hby d14_4) rfl (teq (by decide : (2 : Int32) = (2 : Int32))).2 ?_
    show Steps p.tables e below (s₁.setTop (mkF m 7 #[.val (.ref p0), .val (.ref p1), .unset] [])) _
    refine XS.iconst X0.here hx rfl (hb hby d14_7) ?_
    show Steps p.tables e below (s₁.setTop (mkF m 8 #[.val (.ref p0), .val (.ref p1), .unset] [(.int (0 : Int32))])) _
    refine XS.istoreN X0.here hx rfl (hb hby d14_8) rfl (l' := #[.val (.ref p0), .val (.ref p1), .val (.int (0 : Int32))]) rfl ?_
    show Steps p.tables e below (s₁.setTop (mkF m 9 #[.val (.ref p0), .val (.ref p1), .val (.int (0 : Int32))] [])) _
    refine XS.iloadN X0.here hx rfl (hb hby d14_9) rfl  ?_
    show Steps p.tables e below (s₁.setTop (mkF m 10 #[.val (.ref p0), .val (.ref p1), .val (.int (0 : Int32))] [(.int (0 : Int32))])) _
    refine XS.aloadN X0.here hx rfl (hb hby d14_10) rfl rfl ?_
    show Steps p.tables e below (s₁.setTop (mkF m 11 #[.val (.ref p0), .val (.ref p1), .val (.int (0 : Int32))] [(.ref p0), (.int (0 : Int32))])) _
    refine own_len X0 hx hZ e0 A_p0 (z := (2 : Int32)) rfl (g := (mkF m 11 #[.val (.ref p0), .val (.ref p1), .val (.int (0 : Int32))] [(.ref p0), (.int (0 : Int32))])) rfl rfl (hb hby d14_11) ?_
    show Steps p.tables e below (s₁.setTop (mkF m 12 #[.val (.ref p0), .val (.ref p1), .val (.int (0 : Int32))] [(.int (2 : Int32)), (.int (0 : Int32))])) _
    refine XS.icmpNo X0.here hx rfl (hb hby d14_12) rfl (tlt (by decide : (0 : Int32) < (2 : Int32))).2.1 ?_
    show Steps p.tables e below (s₁.setTop (mkF m 15 #[.val (.ref p0), .val (.ref p1), .val (.int (0 : Int32))] [])) _
    refine XS.aloadN X0.here hx rfl (hb hby d14_15) rfl rfl ?_
    show Steps p.tables e below (s₁.setTop (mkF m 16 #[.val (.ref p0), .val (.ref p1), .val (.int (0 : Int32))] [(.ref p0)])) _
    refine XS.iloadN X0.here hx rfl (hb hby d14_16) rfl  ?_
    show Steps p.tables e below (s₁.setTop (mkF m 17 #[.val (.ref p0), .val (.ref p1), .val (.int (0 : Int32))] [(.int (0 : Int32)), (.ref p0)])) _
    refine own_ldB X0 hx hZ e0 A_p0 (j := (0 : Int32)) (k := 0) (by decide) (by decide) (by decide) (g := (mkF m 17 #[.val (.ref p0), .val (.ref p1), .val (.int (0 : Int32))] [(.int (0 : Int32)), (.ref p0)])) rfl rfl (hb hby d14_17) ?_
    show Steps p.tables e below (s₁.setTop (mkF m 18 #[.val (.ref p0), .val (.ref p1), .val (.int (0 : Int32))] [(.int (x_ 0))])) _
    refine XS.aloadN X0.here hx rfl (hb hby d14_18) rfl rfl ?_
    show Steps p.tables e below (s₁.setTop (mkF m 19 #[.val (.ref p0), .val (.ref p1), .val (.int (0 : Int32))] [(.ref p1), (.int (x_ 0))])) _
    refine XS.iloadN X0.here hx rfl (hb hby d14_19) rfl  ?_
    show Steps p.tables e below (s₁.setTop (mkF m 20 #[.val (.ref p0), .val (.ref p1), .val (.int (0 : Int32))] [(.int (0 : Int32)), (.ref p1), (.int (x_ 0))])) _
    refine own_ldB X0 hx hZ e0 A_p1 (j := (0 : Int32)) (k := 0) (by decide) (by decide) (by decide) (g := (mkF m 20 #[.val (.ref p0), .val (.ref p1), .val (.int (0 : Int32))] [(.int (0 : Int32)), (.ref p1), (.int (x_ 0))])) rfl rfl (hb hby d14_20) ?_
    exact k
  by_cases hc21 : (x_ 0) = (y_ 0)
  · have pre2 : ∀ t, Steps p.tables e below (s₁.setTop (mkF m 21 #[.val (.ref p0), .val (.ref p1), .val (.int (1 : Int32))] [(.int (y_ 1)), (.int (x_ 1))])) t → Steps p.tables e below (s₁.setTop (entryFrame m #[(.ref p0), (.ref p1)] 3)) t := by
      intro t k
      refine pre1 t ?_
      show Steps p.tables e below (s₁.setTop (mkF m 21 #[.val (.ref p0), .val (.ref p1), .val (.int (0 : Int32))] [(.int (y_ 0)), (.int (x_ 0))])) _
      refine XS.icmpYes X0.here hx rfl (pc0 := 21) (pc' := 26) rfl (hb hby d14_21) rfl (teq hc21).1 (by decide) (by decide) ?_
      show Steps p.tables e below (s₁.setTop (mkF m 26 #[.val (.ref p0), .val (.ref p1), .val (.int (0 : Int32))] [])) _
      refine XS.iinc X0.here hx rfl (hb hby d14_26) rfl (l' := #[.val (.ref p0), .val (.ref p1), .val (.int (1 : Int32))]) rfl ?_
      show Steps p.tables e below (s₁.setTop (mkF m 29 #[.val (.ref p0), .val (.ref p1), .val (.int (1 : Int32))] [])) _
      refine XS.goto X0.here hx rfl (pc0 := 29) (pc' := 9) rfl (hb hby d14_29) (by decide) (by decide) ?_
      show Steps p.tables e below (s₁.setTop (mkF m 9 #[.val (.ref p0), .val (.ref p1), .val (.int (1 : Int32))] [])) _
      refine XS.iloadN X0.here hx rfl (hb hby d14_9) rfl  ?_
      show Steps p.tables e below (s₁.setTop (mkF m 10 #[.val (.ref p0), .val (.ref p1), .val (.int (1 : Int32))] [(.int (1 : Int32))])) _
      refine XS.aloadN X0.here hx rfl (hb hby d14_10) rfl rfl ?_
      show Steps p.tables e below (s₁.setTop (mkF m 11 #[.val (.ref p0), .val (.ref p1), .val (.int (1 : Int32))] [(.ref p0), (.int (1 : Int32))])) _
      refine own_len X0 hx hZ e0 A_p0 (z := (2 : Int32)) rfl (g := (mkF m 11 #[.val (.ref p0), .val (.ref p1), .val (.int (1 : Int32))] [(.ref p0), (.int (1 : Int32))])) rfl rfl (hb hby d14_11) ?_
      show Steps p.tables e below (s₁.setTop (mkF m 12 #[.val (.ref p0), .val (.ref p1), .val (.int (1 : Int32))] [(.int (2 : Int32)), (.int (1 : Int32))])) _
      refine XS.icmpNo X0.here hx rfl (hb hby d14_12) rfl (tlt (by decide : (1 : Int32) < (2 : Int32))).2.1 ?_
      show Steps p.tables e below (s₁.setTop (mkF m 15 #[.val (.ref p0), .val (.ref p1), .val (.int (1 : Int32))] [])) _
      refine XS.aloadN X0.here hx rfl (hb hby d14_15) rfl rfl ?_
      show Steps p.tables e below (s₁.setTop (mkF m 16 #[.val (.ref p0), .val (.ref p1), .val (.int (1 : Int32))] [(.ref p0)])) _
      refine XS.iloadN X0.here hx rfl (hb hby d14_16) rfl  ?_
      show Steps p.tables e below (s₁.setTop (mkF m 17 #[.val (.ref p0), .val (.ref p1), .val (.int (1 : Int32))] [(.int (1 : Int32)), (.ref p0)])) _
      refine own_ldB X0 hx hZ e0 A_p0 (j := (1 : Int32)) (k := 1) (by decide) (by decide) (by decide) (g := (mkF m 17 #[.val (.ref p0), .val (.ref p1), .val (.int (1 : Int32))] [(.int (1 : Int32)), (.ref p0)])) rfl rfl (hb hby d14_17) ?_
      show Steps p.tables e below (s₁.setTop (mkF m 18 #[.val (.ref p0), .val (.ref p1), .val (.int (1 : Int32))] [(.int (x_ 1))])) _
      refine XS.aloadN X0.here hx rfl (hb hby d14_18) rfl rfl ?_
      show Steps p.tables e below (s₁.setTop (mkF m 19 #[.val (.ref p0), .val (.ref p1), .val (.int (1 : Int32))] [(.ref p1), (.int (x_ 1))])) _
      refine XS.iloadN X0.here hx rfl (hb hby d14_19) rfl  ?_
      show Steps p.tables e below (s₁.setTop (mkF m 20 #[.val (.ref p0), .val (.ref p1), .val (.int (1 : Int32))] [(.int (1 : Int32)), (.ref p1), (.int (x_ 1))])) _
      refine own_ldB X0 hx hZ e0 A_p1 (j := (1 : Int32)) (k := 1) (by decide) (by decide) (by decide) (g := (mkF m 20 #[.val (.ref p0), .val (.ref p1), .val (.int (1 : Int32))] [(.int (1 : Int32)), (.ref p1), (.int (x_ 1))])) rfl rfl (hb hby d14_20) ?_
      exact k
    by_cases hc21_3 : (x_ 1) = (y_ 1)
    · obtain ⟨fs, hr, hrun, hended, hW, hsame⟩ := X0.leave (v := some (.int (1 : Int32))) (fun h => by rw [Bd.returns] at h; cases h) (BodyLoose.notSynchronized Bd)
      refine ⟨_, _, pre2 _ ?_, hrun, hended, _, _, rfl, ?_, ⟨_, rfl⟩, hW, hsame.mono (by decide) (by decide)⟩
      · show Steps p.tables e below (s₁.setTop (mkF m 21 #[.val (.ref p0), .val (.ref p1), .val (.int (1 : Int32))] [(.int (y_ 1)), (.int (x_ 1))])) _
        refine XS.icmpYes X0.here hx rfl (pc0 := 21) (pc' := 26) rfl (hb hby d14_21) rfl (teq hc21_3).1 (by decide) (by decide) ?_
        show Steps p.tables e below (s₁.setTop (mkF m 26 #[.val (.ref p0), .val (.ref p1), .val (.int (1 : Int32))] [])) _
        refine XS.iinc X0.here hx rfl (hb hby d14_26) rfl (l' := #[.val (.ref p0), .val (.ref p1), .val (.int (2 : Int32))]) rfl ?_
        show Steps p.tables e below (s₁.setTop (mkF m 29 #[.val (.ref p0), .val (.ref p1), .val (.int (2 : Int32))] [])) _
        refine XS.goto X0.here hx rfl (pc0 := 29) (pc' := 9) rfl (hb hby d14_29) (by decide) (by decide) ?_
        show Steps p.tables e below (s₁.setTop (mkF m 9 #[.val (.ref p0), .val (.ref p1), .val (.int (2 : Int32))] [])) _
        refine XS.iloadN X0.here hx rfl (hb hby d14_9) rfl  ?_
        show Steps p.tables e below (s₁.setTop (mkF m 10 #[.val (.ref p0), .val (.ref p1), .val (.int (2 : Int32))] [(.int (2 : Int32))])) _
        refine XS.aloadN X0.here hx rfl (hb hby d14_10) rfl rfl ?_
        show Steps p.tables e below (s₁.setTop (mkF m 11 #[.val (.ref p0), .val (.ref p1), .val (.int (2 : Int32))] [(.ref p0), (.int (2 : Int32))])) _
        refine own_len X0 hx hZ e0 A_p0 (z := (2 : Int32)) rfl (g := (mkF m 11 #[.val (.ref p0), .val (.ref p1), .val (.int (2 : Int32))] [(.ref p0), (.int (2 : Int32))])) rfl rfl (hb hby d14_11) ?_
        show Steps p.tables e below (s₁.setTop (mkF m 12 #[.val (.ref p0), .val (.ref p1), .val (.int (2 : Int32))] [(.int (2 : Int32)), (.int (2 : Int32))])) _
        refine XS.icmpYes X0.here hx rfl (pc0 := 12) (pc' := 32) rfl (hb hby d14_12) rfl (flt (by decide : ¬ ((2 : Int32) < (2 : Int32)))).2.1 (by decide) (by decide) ?_
        show Steps p.tables e below (s₁.setTop (mkF m 32 #[.val (.ref p0), .val (.ref p1), .val (.int (2 : Int32))] [])) _
        refine XS.iconst X0.here hx rfl (hb hby d14_32) ?_
        show Steps p.tables e below (s₁.setTop (mkF m 33 #[.val (.ref p0), .val (.ref p1), .val (.int (2 : Int32))] [(.int (1 : Int32))])) _
        exact retN X0 hx (t := .boolean) Bd.returns (by simp) (hb hby d14_33) hr
      · show Q_14e2 Z p0 p1 x_ y_ h0 n0 _ s₁.heap _
        rw [e0]
        exact ⟨congrArg (fun z => some (Value.int z)) (by exact ((if_pos hc21).trans (if_pos hc21_3)).symm : (1 : Int32) = f_14e2 x_ y_), N0, rfl⟩
    · obtain ⟨fs, hr, hrun, hended, hW, hsame⟩ := X0.leave (v := some (.int (0 : Int32))) (fun h => by rw [Bd.returns] at h; cases h) (BodyLoose.notSynchronized Bd)
      refine ⟨_, _, pre2 _ ?_, hrun, hended, _, _, rfl, ?_, ⟨_, rfl⟩, hW, hsame.mono (by decide) (by decide)⟩
      · show Steps p.tables e below (s₁.setTop (mkF m 21 #[.val (.ref p0), .val (.ref p1), .val (.int (1 : Int32))] [(.int (y_ 1)), (.int (x_ 1))])) _
        refine XS.icmpNo X0.here hx rfl (hb hby d14_21) rfl (feq hc21_3).1 ?_
        show Steps p.tables e below (s₁.setTop (mkF m 24 #[.val (.ref p0), .val (.ref p1), .val (.int (1 : Int32))] [])) _
        refine XS.iconst X0.here hx rfl (hb hby d14_24) ?_
        show Steps p.tables e below (s₁.setTop (mkF m 25 #[.val (.ref p0), .val (.ref p1), .val (.int (1 : Int32))] [(.int (0 : Int32))])) _
        exact retN X0 hx (t := .boolean) Bd.returns (by simp) (hb hby d14_25) hr
      · show Q_14e2 Z p0 p1 x_ y_ h0 n0 _ s₁.heap _
        rw [e0]
        exact ⟨congrArg (fun z => some (Value.int z)) (by exact ((if_pos hc21).trans (if_neg hc21_3)).symm : (0 : Int32) = f_14e2 x_ y_), N0, rfl⟩
  · obtain ⟨fs, hr, hrun, hended, hW, hsame⟩ := X0.leave (v := some (.int (0 : Int32))) (fun h => by rw [Bd.returns] at h; cases h) (BodyLoose.notSynchronized Bd)
    refine ⟨_, _, pre1 _ ?_, hrun, hended, _, _, rfl, ?_, ⟨_, rfl⟩, hW, hsame.mono (by decide) (by decide)⟩
    · show Steps p.tables e below (s₁.setTop (mkF m 21 #[.val (.ref p0), .val (.ref p1), .val (.int (0 : Int32))] [(.int (y_ 0)), (.int (x_ 0))])) _
      refine XS.icmpNo X0.here hx rfl (hb hby d14_21) rfl (feq hc21).1 ?_
      show Steps p.tables e below (s₁.setTop (mkF m 24 #[.val (.ref p0), .val (.ref p1), .val (.int (0 : Int32))] [])) _
      refine XS.iconst X0.here hx rfl (hb hby d14_24) ?_
      show Steps p.tables e below (s₁.setTop (mkF m 25 #[.val (.ref p0), .val (.ref p1), .val (.int (0 : Int32))] [(.int (0 : Int32))])) _
      exact retN X0 hx (t := .boolean) Bd.returns (by simp) (hb hby d14_25) hr
    · show Q_14e2 Z p0 p1 x_ y_ h0 n0 _ s₁.heap _
      rw [e0]
      exact ⟨congrArg (fun z => some (Value.int z)) (by exact (if_neg hc21).symm : (0 : Int32) = f_14e2 x_ y_), N0, rfl⟩
theorem ef_13e2 (m : MethodId) (p0 : Addr) (p1 : Addr) : entryFrame m #[(.ref p0), (.ref p1)] 3 = mkF m 0 #[.val (.ref p0), .val (.ref p1), .unset] [] := by first | (simp [entryFrame, mkF, argsToLocals, Value.category]; done) | rfl
def f_13e2 (cs_ : Int32) (x_ : Nat → Int32) (y_ : Nat → Int32) : Int32 := let ms0_55 : Int32 := (if (f_14e2 x_ y_) = (0 : Int32) then (0 : Int32) else (1 : Int32)); ms0_55
def Q_13e2 (Z : State) (p0 : Addr) (p1 : Addr) (cs_ : Int32) (v0_ : Addr) (v1_ : Addr) (x_ : Nat → Int32) (y_ : Nat → Int32) (h0 : Heap) (n0 : Nat) (v : Option Value) (h : Heap) (L : List Loc) : Prop := v = some (.int (f_13e2 cs_ x_ y_)) ∧ Fr n0 L ∧ h = h0
set_option maxRecDepth 65536 in
set_option maxHeartbeats 40000000 in
theorem rm_13e2 (l : Launch) (Z : State) (a0 : Array Value) (hw : ∀ d ∈ tables_1, d.before a0 Z = true) (ws : List Jvm.Cond) (p0 : Addr) (p1 : Addr) (cs_ : Int32) (v0_ : Addr) (v1_ : Addr) (x_ : Nat → Int32) (y_ : Nat → Int32) (h0 : Heap) (n0 : Nat) (Z0 : n0 ≤ h0.size) (ne_p0_p1 : p0 ≠ p1) (E_p1 : Exa Z h0 p1 "java/lang/String") (S_COMPACT_STRINGS : Sta Z h0 "java/lang/String" "COMPACT_STRINGS" "Z" (.int cs_)) (hcs : ¬ (cs_ = (0 : Int32))) (F_p0_value : Fld Z h0 p0 "java/lang/String" "value" "[B" (.ref v0_)) (F_p0_coder : Fld Z h0 p0 "java/lang/String" "coder" "B" (.int (0 : Int32))) (F_p1_value : Fld Z h0 p1 "java/lang/String" "value" "[B" (.ref v1_)) (F_p1_coder : Fld Z h0 p1 "java/lang/String" "coder" "B" (.int (0 : Int32))) (A_v0_ : own_A Z h0 v0_ .byte 2 (fun i => .int (x_ i))) (A_v1_ : own_A Z h0 v1_ .byte 2 (fun i => .int (y_ i))) :
    MetFree l (⟨"java/lang/String", "equals", "(Ljava/lang/Object;)Z"⟩ : MethodName) (head1 (Jvm.Cond.code (⟨"java/lang/String", "equals", "(Ljava/lang/Object;)Z"⟩ : MethodName) jdk_42_method_66_code 3 (some .boolean) :: ws) ({ frames := 1, cells := 0, slots := 0, locals := 14 } : Room)) (fun a U => a = #[(.ref p0), (.ref p1)] ∧ Z.Warmed39 U.vm ∧ U.heap = h0) (fun _ _ _ _ _ => True) (fun _ U o U' => ∃ v L, o = .returned v ∧ Q_13e2 Z p0 p1 cs_ v0_ v1_ x_ y_ h0 n0 v U'.heap L ∧ FrameEnd U o U' L ({ frames := 1, cells := 0, slots := 0, locals := 14 } : Room).cells ({ frames := 1, cells := 0, slots := 0, locals := 14 } : Room).slots) := by
  refine MetFree.of_bodySF (plainFor_of_name pn_13) hisR ?_
  intro p e s m args below meth c s₁ Bd hml0 hP hK
  obtain ⟨rfl, hZ, hh⟩ := hP
  have hx := Bd.exec
  have hby := Bd.bytes
  have hml : c.maxLocals = 3 := hml0
  have hown : s.vm.findClass "java/lang/String" = some m.cls := findClass_of_methodNamed Bd.named
  have hnm := (name_of_methodNamed Bd.named Bd.method).1
  have X0 : Stand p l e ({ frames := 1, cells := 0, slots := 0, locals := 14 } : Room) s m #[(.ref p0), (.ref p1)] below meth c s₁ [] 0 0 := Stand.of_body Bd
  have e0 : s₁.heap = h0 := by rw [← hh, Bd.state]; rfl
  have N0 := Fr.nil n0
  have K0 : Keep h0 h0 [] := Keep.refl h0 _
  have pre0 : ∀ t, Steps p.tables e below (s₁.setTop (mkF m 0 #[.val (.ref p0), .val (.ref p1), .unset] [])) t → Steps p.tables e below (s₁.setTop (entryFrame m #[(.ref p0), (.ref p1)] 3)) t := fun t k => castTop (ef_13e2 m p0 p1) k
  have pre1 : ∀ t, Steps p.tables e below (s₁.setTop (mkF m 8 #[.val (.ref p0), .val (.ref p1), .unset] [(.ref p1)])) t → Steps p.tables e below (s₁.setTop (entryFrame m #[(.ref p0), (.ref p1)] 3)) t := by
    intro t k
    refine pre0 t ?_
    show Steps p.tables e below (s₁.setTop (mkF m 0 #[.val (.ref p0), .val (.ref p1), .unset] [])) _
    refine XS.aloadN X0.here hx rfl (hb hby d13_0) rfl rfl ?_
    show Steps p.tables e below (s₁.setTop (mkF m 1 #[.val (.ref p0), .val (.ref p1), .unset] [(.ref p0)])) _
    refine XS.aloadN X0.here hx rfl (hb hby d13_1) rfl rfl ?_
    show Steps p.tables e below (s₁.setTop (mkF m 2 #[.val (.ref p0), .val (.ref p1), .unset] [(.ref p1), (.ref p0)])) _
    refine Jvm.RoadKit.acmp (g := (mkF m 2 #[.val (.ref p0), .val (.ref p1), .unset] [(.ref p1), (.ref p0)])) X0 hx rfl rfl rfl (pc0 := 2) (pc' := 7) (same := false) rfl (hb hby d13_2) rfl (decide_eq_false fun q => (ne_p0_p1 : p0 ≠ p1) (Value.ref.inj q)) (by decide) (by decide) ?_
    show Steps p.tables e below (s₁.setTop (mkF m 7 #[.val (.ref p0), .val (.ref p1), .unset] [])) _
    refine XS.aloadN X0.here hx rfl (hb hby d13_7) rfl rfl ?_
    exact k
  obtain ⟨T2, X2, e2, st2⟩ := instY X0 hx hZ hown (hw _ (List.mem_of_getElem? (i := 73) rfl)) e0 (Ins.self E_p1) (g := (mkF m 8 #[.val (.ref p0), .val (.ref p1), .unset] [(.ref p1)])) rfl rfl (hb hby d13_8)
  have pre3 : ∀ t, Steps p.tables e below (T2.setTop (mkF m 15 #[.val (.ref p0), .val (.ref p1), .unset] [(.ref p1)])) t → Steps p.tables e below (s₁.setTop (entryFrame m #[(.ref p0), (.ref p1)] 3)) t := by
    intro t k
    refine pre1 t ?_
    show Steps p.tables e below (s₁.setTop (mkF m 8 #[.val (.ref p0), .val (.ref p1), .unset] [(.ref p1)])) _
    refine st2 _ ?_
    show Steps p.tables e below (T2.setTop (mkF m 11 #[.val (.ref p0), .val (.ref p1), .unset] [(.int (1 : Int32))])) _
    refine XS.ifNo X2.here hx rfl (hb hby d13_11) rfl ((if0 _ _).trans (feq (by decide : ¬ ((1 : Int32) = (0 : Int32)))).1) ?_
    show Steps p.tables e below (T2.setTop (mkF m 14 #[.val (.ref p0), .val (.ref p1), .unset] [])) _
    refine XS.aloadN X2.here hx rfl (hb hby d13_14) rfl rfl ?_
    exact k
  obtain ⟨T4, X4, e4, st4⟩ := castY X2 hx hZ hown (hw _ (List.mem_of_getElem? (i := 73) rfl)) e2 (Ins.self E_p1) (g := (mkF m 15 #[.val (.ref p0), .val (.ref p1), .unset] [(.ref p1)])) rfl rfl (hb hby d13_15)
  have pre5 : ∀ t, Steps p.tables e below (T4.setTop (mkF m 19 #[.val (.ref p0), .val (.ref p1), .val (.ref p1)] [])) t → Steps p.tables e below (s₁.setTop (entryFrame m #[(.ref p0), (.ref p1)] 3)) t := by
    intro t k
    refine pre3 t ?_
    show Steps p.tables e below (T2.setTop (mkF m 15 #[.val (.ref p0), .val (.ref p1), .unset] [(.ref p1)])) _
    refine st4 _ ?_
    show Steps p.tables e below (T4.setTop (mkF m 18 #[.val (.ref p0), .val (.ref p1), .unset] [(.ref p1)])) _
    refine XS.astoreN X4.here hx rfl (hb hby d13_18) rfl rfl (l' := #[.val (.ref p0), .val (.ref p1), .val (.ref p1)]) rfl ?_
    exact k
  obtain ⟨T6, X6, e6, st6⟩ := getS2 X4 hx hZ hown (host := "") (Or.inl (hw _ (List.mem_of_getElem? (i := 23) rfl))) Via.refl e4 S_COMPACT_STRINGS (g := (mkF m 19 #[.val (.ref p0), .val (.ref p1), .val (.ref p1)] [])) rfl (hb hby d13_19)
  have pre7 : ∀ t, Steps p.tables e below (T6.setTop (mkF m 26 #[.val (.ref p0), .val (.ref p1), .val (.ref p1)] [(.ref p0)])) t → Steps p.tables e below (s₁.setTop (entryFrame m #[(.ref p0), (.ref p1)] 3)) t := by
    intro t k
    refine pre5 t ?_
    show Steps p.tables e below (T4.setTop (mkF m 19 #[.val (.ref p0), .val (.ref p1), .val (.ref p1)] [])) _
    refine st6 _ ?_
    show Steps p.tables e below (T6.setTop (mkF m 22 #[.val (.ref p0), .val (.ref p1), .val (.ref p1)] [(.int cs_)])) _
    refine XS.ifNo X6.here hx rfl (hb hby d13_22) rfl ((if0 _ _).trans (feq (hcs : ¬ (cs_ = (0 : Int32)))).1) ?_
    show Steps p.tables e below (T6.setTop (mkF m 25 #[.val (.ref p0), .val (.ref p1), .val (.ref p1)] [])) _
    refine XS.aloadN X6.here hx rfl (hb hby d13_25) rfl rfl ?_
    exact k
  obtain ⟨T8, X8, e8, st8⟩ := getF X6 hx hZ hown (host := "") (Or.inl (hw _ (List.mem_of_getElem? (i := 35) rfl))) Via.refl e6 F_p0_coder (g := (mkF m 26 #[.val (.ref p0), .val (.ref p1), .val (.ref p1)] [(.ref p0)])) rfl rfl (hb hby d13_26)
  have pre9 : ∀ t, Steps p.tables e below (T8.setTop (mkF m 30 #[.val (.ref p0), .val (.ref p1), .val (.ref p1)] [(.ref p1), (.int (0 : Int32))])) t → Steps p.tables e below (s₁.setTop (entryFrame m #[(.ref p0), (.ref p1)] 3)) t := by
    intro t k
    refine pre7 t ?_
    show Steps p.tables e below (T6.setTop (mkF m 26 #[.val (.ref p0), .val (.ref p1), .val (.ref p1)] [(.ref p0)])) _
    refine st8 _ ?_
    show Steps p.tables e below (T8.setTop (mkF m 29 #[.val (.ref p0), .val (.ref p1), .val (.ref p1)] [(.int (0 : Int32))])) _
    refine XS.aloadN X8.here hx rfl (hb hby d13_29) rfl rfl ?_
    exact k
  obtain ⟨T10, X10, e10, st10⟩ := getF X8 hx hZ hown (host := "") (Or.inl (hw _ (List.mem_of_getElem? (i := 35) rfl))) Via.refl e8 F_p1_coder (g := (mkF m 30 #[.val (.ref p0), .val (.ref p1), .val (.ref p1)] [(.ref p1), (.int (0 : Int32))])) rfl rfl (hb hby d13_30)
  have pre11 : ∀ t, Steps p.tables e below (T10.setTop (mkF m 37 #[.val (.ref p0), .val (.ref p1), .val (.ref p1)] [(.ref p0)])) t → Steps p.tables e below (s₁.setTop (entryFrame m #[(.ref p0), (.ref p1)] 3)) t := by
    intro t k
    refine pre9 t ?_
    show Steps p.tables e below (T8.setTop (mkF m 30 #[.val (.ref p0), .val (.ref p1), .val (.ref p1)] [(.ref p1), (.int (0 : Int32))])) _
    refine st10 _ ?_
    show Steps p.tables e below (T10.setTop (mkF m 33 #[.val (.ref p0), .val (.ref p1), .val (.ref p1)] [(.int (0 : Int32)), (.int (0 : Int32))])) _
    refine XS.icmpNo X10.here hx rfl (hb hby d13_33) rfl (teq (by decide : (0 : Int32) = (0 : Int32))).2 ?_
    show Steps p.tables e below (T10.setTop (mkF m 36 #[.val (.ref p0), .val (.ref p1), .val (.ref p1)] [])) _
    refine XS.aloadN X10.here hx rfl (hb hby d13_36) rfl rfl ?_
    exact k
  obtain ⟨T12, X12, e12, st12⟩ := getF X10 hx hZ hown (host := "") (Or.inl (hw _ (List.mem_of_getElem? (i := 37) rfl))) Via.refl e10 F_p0_value (g := (mkF m 37 #[.val (.ref p0), .val (.ref p1), .val (.ref p1)] [(.ref p0)])) rfl rfl (hb hby d13_37)
  have pre13 : ∀ t, Steps p.tables e below (T12.setTop (mkF m 41 #[.val (.ref p0), .val (.ref p1), .val (.ref p1)] [(.ref p1), (.ref v0_)])) t → Steps p.tables e below (s₁.setTop (entryFrame m #[(.ref p0), (.ref p1)] 3)) t := by
    intro t k
    refine pre11 t ?_
    show Steps p.tables e below (T10.setTop (mkF m 37 #[.val (.ref p0), .val (.ref p1), .val (.ref p1)] [(.ref p0)])) _
    refine st12 _ ?_
    show Steps p.tables e below (T12.setTop (mkF m 40 #[.val (.ref p0), .val (.ref p1), .val (.ref p1)] [(.ref v0_)])) _
    refine XS.aloadN X12.here hx rfl (hb hby d13_40) rfl rfl ?_
    exact k
  obtain ⟨T14, X14, e14, st14⟩ := getF X12 hx hZ hown (host := "") (Or.inl (hw _ (List.mem_of_getElem? (i := 37) rfl))) Via.refl e12 F_p1_value (g := (mkF m 41 #[.val (.ref p0), .val (.ref p1), .val (.ref p1)] [(.ref p1), (.ref v0_)])) rfl rfl (hb hby d13_41)
  have pre16 : ∀ t, Steps p.tables e below (T14.setTop (mkF m 44 #[.val (.ref p0), .val (.ref p1), .val (.ref p1)] [(.ref v1_), (.ref v0_)])) t → Steps p.tables e below (s₁.setTop (entryFrame m #[(.ref p0), (.ref p1)] 3)) t := by
    intro t k
    refine pre13 t ?_
    show Steps p.tables e below (T12.setTop (mkF m 41 #[.val (.ref p0), .val (.ref p1), .val (.ref p1)] [(.ref p1), (.ref v0_)])) _
    refine st14 _ ?_
    exact k
  obtain ⟨_, _, ⟨T15, L15, k15, n15⟩, -, X15, ⟨Lc15, hQ15, l15, y15, z15⟩, st15⟩ := Jvm.LawKit.callS X14 hx (y := (⟨"java/lang/StringLatin1", "equals", "([B[B)Z"⟩ : MethodName)) hown (mvT hZ (hw _ (List.mem_of_getElem? (i := 74) rfl))) (mvT hZ (hw _ (List.mem_of_getElem? (i := 75) rfl))) (mvT hZ (hw _ (List.mem_of_getElem? (i := 76) rfl))) (mvT hZ (hw _ (List.mem_of_getElem? (i := 77) rfl))) (by decide) (backOf (W := 0) (rm_14e2 l Z a0 hw [] v0_ v1_ x_ y_ h0 n0 Z0 A_v0_ A_v1_) hZ (hw _ (List.mem_of_getElem? (i := 77) rfl)) (hw _ (List.mem_of_getElem? (i := 76) rfl)) (by decide) (by decide)) (g := (mkF m 44 #[.val (.ref p0), .val (.ref p1), .val (.ref p1)] [(.ref v1_), (.ref v0_)])) rfl (by rw [hml]; rfl) (argsL := [(.ref v0_), (.ref v1_)]) (rest := []) (lenOf pd_6 rfl) rfl (by show 2 * 0 + _ ≤ _; exact Nat.le_of_eq rfl) (hb hby d13_44) (fun _ _ => ⟨rfl, e14, (by decide : 0 + 0 ≤ _), (by decide : 0 + 0 ≤ _)⟩)
  dsimp only [Pt.U, Pt.locs, Pt.cells, Pt.slots] at X15 l15 y15 z15 st15 hQ15
  rw [l15, y15, z15] at X15
  obtain ⟨rfl, N15q, e15⟩ := hQ15
  have N15 := Fr.app N0 N15q
  have pre17 : ∀ t, Steps p.tables e below (T15.setTop (mkF m 47 #[.val (.ref p0), .val (.ref p1), .val (.ref p1)] [(.int (f_14e2 x_ y_))])) t → Steps p.tables e below (s₁.setTop (entryFrame m #[(.ref p0), (.ref p1)] 3)) t := by
    intro t k
    refine pre16 t ?_
    show Steps p.tables e below (T14.setTop (mkF m 44 #[.val (.ref p0), .val (.ref p1), .val (.ref p1)] [(.ref v1_), (.ref v0_)])) _
    refine st15 _ ?_
    exact k
  obtain ⟨ms0_55, hms0_55⟩ : ∃ z : Int32, z = (if (f_14e2 x_ y_) = (0 : Int32) then (0 : Int32) else (1 : Int32)) := ⟨_, rfl⟩
  have pre18 : ∀ t, Steps p.tables e below (T15.setTop (mkF m 55 #[.val (.ref p0), .val (.ref p1), .val (.ref p1)] [(.int ms0_55)])) t → Steps p.tables e below (s₁.setTop (entryFrame m #[(.ref p0), (.ref p1)] 3)) t := by
    intro t k
    refine pre17 t ?_
    by_cases hc47 : (f_14e2 x_ y_) = (0 : Int32)
    · show Steps p.tables e below (T15.setTop (mkF m 47 #[.val (.ref p0), .val (.ref p1), .val (.ref p1)] [(.int (f_14e2 x_ y_))])) _
      refine XS.ifYes X15.here hx rfl (pc0 := 47) (pc' := 54) rfl (hb hby d13_47) rfl ((if0 _ _).trans (teq hc47).1) (by decide) (by decide) ?_
      show Steps p.tables e below (T15.setTop (mkF m 54 #[.val (.ref p0), .val (.ref p1), .val (.ref p1)] [])) _
      refine XS.iconst X15.here hx rfl (hb hby d13_54) ?_
      have qms0_55 : ms0_55 = (0 : Int32) := by rw [hms0_55, if_pos hc47]
      rw [qms0_55] at k
      exact k
    · show Steps p.tables e below (T15.setTop (mkF m 47 #[.val (.ref p0), .val (.ref p1), .val (.ref p1)] [(.int (f_14e2 x_ y_))])) _
      refine XS.ifNo X15.here hx rfl (hb hby d13_47) rfl ((if0 _ _).trans (feq hc47).1) ?_
      show Steps p.tables e below (T15.setTop (mkF m 50 #[.val (.ref p0), .val (.ref p1), .val (.ref p1)] [])) _
      refine XS.iconst X15.here hx rfl (hb hby d13_50) ?_
      show Steps p.tables e below (T15.setTop (mkF m 51 #[.val (.ref p0), .val (.ref p1), .val (.ref p1)] [(.int (1 : Int32))])) _
      refine XS.goto X15.here hx rfl (pc0 := 51) (pc' := 55) rfl (hb hby d13_51) (by decide) (by decide) ?_
      have qms0_55 : ms0_55 = (1 : Int32) := by rw [hms0_55, if_neg hc47]
      rw [qms0_55] at k
      exact k
  have hnar : nar .boolean ms0_55 = ms0_55 := by rw [hms0_55]; (repeat' split) <;> rfl
  obtain ⟨fs, hr, hrun, hended, hW, hsame⟩ := X15.leave (v := some (.int ms0_55)) (fun h => by rw [Bd.returns] at h; cases h) (BodyLoose.notSynchronized Bd)
  refine ⟨_, _, pre18 _ ?_, hrun, hended, _, _, rfl, ?_, ⟨_, rfl⟩, hW, hsame.mono (by decide) (by decide)⟩
  · show Steps p.tables e below (T15.setTop (mkF m 55 #[.val (.ref p0), .val (.ref p1), .val (.ref p1)] [(.int ms0_55)])) _
    exact retN X15 hx (t := .boolean) Bd.returns (by simp) (hb hby d13_55) (by rw [hnar]; exact hr)
  · show Q_13e2 Z p0 p1 cs_ v0_ v1_ x_ y_ h0 n0 _ T15.heap _
    rw [e15]
    exact ⟨congrArg (fun z => some (Value.int z)) (by subst hms0_55; rfl : ms0_55 = f_13e2 cs_ x_ y_), N15, rfl⟩
theorem ef_12e2 (m : MethodId) (p0 : Addr) (p1 : Addr) : entryFrame m #[(.ref p0), (.ref p1)] 3 = mkF m 0 #[.val (.ref p0), .val (.ref p1), .unset] [] := by first | (simp [entryFrame, mkF, argsToLocals, Value.category]; done) | rfl
def f_12e2 (i0_ : Int32) (i1_ : Int32) (cs_ : Int32) (x_ : Nat → Int32) (y_ : Nat → Int32) : Int32 := (if (f_13e2 cs_ x_ y_) = (0 : Int32) then (0 : Int32) else let ms0_44 : Int32 := (if i0_ = i1_ then (1 : Int32) else (0 : Int32)); ms0_44)
def Q_12e2 (Z : State) (p0 : Addr) (p1 : Addr) (s0_ : Addr) (i0_ : Int32) (s1_ : Addr) (i1_ : Int32) (cs_ : Int32) (v0_ : Addr) (v1_ : Addr) (x_ : Nat → Int32) (y_ : Nat → Int32) (h0 : Heap) (n0 : Nat) (v : Option Value) (h : Heap) (L : List Loc) : Prop := v = some (.int (f_12e2 i0_ i1_ cs_ x_ y_)) ∧ Fr n0 L ∧ h = h0
set_option maxRecDepth 65536 in
set_option maxHeartbeats 40000000 in
theorem rm_12e2 (l : Launch) (Z : State) (a0 : Array Value) (hw : ∀ d ∈ tables_1, d.before a0 Z = true) (ws : List Jvm.Cond) (p0 : Addr) (p1 : Addr) (s0_ : Addr) (i0_ : Int32) (s1_ : Addr) (i1_ : Int32) (cs_ : Int32) (v0_ : Addr) (v1_ : Addr) (x_ : Nat → Int32) (y_ : Nat → Int32) (h0 : Heap) (n0 : Nat) (Z0 : n0 ≤ h0.size) (ne_p0_p1 : p0 ≠ p1) (E_p1 : Exa Z h0 p1 "com/example/sequeue/sequeue/route/MessageQueue") (F_p0_brokerName : Fld Z h0 p0 "com/example/sequeue/sequeue/route/MessageQueue" "brokerName" "Ljava/lang/String;" (.ref s0_)) (F_p0_queueId : Fld Z h0 p0 "com/example/sequeue/sequeue/route/MessageQueue" "queueId" "I" (.int i0_)) (F_p1_brokerName : Fld Z h0 p1 "com/example/sequeue/sequeue/route/MessageQueue" "brokerName" "Ljava/lang/String;" (.ref s1_)) (F_p1_queueId : Fld Z h0 p1 "com/example/sequeue/sequeue/route/MessageQueue" "queueId" "I" (.int i1_)) (ne_s0__s1_ : s0_ ≠ s1_) (E_s0_ : Exa Z h0 s0_ "java/lang/String") (E_s1_ : Exa Z h0 s1_ "java/lang/String") (S_COMPACT_STRINGS : Sta Z h0 "java/lang/String" "COMPACT_STRINGS" "Z" (.int cs_)) (hcs : ¬ (cs_ = (0 : Int32))) (F_s0__value : Fld Z h0 s0_ "java/lang/String" "value" "[B" (.ref v0_)) (F_s0__coder : Fld Z h0 s0_ "java/lang/String" "coder" "B" (.int (0 : Int32))) (F_s1__value : Fld Z h0 s1_ "java/lang/String" "value" "[B" (.ref v1_)) (F_s1__coder : Fld Z h0 s1_ "java/lang/String" "coder" "B" (.int (0 : Int32))) (A_v0_ : own_A Z h0 v0_ .byte 2 (fun i => .int (x_ i))) (A_v1_ : own_A Z h0 v1_ .byte 2 (fun i => .int (y_ i))) :
    MetFree l (⟨"com/example/sequeue/sequeue/route/MessageQueue", "equals", "(Ljava/lang/Object;)Z"⟩ : MethodName) (head1 (Jvm.Cond.code (⟨"com/example/sequeue/sequeue/route/MessageQueue", "equals", "(Ljava/lang/Object;)Z"⟩ : MethodName) prog_36_method_5_code 3 (some .boolean) :: ws) ({ frames := 2, cells := 0, slots := 0, locals := 28 } : Room)) (fun a U => a = #[(.ref p0), (.ref p1)] ∧ Z.Warmed39 U.vm ∧ U.heap = h0) (fun _ _ _ _ _ => True) (fun _ U o U' => ∃ v L, o = .returned v ∧ Q_12e2 Z p0 p1 s0_ i0_ s1_ i1_ cs_ v0_ v1_ x_ y_ h0 n0 v U'.heap L ∧ FrameEnd U o U' L ({ frames := 2, cells := 0, slots := 0, locals := 28 } : Room).cells ({ frames := 2, cells := 0, slots := 0, locals := 28 } : Room).slots) := by
  refine MetFree.of_bodySF (plainFor_of_name pn_12) hisR ?_
  intro p e s m args below meth c s₁ Bd hml0 hP hK
  obtain ⟨rfl, hZ, hh⟩ := hP
  have hx := Bd.exec
  have hby := Bd.bytes
  have hml : c.maxLocals = 3 := hml0
  have hown : s.vm.findClass "com/example/sequeue/sequeue/route/MessageQueue" = some m.cls := findClass_of_methodNamed Bd.named
  have hnm := (name_of_methodNamed Bd.named Bd.method).1
  have X0 : Stand p l e ({ frames := 2, cells := 0, slots := 0, locals := 28 } : Room) s m #[(.ref p0), (.ref p1)] below meth c s₁ [] 0 0 := Stand.of_body Bd
  have e0 : s₁.heap = h0 := by rw [← hh, Bd.state]; rfl
  have N0 := Fr.nil n0
  have K0 : Keep h0 h0 [] := Keep.refl h0 _
  have pre0 : ∀ t, Steps p.tables e below (s₁.setTop (mkF m 0 #[.val (.ref p0), .val (.ref p1), .unset] [])) t → Steps p.tables e below (s₁.setTop (entryFrame m #[(.ref p0), (.ref p1)] 3)) t := fun t k => castTop (ef_12e2 m p0 p1) k
  have pre1 : ∀ t, Steps p.tables e below (s₁.setTop (mkF m 1 #[.val (.ref p0), .val (.ref p1), .unset] [(.ref p1)])) t → Steps p.tables e below (s₁.setTop (entryFrame m #[(.ref p0), (.ref p1)] 3)) t := by
    intro t k
    refine pre0 t ?_
    show Steps p.tables e below (s₁.setTop (mkF m 0 #[.val (.ref p0), .val (.ref p1), .unset] [])) _
    refine XS.aloadN X0.here hx rfl (hb hby d12_0) rfl rfl ?_
    exact k
  obtain ⟨T2, X2, e2, st2⟩ := instY X0 hx hZ hown (hw _ (List.mem_of_getElem? (i := 66) rfl)) e0 (Ins.self E_p1) (g := (mkF m 1 #[.val (.ref p0), .val (.ref p1), .unset] [(.ref p1)])) rfl rfl (hb hby d12_1)
  have pre3 : ∀ t, Steps p.tables e below (T2.setTop (mkF m 10 #[.val (.ref p0), .val (.ref p1), .unset] [(.ref p1)])) t → Steps p.tables e below (s₁.setTop (entryFrame m #[(.ref p0), (.ref p1)] 3)) t := by
    intro t k
    refine pre1 t ?_
    show Steps p.tables e below (s₁.setTop (mkF m 1 #[.val (.ref p0), .val (.ref p1), .unset] [(.ref p1)])) _
    refine st2 _ ?_
    show Steps p.tables e below (T2.setTop (mkF m 4 #[.val (.ref p0), .val (.ref p1), .unset] [(.int (1 : Int32))])) _
    refine XS.ifYes X2.here hx rfl (pc0 := 4) (pc' := 9) rfl (hb hby d12_4) rfl ((if0 _ _).trans (feq (by decide : ¬ ((1 : Int32) = (0 : Int32)))).2) (by decide) (by decide) ?_
    show Steps p.tables e below (T2.setTop (mkF m 9 #[.val (.ref p0), .val (.ref p1), .unset] [])) _
    refine XS.aloadN X2.here hx rfl (hb hby d12_9) rfl rfl ?_
    exact k
  obtain ⟨T4, X4, e4, st4⟩ := castY X2 hx hZ hown (hw _ (List.mem_of_getElem? (i := 66) rfl)) e2 (Ins.self E_p1) (g := (mkF m 10 #[.val (.ref p0), .val (.ref p1), .unset] [(.ref p1)])) rfl rfl (hb hby d12_10)
  have pre5 : ∀ t, Steps p.tables e below (T4.setTop (mkF m 15 #[.val (.ref p0), .val (.ref p1), .val (.ref p1)] [(.ref p0)])) t → Steps p.tables e below (s₁.setTop (entryFrame m #[(.ref p0), (.ref p1)] 3)) t := by
    intro t k
    refine pre3 t ?_
    show Steps p.tables e below (T2.setTop (mkF m 10 #[.val (.ref p0), .val (.ref p1), .unset] [(.ref p1)])) _
    refine st4 _ ?_
    show Steps p.tables e below (T4.setTop (mkF m 13 #[.val (.ref p0), .val (.ref p1), .unset] [(.ref p1)])) _
    refine XS.astoreN X4.here hx rfl (hb hby d12_13) rfl rfl (l' := #[.val (.ref p0), .val (.ref p1), .val (.ref p1)]) rfl ?_
    show Steps p.tables e below (T4.setTop (mkF m 14 #[.val (.ref p0), .val (.ref p1), .val (.ref p1)] [])) _
    refine XS.aloadN X4.here hx rfl (hb hby d12_14) rfl rfl ?_
    exact k
  obtain ⟨T6, X6, e6, st6⟩ := getF X4 hx hZ hown (host := "") (Or.inl (hw _ (List.mem_of_getElem? (i := 54) rfl))) Via.refl e4 F_p0_brokerName (g := (mkF m 15 #[.val (.ref p0), .val (.ref p1), .val (.ref p1)] [(.ref p0)])) rfl rfl (hb hby d12_15)
  have pre7 : ∀ t, Steps p.tables e below (T6.setTop (mkF m 19 #[.val (.ref p0), .val (.ref p1), .val (.ref p1)] [(.ref p1), (.ref s0_)])) t → Steps p.tables e below (s₁.setTop (entryFrame m #[(.ref p0), (.ref p1)] 3)) t := by
    intro t k
    refine pre5 t ?_
    show Steps p.tables e below (T4.setTop (mkF m 15 #[.val (.ref p0), .val (.ref p1), .val (.ref p1)] [(.ref p0)])) _
    refine st6 _ ?_
    show Steps p.tables e below (T6.setTop (mkF m 18 #[.val (.ref p0), .val (.ref p1), .val (.ref p1)] [(.ref s0_)])) _
    refine XS.aloadN X6.here hx rfl (hb hby d12_18) rfl rfl ?_
    exact k
  obtain ⟨T8, X8, e8, st8⟩ := getF X6 hx hZ hown (host := "") (Or.inl (hw _ (List.mem_of_getElem? (i := 54) rfl))) Via.refl e6 F_p1_brokerName (g := (mkF m 19 #[.val (.ref p0), .val (.ref p1), .val (.ref p1)] [(.ref p1), (.ref s0_)])) rfl rfl (hb hby d12_19)
  have pre10 : ∀ t, Steps p.tables e below (T8.setTop (mkF m 22 #[.val (.ref p0), .val (.ref p1), .val (.ref p1)] [(.ref s1_), (.ref s0_)])) t → Steps p.tables e below (s₁.setTop (entryFrame m #[(.ref p0), (.ref p1)] 3)) t := by
    intro t k
    refine pre7 t ?_
    show Steps p.tables e below (T6.setTop (mkF m 19 #[.val (.ref p0), .val (.ref p1), .val (.ref p1)] [(.ref p1), (.ref s0_)])) _
    refine st8 _ ?_
    exact k
  obtain ⟨cq9, kq9, q9a, q9b, q9c⟩ := isOf hZ e8 E_s0_
  obtain ⟨_, _, ⟨T9, L9, k9, n9⟩, -, X9, ⟨Lc9, hQ9, l9, y9, z9⟩, st9⟩ := X8.virtualBack hx (y := (⟨"java/lang/String", "equals", "(Ljava/lang/Object;)Z"⟩ : MethodName)) (z := (⟨"java/lang/String", "equals", "(Ljava/lang/Object;)Z"⟩ : MethodName)) hown (mvT hZ (hw _ (List.mem_of_getElem? (i := 68) rfl))) (mvT hZ (hw _ (List.mem_of_getElem? (i := 69) rfl))) (notFace_of_selects (args := #[]) (mvT hZ (hw _ (List.mem_of_getElem? (i := 71) rfl)))) (mvT hZ (hw _ (List.mem_of_getElem? (i := 71) rfl))) (mvT hZ (hw _ (List.mem_of_getElem? (i := 70) rfl))) (by decide) (backOf (W := 0) (rm_13e2 l Z a0 hw [] s0_ s1_ cs_ v0_ v1_ x_ y_ h0 n0 Z0 ne_s0__s1_ E_s1_ S_COMPACT_STRINGS hcs F_s0__value F_s0__coder F_s1__value F_s1__coder A_v0_ A_v1_) hZ (hw _ (List.mem_of_getElem? (i := 72) rfl)) (hw _ (List.mem_of_getElem? (i := 12) rfl)) (by decide) (by decide)) q9a q9c (g := (mkF m 22 #[.val (.ref p0), .val (.ref p1), .val (.ref p1)] [(.ref s1_), (.ref s0_)])) rfl (by rw [hml]; rfl) (Steps.refl _) (argsL := [(.ref s1_)]) (rest := []) (lenOf pd_7 rfl) rfl (by show 2 * 0 + _ ≤ _; exact Nat.le_of_eq rfl) (hb hby d12_22) (fun _ _ => ⟨rfl, e8, (by decide : 0 + 0 ≤ _), (by decide : 0 + 0 ≤ _)⟩)
  dsimp only [Pt.U, Pt.locs, Pt.cells, Pt.slots] at X9 l9 y9 z9 st9 hQ9
  rw [l9, y9, z9] at X9
  obtain ⟨rfl, N9q, e9⟩ := hQ9
  have N9 := Fr.app N0 N9q
  have pre11 : ∀ t, Steps p.tables e below (T9.setTop (mkF m 25 #[.val (.ref p0), .val (.ref p1), .val (.ref p1)] [(.int (f_13e2 cs_ x_ y_))])) t → Steps p.tables e below (s₁.setTop (entryFrame m #[(.ref p0), (.ref p1)] 3)) t := by
    intro t k
    refine pre10 t ?_
    show Steps p.tables e below (T8.setTop (mkF m 22 #[.val (.ref p0), .val (.ref p1), .val (.ref p1)] [(.ref s1_), (.ref s0_)])) _
    refine st9.trans ?_
    exact k
  by_cases hc25 : (f_13e2 cs_ x_ y_) = (0 : Int32)
  · obtain ⟨fs, hr, hrun, hended, hW, hsame⟩ := X9.leave (v := some (.int (0 : Int32))) (fun h => by rw [Bd.returns] at h; cases h) (BodyLoose.notSynchronized Bd)
    refine ⟨_, _, pre11 _ ?_, hrun, hended, _, _, rfl, ?_, ⟨_, rfl⟩, hW, hsame.mono (by decide) (by decide)⟩
    · show Steps p.tables e below (T9.setTop (mkF m 25 #[.val (.ref p0), .val (.ref p1), .val (.ref p1)] [(.int (f_13e2 cs_ x_ y_))])) _
      refine XS.ifYes X9.here hx rfl (pc0 := 25) (pc' := 43) rfl (hb hby d12_25) rfl ((if0 _ _).trans (teq hc25).1) (by decide) (by decide) ?_
      show Steps p.tables e below (T9.setTop (mkF m 43 #[.val (.ref p0), .val (.ref p1), .val (.ref p1)] [])) _
      refine XS.iconst X9.here hx rfl (hb hby d12_43) ?_
      show Steps p.tables e below (T9.setTop (mkF m 44 #[.val (.ref p0), .val (.ref p1), .val (.ref p1)] [(.int (0 : Int32))])) _
      exact retN X9 hx (t := .boolean) Bd.returns (by simp) (hb hby d12_44) hr
    · show Q_12e2 Z p0 p1 s0_ i0_ s1_ i1_ cs_ v0_ v1_ x_ y_ h0 n0 _ T9.heap _
      rw [e9]
      exact ⟨congrArg (fun z => some (Value.int z)) (by exact (if_pos hc25).symm : (0 : Int32) = f_12e2 i0_ i1_ cs_ x_ y_), N9, rfl⟩
  · have pre12 : ∀ t, Steps p.tables e below (T9.setTop (mkF m 29 #[.val (.ref p0), .val (.ref p1), .val (.ref p1)] [(.ref p0)])) t → Steps p.tables e below (s₁.setTop (entryFrame m #[(.ref p0), (.ref p1)] 3)) t := by
      intro t k
      refine pre11 t ?_
      show Steps p.tables e below (T9.setTop (mkF m 25 #[.val (.ref p0), .val (.ref p1), .val (.ref p1)] [(.int (f_13e2 cs_ x_ y_))])) _
      refine XS.ifNo X9.here hx rfl (hb hby d12_25) rfl ((if0 _ _).trans (feq hc25).1) ?_
      show Steps p.tables e below (T9.setTop (mkF m 28 #[.val (.ref p0), .val (.ref p1), .val (.ref p1)] [])) _
      refine XS.aloadN X9.here hx rfl (hb hby d12_28) rfl rfl ?_
      exact k
    obtain ⟨T13, X13, e13, st13⟩ := getF X9 hx hZ hown (host := "") (Or.inl (hw _ (List.mem_of_getElem? (i := 56) rfl))) Via.refl e9 F_p0_queueId (g := (mkF m 29 #[.val (.ref p0), .val (.ref p1), .val (.ref p1)] [(.ref p0)])) rfl rfl (hb hby d12_29)
    have pre14 : ∀ t, Steps p.tables e below (T13.setTop (mkF m 33 #[.val (.ref p0), .val (.ref p1), .val (.ref p1)] [(.ref p1), (.int i0_)])) t → Steps p.tables e below (s₁.setTop (entryFrame m #[(.ref p0), (.ref p1)] 3)) t := by
      intro t k
      refine pre12 t ?_
      show Steps p.tables e below (T9.setTop (mkF m 29 #[.val (.ref p0), .val (.ref p1), .val (.ref p1)] [(.ref p0)])) _
      refine st13 _ ?_
      show Steps p.tables e below (T13.setTop (mkF m 32 #[.val (.ref p0), .val (.ref p1), .val (.ref p1)] [(.int i0_)])) _
      refine XS.aloadN X13.here hx rfl (hb hby d12_32) rfl rfl ?_
      exact k
    obtain ⟨T15, X15, e15, st15⟩ := getF X13 hx hZ hown (host := "") (Or.inl (hw _ (List.mem_of_getElem? (i := 56) rfl))) Via.refl e13 F_p1_queueId (g := (mkF m 33 #[.val (.ref p0), .val (.ref p1), .val (.ref p1)] [(.ref p1), (.int i0_)])) rfl rfl (hb hby d12_33)
    have pre16 : ∀ t, Steps p.tables e below (T15.setTop (mkF m 36 #[.val (.ref p0), .val (.ref p1), .val (.ref p1)] [(.int i1_), (.int i0_)])) t → Steps p.tables e below (s₁.setTop (entryFrame m #[(.ref p0), (.ref p1)] 3)) t := by
      intro t k
      refine pre14 t ?_
      show Steps p.tables e below (T13.setTop (mkF m 33 #[.val (.ref p0), .val (.ref p1), .val (.ref p1)] [(.ref p1), (.int i0_)])) _
      refine st15 _ ?_
      exact k
    obtain ⟨ms0_44, hms0_44⟩ : ∃ z : Int32, z = (if i0_ = i1_ then (1 : Int32) else (0 : Int32)) := ⟨_, rfl⟩
    have pre17 : ∀ t, Steps p.tables e below (T15.setTop (mkF m 44 #[.val (.ref p0), .val (.ref p1), .val (.ref p1)] [(.int ms0_44)])) t → Steps p.tables e below (s₁.setTop (entryFrame m #[(.ref p0), (.ref p1)] 3)) t := by
      intro t k
      refine pre16 t ?_
      by_cases hc36 : i0_ = i1_
      · show Steps p.tables e below (T15.setTop (mkF m 36 #[.val (.ref p0), .val (.ref p1), .val (.ref p1)] [(.int i1_), (.int i0_)])) _
        refine XS.icmpNo X15.here hx rfl (hb hby d12_36) rfl (teq hc36).2 ?_
        show Steps p.tables e below (T15.setTop (mkF m 39 #[.val (.ref p0), .val (.ref p1), .val (.ref p1)] [])) _
        refine XS.iconst X15.here hx rfl (hb hby d12_39) ?_
        show Steps p.tables e below (T15.setTop (mkF m 40 #[.val (.ref p0), .val (.ref p1), .val (.ref p1)] [(.int (1 : Int32))])) _
        refine XS.goto X15.here hx rfl (pc0 := 40) (pc' := 44) rfl (hb hby d12_40) (by decide) (by decide) ?_
        have qms0_44 : ms0_44 = (1 : Int32) := by rw [hms0_44, if_pos hc36]
        rw [qms0_44] at k
        exact k
      · show Steps p.tables e below (T15.setTop (mkF m 36 #[.val (.ref p0), .val (.ref p1), .val (.ref p1)] [(.int i1_), (.int i0_)])) _
        refine XS.icmpYes X15.here hx rfl (pc0 := 36) (pc' := 43) rfl (hb hby d12_36) rfl (feq hc36).2 (by decide) (by decide) ?_
        show Steps p.tables e below (T15.setTop (mkF m 43 #[.val (.ref p0), .val (.ref p1), .val (.ref p1)] [])) _
        refine XS.iconst X15.here hx rfl (hb hby d12_43) ?_
        have qms0_44 : ms0_44 = (0 : Int32) := by rw [hms0_44, if_neg hc36]
        rw [qms0_44] at k
        exact k
    have hnar : nar .boolean ms0_44 = ms0_44 := by rw [hms0_44]; (repeat' split) <;> rfl
    obtain ⟨fs, hr, hrun, hended, hW, hsame⟩ := X15.leave (v := some (.int ms0_44)) (fun h => by rw [Bd.returns] at h; cases h) (BodyLoose.notSynchronized Bd)
    refine ⟨_, _, pre17 _ ?_, hrun, hended, _, _, rfl, ?_, ⟨_, rfl⟩, hW, hsame.mono (by decide) (by decide)⟩
    · show Steps p.tables e below (T15.setTop (mkF m 44 #[.val (.ref p0), .val (.ref p1), .val (.ref p1)] [(.int ms0_44)])) _
      exact retN X15 hx (t := .boolean) Bd.returns (by simp) (hb hby d12_44) (by rw [hnar]; exact hr)
    · show Q_12e2 Z p0 p1 s0_ i0_ s1_ i1_ cs_ v0_ v1_ x_ y_ h0 n0 _ T15.heap _
      rw [e15]
      exact ⟨congrArg (fun z => some (Value.int z)) (by subst hms0_44; exact (if_neg hc25).symm : ms0_44 = f_12e2 i0_ i1_ cs_ x_ y_), N9, rfl⟩
theorem ef_14e3 (m : MethodId) (p0 : Addr) (p1 : Addr) : entryFrame m #[(.ref p0), (.ref p1)] 3 = mkF m 0 #[.val (.ref p0), .val (.ref p1), .unset] [] := by first | (simp [entryFrame, mkF, argsToLocals, Value.category]; done) | rfl
def f_14e3 (x_ : Nat → Int32) (y_ : Nat → Int32) : Int32 := (if (x_ 0) = (y_ 0) then (if (x_ 1) = (y_ 1) then (if (x_ 2) = (y_ 2) then (1 : Int32) else (0 : Int32)) else (0 : Int32)) else (0 : Int32))
def Q_14e3 (Z : State) (p0 : Addr) (p1 : Addr) (x_ : Nat → Int32) (y_ : Nat → Int32) (h0 : Heap) (n0 : Nat) (v : Option Value) (h : Heap) (L : List Loc) : Prop := v = some (.int (f_14e3 x_ y_)) ∧ Fr n0 L ∧ h = h0
set_option maxRecDepth 65536 in
set_option maxHeartbeats 40000000 in
theorem rm_14e3 (l : Launch) (Z : State) (a0 : Array Value) (hw : ∀ d ∈ tables_1, d.before a0 Z = true) (ws : List Jvm.Cond) (p0 : Addr) (p1 : Addr) (x_ : Nat → Int32) (y_ : Nat → Int32) (h0 : Heap) (n0 : Nat) (Z0 : n0 ≤ h0.size) (A_p0 : own_A Z h0 p0 .byte 3 (fun i => .int (x_ i))) (A_p1 : own_A Z h0 p1 .byte 3 (fun i => .int (y_ i))) :
    MetFree l (⟨"java/lang/StringLatin1", "equals", "([B[B)Z"⟩ : MethodName) (head1 (Jvm.Cond.code (⟨"java/lang/StringLatin1", "equals", "([B[B)Z"⟩ : MethodName) jdk_43_method_13_code 3 (some .boolean) :: ws) ({ frames := 0, cells := 0, slots := 0, locals := 0 } : Room)) (fun a U => a = #[(.ref p0), (.ref p1)] ∧ Z.Warmed39 U.vm ∧ U.heap = h0) (fun _ _ _ _ _ => True) (fun _ U o U' => ∃ v L, o = .returned v ∧ Q_14e3 Z p0 p1 x_ y_ h0 n0 v U'.heap L ∧ FrameEnd U o U' L ({ frames := 0, cells := 0, slots := 0, locals := 0 } : Room).cells ({ frames := 0, cells := 0, slots := 0, locals := 0 } : Room).slots) := by
  refine MetFree.of_bodySF (plainFor_of_name pn_14) hisR ?_
  intro p e s m args below meth c s₁ Bd hml0 hP hK
  obtain ⟨rfl, hZ, hh⟩ := hP
  have hx := Bd.exec
  have hby := Bd.bytes
  have hml : c.maxLocals = 3 := hml0
  have hown : s.vm.findClass "java/lang/StringLatin1" = some m.cls := findClass_of_methodNamed Bd.named
  have hnm := (name_of_methodNamed Bd.named Bd.method).1
  have X0 : Stand p l e ({ frames := 0, cells := 0, slots := 0, locals := 0 } : Room) s m #[(.ref p0), (.ref p1)] below meth c s₁ [] 0 0 := Stand.of_body Bd
  have e0 : s₁.heap = h0 := by rw [← hh, Bd.state]; rfl
  have N0 := Fr.nil n0
  have K0 : Keep h0 h0 [] := Keep.refl h0 _
  have pre0 : ∀ t, Steps p.tables e below (s₁.setTop (mkF m 0 #[.val (.ref p0), .val (.ref p1), .unset] [])) t → Steps p.tables e below (s₁.setTop (entryFrame m #[(.ref p0), (.ref p1)] 3)) t := fun t k => castTop (ef_14e3 m p0 p1) k
  have pre1 : ∀ t, Steps p.tables e below (s₁.setTop (mkF m 21 #[.val (.ref p0), .val (.ref p1), .val (.int (0 : Int32))] [(.int (y_ 0)), (.int (x_ 0))])) t → Steps p.tables e below (s₁.setTop (entryFrame m #[(.ref p0), (.ref p1)] 3)) t := by
    intro t k
    refine pre0 t ?_
    show Steps p.tables e below (s₁.setTop (mkF m 0 #[.val (.ref p0), .val (.ref p1), .unset] [])) _
    refine XS.aloadN X0.here hx rfl (hb hby d14_0) rfl rfl ?_
    show Steps p.tables e below (s₁.setTop (mkF m 1 #[.val (.ref p0), .val (.ref p1), .unset] [(.ref p0)])) _
    refine own_len X0 hx hZ e0 A_p0 (z := (3 : Int32)) rfl (g := (mkF m 1 #[.val (.ref p0), .val (.ref p1), .unset] [(.ref p0)])) rfl rfl (hb hby d14_1) ?_
    show Steps p.tables e below (s₁.setTop (mkF m 2 #[.val (.ref p0), .val (.ref p1), .unset] [(.int (3 : Int32))])) _
    refine XS.aloadN X0.here hx rfl (hb hby d14_2) rfl rfl ?_
    show Steps p.tables e below (s₁.setTop (mkF m 3 #[.val (.ref p0), .val (.ref p1), .unset] [(.ref p1), (.int (3 : Int32))])) _
    refine own_len X0 hx hZ e0 A_p1 (z := (3 : Int32)) rfl (g := (mkF m 3 #[.val (.ref p0), .val (.ref p1), .unset] [(.ref p1), (.int (3 : Int32))])) rfl rfl (hb hby d14_3) ?_
    show Steps p.tables e below (s₁.setTop (mkF m 4 #[.val (.ref p0), .val (.ref p1), .unset] [(.int (3 : Int32)), (.int (3 : Int32))])) _
    refine XS.icmpNo X0.here hx rfl (hb hby d14_4) rfl (teq (by decide : (3 : Int32) = (3 : Int32))).2 ?_
    show Steps p.tables e below (s₁.setTop (mkF m 7 #[.val (.ref p0), .val (.ref p1), .unset] [])) _
    refine XS.iconst X0.here hx rfl (hb hby d14_7) ?_
    show Steps p.tables e below (s₁.setTop (mkF m 8 #[.val (.ref p0), .val (.ref p1), .unset] [(.int (0 : Int32))])) _
    refine XS.istoreN X0.here hx rfl (hb hby d14_8) rfl (l' := #[.val (.ref p0), .val (.ref p1), .val (.int (0 : Int32))]) rfl ?_
    show Steps p.tables e below (s₁.setTop (mkF m 9 #[.val (.ref p0), .val (.ref p1), .val (.int (0 : Int32))] [])) _
    refine XS.iloadN X0.here hx rfl (hb hby d14_9) rfl  ?_
    show Steps p.tables e below (s₁.setTop (mkF m 10 #[.val (.ref p0), .val (.ref p1), .val (.int (0 : Int32))] [(.int (0 : Int32))])) _
    refine XS.aloadN X0.here hx rfl (hb hby d14_10) rfl rfl ?_
    show Steps p.tables e below (s₁.setTop (mkF m 11 #[.val (.ref p0), .val (.ref p1), .val (.int (0 : Int32))] [(.ref p0), (.int (0 : Int32))])) _
    refine own_len X0 hx hZ e0 A_p0 (z := (3 : Int32)) rfl (g := (mkF m 11 #[.val (.ref p0), .val (.ref p1), .val (.int (0 : Int32))] [(.ref p0), (.int (0 : Int32))])) rfl rfl (hb hby d14_11) ?_
    show Steps p.tables e below (s₁.setTop (mkF m 12 #[.val (.ref p0), .val (.ref p1), .val (.int (0 : Int32))] [(.int (3 : Int32)), (.int (0 : Int32))])) _
    refine XS.icmpNo X0.here hx rfl (hb hby d14_12) rfl (tlt (by decide : (0 : Int32) < (3 : Int32))).2.1 ?_
    show Steps p.tables e below (s₁.setTop (mkF m 15 #[.val (.ref p0), .val (.ref p1), .val (.int (0 : Int32))] [])) _
    refine XS.aloadN X0.here hx rfl (hb hby d14_15) rfl rfl ?_
    show Steps p.tables e below (s₁.setTop (mkF m 16 #[.val (.ref p0), .val (.ref p1), .val (.int (0 : Int32))] [(.ref p0)])) _
    refine XS.iloadN X0.here hx rfl (hb hby d14_16) rfl  ?_
    show Steps p.tables e below (s₁.setTop (mkF m 17 #[.val (.ref p0), .val (.ref p1), .val (.int (0 : Int32))] [(.int (0 : Int32)), (.ref p0)])) _
    refine own_ldB X0 hx hZ e0 A_p0 (j := (0 : Int32)) (k := 0) (by decide) (by decide) (by decide) (g := (mkF m 17 #[.val (.ref p0), .val (.ref p1), .val (.int (0 : Int32))] [(.int (0 : Int32)), (.ref p0)])) rfl rfl (hb hby d14_17) ?_
    show Steps p.tables e below (s₁.setTop (mkF m 18 #[.val (.ref p0), .val (.ref p1), .val (.int (0 : Int32))] [(.int (x_ 0))])) _
    refine XS.aloadN X0.here hx rfl (hb hby d14_18) rfl rfl ?_
    show Steps p.tables e below (s₁.setTop (mkF m 19 #[.val (.ref p0), .val (.ref p1), .val (.int (0 : Int32))] [(.ref p1), (.int (x_ 0))])) _
    refine XS.iloadN X0.here hx rfl (hb hby d14_19) rfl  ?_
    show Steps p.tables e below (s₁.setTop (mkF m 20 #[.val (.ref p0), .val (.ref p1), .val (.int (0 : Int32))] [(.int (0 : Int32)), (.ref p1), (.int (x_ 0))])) _
    refine own_ldB X0 hx hZ e0 A_p1 (j := (0 : Int32)) (k := 0) (by decide) (by decide) (by decide) (g := (mkF m 20 #[.val (.ref p0), .val (.ref p1), .val (.int (0 : Int32))] [(.int (0 : Int32)), (.ref p1), (.int (x_ 0))])) rfl rfl (hb hby d14_20) ?_
    exact k
  by_cases hc21 : (x_ 0) = (y_ 0)
  · have pre2 : ∀ t, Steps p.tables e below (s₁.setTop (mkF m 21 #[.val (.ref p0), .val (.ref p1), .val (.int (1 : Int32))] [(.int (y_ 1)), (.int (x_ 1))])) t → Steps p.tables e below (s₁.setTop (entryFrame m #[(.ref p0), (.ref p1)] 3)) t := by
      intro t k
      refine pre1 t ?_
      show Steps p.tables e below (s₁.setTop (mkF m 21 #[.val (.ref p0), .val (.ref p1), .val (.int (0 : Int32))] [(.int (y_ 0)), (.int (x_ 0))])) _
      refine XS.icmpYes X0.here hx rfl (pc0 := 21) (pc' := 26) rfl (hb hby d14_21) rfl (teq hc21).1 (by decide) (by decide) ?_
      show Steps p.tables e below (s₁.setTop (mkF m 26 #[.val (.ref p0), .val (.ref p1), .val (.int (0 : Int32))] [])) _
      refine XS.iinc X0.here hx rfl (hb hby d14_26) rfl (l' := #[.val (.ref p0), .val (.ref p1), .val (.int (1 : Int32))]) rfl ?_
      show Steps p.tables e below (s₁.setTop (mkF m 29 #[.val (.ref p0), .val (.ref p1), .val (.int (1 : Int32))] [])) _
      refine XS.goto X0.here hx rfl (pc0 := 29) (pc' := 9) rfl (hb hby d14_29) (by decide) (by decide) ?_
      show Steps p.tables e below (s₁.setTop (mkF m 9 #[.val (.ref p0), .val (.ref p1), .val (.int (1 : Int32))] [])) _
      refine XS.iloadN X0.here hx rfl (hb hby d14_9) rfl  ?_
      show Steps p.tables e below (s₁.setTop (mkF m 10 #[.val (.ref p0), .val (.ref p1), .val (.int (1 : Int32))] [(.int (1 : Int32))])) _
      refine XS.aloadN X0.here hx rfl (hb hby d14_10) rfl rfl ?_
      show Steps p.tables e below (s₁.setTop (mkF m 11 #[.val (.ref p0), .val (.ref p1), .val (.int (1 : Int32))] [(.ref p0), (.int (1 : Int32))])) _
      refine own_len X0 hx hZ e0 A_p0 (z := (3 : Int32)) rfl (g := (mkF m 11 #[.val (.ref p0), .val (.ref p1), .val (.int (1 : Int32))] [(.ref p0), (.int (1 : Int32))])) rfl rfl (hb hby d14_11) ?_
      show Steps p.tables e below (s₁.setTop (mkF m 12 #[.val (.ref p0), .val (.ref p1), .val (.int (1 : Int32))] [(.int (3 : Int32)), (.int (1 : Int32))])) _
      refine XS.icmpNo X0.here hx rfl (hb hby d14_12) rfl (tlt (by decide : (1 : Int32) < (3 : Int32))).2.1 ?_
      show Steps p.tables e below (s₁.setTop (mkF m 15 #[.val (.ref p0), .val (.ref p1), .val (.int (1 : Int32))] [])) _
      refine XS.aloadN X0.here hx rfl (hb hby d14_15) rfl rfl ?_
      show Steps p.tables e below (s₁.setTop (mkF m 16 #[.val (.ref p0), .val (.ref p1), .val (.int (1 : Int32))] [(.ref p0)])) _
      refine XS.iloadN X0.here hx rfl (hb hby d14_16) rfl  ?_
      show Steps p.tables e below (s₁.setTop (mkF m 17 #[.val (.ref p0), .val (.ref p1), .val (.int (1 : Int32))] [(.int (1 : Int32)), (.ref p0)])) _
      refine own_ldB X0 hx hZ e0 A_p0 (j := (1 : Int32)) (k := 1) (by decide) (by decide) (by decide) (g := (mkF m 17 #[.val (.ref p0), .val (.ref p1), .val (.int (1 : Int32))] [(.int (1 : Int32)), (.ref p0)])) rfl rfl (hb hby d14_17) ?_
      show Steps p.tables e below (s₁.setTop (mkF m 18 #[.val (.ref p0), .val (.ref p1), .val (.int (1 : Int32))] [(.int (x_ 1))])) _
      refine XS.aloadN X0.here hx rfl (hb hby d14_18) rfl rfl ?_
      show Steps p.tables e below (s₁.setTop (mkF m 19 #[.val (.ref p0), .val (.ref p1), .val (.int (1 : Int32))] [(.ref p1), (.int (x_ 1))])) _
      refine XS.iloadN X0.here hx rfl (hb hby d14_19) rfl  ?_
      show Steps p.tables e below (s₁.setTop (mkF m 20 #[.val (.ref p0), .val (.ref p1), .val (.int (1 : Int32))] [(.int (1 : Int32)), (.ref p1), (.int (x_ 1))])) _
      refine own_ldB X0 hx hZ e0 A_p1 (j := (1 : Int32)) (k := 1) (by decide) (by decide) (by decide) (g := (mkF m 20 #[.val (.ref p0), .val (.ref p1), .val (.int (1 : Int32))] [(.int (1 : Int32)), (.ref p1), (.int (x_ 1))])) rfl rfl (hb hby d14_20) ?_
      exact k
    by_cases hc21_3 : (x_ 1) = (y_ 1)
    · have pre4 : ∀ t, Steps p.tables e below (s₁.setTop (mkF m 21 #[.val (.ref p0), .val (.ref p1), .val (.int (2 : Int32))] [(.int (y_ 2)), (.int (x_ 2))])) t → Steps p.tables e below (s₁.setTop (entryFrame m #[(.ref p0), (.ref p1)] 3)) t := by
        intro t k
        refine pre2 t ?_
        show Steps p.tables e below (s₁.setTop (mkF m 21 #[.val (.ref p0), .val (.ref p1), .val (.int (1 : Int32))] [(.int (y_ 1)), (.int (x_ 1))])) _
        refine XS.icmpYes X0.here hx rfl (pc0 := 21) (pc' := 26) rfl (hb hby d14_21) rfl (teq hc21_3).1 (by decide) (by decide) ?_
        show Steps p.tables e below (s₁.setTop (mkF m 26 #[.val (.ref p0), .val (.ref p1), .val (.int (1 : Int32))] [])) _
        refine XS.iinc X0.here hx rfl (hb hby d14_26) rfl (l' := #[.val (.ref p0), .val (.ref p1), .val (.int (2 : Int32))]) rfl ?_
        show Steps p.tables e below (s₁.setTop (mkF m 29 #[.val (.ref p0), .val (.ref p1), .val (.int (2 : Int32))] [])) _
        refine XS.goto X0.here hx rfl (pc0 := 29) (pc' := 9) rfl (hb hby d14_29) (by decide) (by decide) ?_
        show Steps p.tables e below (s₁.setTop (mkF m 9 #[.val (.ref p0), .val (.ref p1), .val (.int (2 : Int32))] [])) _
        refine XS.iloadN X0.here hx rfl (hb hby d14_9) rfl  ?_
        show Steps p.tables e below (s₁.setTop (mkF m 10 #[.val (.ref p0), .val (.ref p1), .val (.int (2 : Int32))] [(.int (2 : Int32))])) _
        refine XS.aloadN X0.here hx rfl (hb hby d14_10) rfl rfl ?_
        show Steps p.tables e below (s₁.setTop (mkF m 11 #[.val (.ref p0), .val (.ref p1), .val (.int (2 : Int32))] [(.ref p0), (.int (2 : Int32))])) _
        refine own_len X0 hx hZ e0 A_p0 (z := (3 : Int32)) rfl (g := (mkF m 11 #[.val (.ref p0), .val (.ref p1), .val (.int (2 : Int32))] [(.ref p0), (.int (2 : Int32))])) rfl rfl (hb hby d14_11) ?_
        show Steps p.tables e below (s₁.setTop (mkF m 12 #[.val (.ref p0), .val (.ref p1), .val (.int (2 : Int32))] [(.int (3 : Int32)), (.int (2 : Int32))])) _
        refine XS.icmpNo X0.here hx rfl (hb hby d14_12) rfl (tlt (by decide : (2 : Int32) < (3 : Int32))).2.1 ?_
        show Steps p.tables e below (s₁.setTop (mkF m 15 #[.val (.ref p0), .val (.ref p1), .val (.int (2 : Int32))] [])) _
        refine XS.aloadN X0.here hx rfl (hb hby d14_15) rfl rfl ?_
        show Steps p.tables e below (s₁.setTop (mkF m 16 #[.val (.ref p0), .val (.ref p1), .val (.int (2 : Int32))] [(.ref p0)])) _
        refine XS.iloadN X0.here hx rfl (hb hby d14_16) rfl  ?_
        show Steps p.tables e below (s₁.setTop (mkF m 17 #[.val (.ref p0), .val (.ref p1), .val (.int (2 : Int32))] [(.int (2 : Int32)), (.ref p0)])) _
        refine own_ldB X0 hx hZ e0 A_p0 (j := (2 : Int32)) (k := 2) (by decide) (by decide) (by decide) (g := (mkF m 17 #[.val (.ref p0), .val (.ref p1), .val (.int (2 : Int32))] [(.int (2 : Int32)), (.ref p0)])) rfl rfl (hb hby d14_17) ?_
        show Steps p.tables e below (s₁.setTop (mkF m 18 #[.val (.ref p0), .val (.ref p1), .val (.int (2 : Int32))] [(.int (x_ 2))])) _
        refine XS.aloadN X0.here hx rfl (hb hby d14_18) rfl rfl ?_
        show Steps p.tables e below (s₁.setTop (mkF m 19 #[.val (.ref p0), .val (.ref p1), .val (.int (2 : Int32))] [(.ref p1), (.int (x_ 2))])) _
        refine XS.iloadN X0.here hx rfl (hb hby d14_19) rfl  ?_
        show Steps p.tables e below (s₁.setTop (mkF m 20 #[.val (.ref p0), .val (.ref p1), .val (.int (2 : Int32))] [(.int (2 : Int32)), (.ref p1), (.int (x_ 2))])) _
        refine own_ldB X0 hx hZ e0 A_p1 (j := (2 : Int32)) (k := 2) (by decide) (by decide) (by decide) (g := (mkF m 20 #[.val (.ref p0), .val (.ref p1), .val (.int (2 : Int32))] [(.int (2 : Int32)), (.ref p1), (.int (x_ 2))])) rfl rfl (hb hby d14_20) ?_
        exact k
      by_cases hc21_5 : (x_ 2) = (y_ 2)
      · obtain ⟨fs, hr, hrun, hended, hW, hsame⟩ := X0.leave (v := some (.int (1 : Int32))) (fun h => by rw [Bd.returns] at h; cases h) (BodyLoose.notSynchronized Bd)
        refine ⟨_, _, pre4 _ ?_, hrun, hended, _, _, rfl, ?_, ⟨_, rfl⟩, hW, hsame.mono (by decide) (by decide)⟩
        · show Steps p.tables e below (s₁.setTop (mkF m 21 #[.val (.ref p0), .val (.ref p1), .val (.int (2 : Int32))] [(.int (y_ 2)), (.int (x_ 2))])) _
          refine XS.icmpYes X0.here hx rfl (pc0 := 21) (pc' := 26) rfl (hb hby d14_21) rfl (teq hc21_5).1 (by decide) (by decide) ?_
          show Steps p.tables e below (s₁.setTop (mkF m 26 #[.val (.ref p0), .val (.ref p1), .val (.int (2 : Int32))] [])) _
          refine XS.iinc X0.here hx rfl (hb hby d14_26) rfl (l' := #[.val (.ref p0), .val (.ref p1), .val (.int (3 : Int32))]) rfl ?_
          show Steps p.tables e below (s₁.setTop (mkF m 29 #[.val (.ref p0), .val (.ref p1), .val (.int (3 : Int32))] [])) _
          refine XS.goto X0.here hx rfl (pc0 := 29) (pc' := 9) rfl (hb hby d14_29) (by decide) (by decide) ?_
          show Steps p.tables e below (s₁.setTop (mkF m 9 #[.val (.ref p0), .val (.ref p1), .val (.int (3 : Int32))] [])) _
          refine XS.iloadN X0.here hx rfl (hb hby d14_9) rfl  ?_
          show Steps p.tables e below (s₁.setTop (mkF m 10 #[.val (.ref p0), .val (.ref p1), .val (.int (3 : Int32))] [(.int (3 : Int32))])) _
          refine XS.aloadN X0.here hx rfl (hb hby d14_10) rfl rfl ?_
          show Steps p.tables e below (s₁.setTop (mkF m 11 #[.val (.ref p0), .val (.ref p1), .val (.int (3 : Int32))] [(.ref p0), (.int (3 : Int32))])) _
          refine own_len X0 hx hZ e0 A_p0 (z := (3 : Int32)) rfl (g := (mkF m 11 #[.val (.ref p0), .val (.ref p1), .val (.int (3 : Int32))] [(.ref p0), (.int (3 : Int32))])) rfl rfl (hb hby d14_11) ?_
          show Steps p.tables e below (s₁.setTop (mkF m 12 #[.val (.ref p0), .val (.ref p1), .val (.int (3 : Int32))] [(.int (3 : Int32)), (.int (3 : Int32))])) _
          refine XS.icmpYes X0.here hx rfl (pc0 := 12) (pc' := 32) rfl (hb hby d14_12) rfl (flt (by decide : ¬ ((3 : Int32) < (3 : Int32)))).2.1 (by decide) (by decide) ?_
          show Steps p.tables e below (s₁.setTop (mkF m 32 #[.val (.ref p0), .val (.ref p1), .val (.int (3 : Int32))] [])) _
          refine XS.iconst X0.here hx rfl (hb hby d14_32) ?_
          show Steps p.tables e below (s₁.setTop (mkF m 33 #[.val (.ref p0), .val (.ref p1), .val (.int (3 : Int32))] [(.int (1 : Int32))])) _
          exact retN X0 hx (t := .boolean) Bd.returns (by simp) (hb hby d14_33) hr
        · show Q_14e3 Z p0 p1 x_ y_ h0 n0 _ s₁.heap _
          rw [e0]
          exact ⟨congrArg (fun z => some (Value.int z)) (by exact ((if_pos hc21).trans ((if_pos hc21_3).trans (if_pos hc21_5))).symm : (1 : Int32) = f_14e3 x_ y_), N0, rfl⟩
      · obtain ⟨fs, hr, hrun, hended, hW, hsame⟩ := X0.leave (v := some (.int (0 : Int32))) (fun h => by rw [Bd.returns] at h; cases h) (BodyLoose.notSynchronized Bd)
        refine ⟨_, _, pre4 _ ?_, hrun, hended, _, _, rfl, ?_, ⟨_, rfl⟩, hW, hsame.mono (by decide) (by decide)⟩
        · show Steps p.tables e below (s₁.setTop (mkF m 21 #[.val (.ref p0), .val (.ref p1), .val (.int (2 : Int32))] [(.int (y_ 2)), (.int (x_ 2))])) _
          refine XS.icmpNo X0.here hx rfl (hb hby d14_21) rfl (feq hc21_5).1 ?_
          show Steps p.tables e below (s₁.setTop (mkF m 24 #[.val (.ref p0), .val (.ref p1), .val (.int (2 : Int32))] [])) _
          refine XS.iconst X0.here hx rfl (hb hby d14_24) ?_
          show Steps p.tables e below (s₁.setTop (mkF m 25 #[.val (.ref p0), .val (.ref p1), .val (.int (2 : Int32))] [(.int (0 : Int32))])) _
          exact retN X0 hx (t := .boolean) Bd.returns (by simp) (hb hby d14_25) hr
        · show Q_14e3 Z p0 p1 x_ y_ h0 n0 _ s₁.heap _
          rw [e0]
          exact ⟨congrArg (fun z => some (Value.int z)) (by exact ((if_pos hc21).trans ((if_pos hc21_3).trans (if_neg hc21_5))).symm : (0 : Int32) = f_14e3 x_ y_), N0, rfl⟩
    · obtain ⟨fs, hr, hrun, hended, hW, hsame⟩ := X0.leave (v := some (.int (0 : Int32))) (fun h => by rw [Bd.returns] at h; cases h) (BodyLoose.notSynchronized Bd)
      refine ⟨_, _, pre2 _ ?_, hrun, hended, _, _, rfl, ?_, ⟨_, rfl⟩, hW, hsame.mono (by decide) (by decide)⟩
      · show Steps p.tables e below (s₁.setTop (mkF m 21 #[.val (.ref p0), .val (.ref p1), .val (.int (1 : Int32))] [(.int (y_ 1)), (.int (x_ 1))])) _
        refine XS.icmpNo X0.here hx rfl (hb hby d14_21) rfl (feq hc21_3).1 ?_
        show Steps p.tables e below (s₁.setTop (mkF m 24 #[.val (.ref p0), .val (.ref p1), .val (.int (1 : Int32))] [])) _
        refine XS.iconst X0.here hx rfl (hb hby d14_24) ?_
        show Steps p.tables e below (s₁.setTop (mkF m 25 #[.val (.ref p0), .val (.ref p1), .val (.int (1 : Int32))] [(.int (0 : Int32))])) _
        exact retN X0 hx (t := .boolean) Bd.returns (by simp) (hb hby d14_25) hr
      · show Q_14e3 Z p0 p1 x_ y_ h0 n0 _ s₁.heap _
        rw [e0]
        exact ⟨congrArg (fun z => some (Value.int z)) (by exact ((if_pos hc21).trans (if_neg hc21_3)).symm : (0 : Int32) = f_14e3 x_ y_), N0, rfl⟩
  · obtain ⟨fs, hr, hrun, hended, hW, hsame⟩ := X0.leave (v := some (.int (0 : Int32))) (fun h => by rw [Bd.returns] at h; cases h) (BodyLoose.notSynchronized Bd)
    refine ⟨_, _, pre1 _ ?_, hrun, hended, _, _, rfl, ?_, ⟨_, rfl⟩, hW, hsame.mono (by decide) (by decide)⟩
    · show Steps p.tables e below (s₁.setTop (mkF m 21 #[.val (.ref p0), .val (.ref p1), .val (.int (0 : Int32))] [(.int (y_ 0)), (.int (x_ 0))])) _
      refine XS.icmpNo X0.here hx rfl (hb hby d14_21) rfl (feq hc21).1 ?_
      show Steps p.tables e below (s₁.setTop (mkF m 24 #[.val (.ref p0), .val (.ref p1), .val (.int (0 : Int32))] [])) _
      refine XS.iconst X0.here hx rfl (hb hby d14_24) ?_
      show Steps p.tables e below (s₁.setTop (mkF m 25 #[.val (.ref p0), .val (.ref p1), .val (.int (0 : Int32))] [(.int (0 : Int32))])) _
      exact retN X0 hx (t := .boolean) Bd.returns (by simp) (hb hby d14_25) hr
    · show Q_14e3 Z p0 p1 x_ y_ h0 n0 _ s₁.heap _
      rw [e0]
      exact ⟨congrArg (fun z => some (Value.int z)) (by exact (if_neg hc21).symm : (0 : Int32) = f_14e3 x_ y_), N0, rfl⟩
theorem ef_13e3 (m : MethodId) (p0 : Addr) (p1 : Addr) : entryFrame m #[(.ref p0), (.ref p1)] 3 = mkF m 0 #[.val (.ref p0), .val (.ref p1), .unset] [] := by first | (simp [entryFrame, mkF, argsToLocals, Value.category]; done) | rfl
def f_13e3 (cs_ : Int32) (x_ : Nat → Int32) (y_ : Nat → Int32) : Int32 := let ms0_55 : Int32 := (if (f_14e3 x_ y_) = (0 : Int32) then (0 : Int32) else (1 : Int32)); ms0_55
def Q_13e3 (Z : State) (p0 : Addr) (p1 : Addr) (cs_ : Int32) (v0_ : Addr) (v1_ : Addr) (x_ : Nat → Int32) (y_ : Nat → Int32) (h0 : Heap) (n0 : Nat) (v : Option Value) (h : Heap) (L : List Loc) : Prop := v = some (.int (f_13e3 cs_ x_ y_)) ∧ Fr n0 L ∧ h = h0
set_option maxRecDepth 65536 in
set_option maxHeartbeats 40000000 in
theorem rm_13e3 (l : Launch) (Z : State) (a0 : Array Value) (hw : ∀ d ∈ tables_1, d.before a0 Z = true) (ws : List Jvm.Cond) (p0 : Addr) (p1 : Addr) (cs_ : Int32) (v0_ : Addr) (v1_ : Addr) (x_ : Nat → Int32) (y_ : Nat → Int32) (h0 : Heap) (n0 : Nat) (Z0 : n0 ≤ h0.size) (ne_p0_p1 : p0 ≠ p1) (E_p1 : Exa Z h0 p1 "java/lang/String") (S_COMPACT_STRINGS : Sta Z h0 "java/lang/String" "COMPACT_STRINGS" "Z" (.int cs_)) (hcs : ¬ (cs_ = (0 : Int32))) (F_p0_value : Fld Z h0 p0 "java/lang/String" "value" "[B" (.ref v0_)) (F_p0_coder : Fld Z h0 p0 "java/lang/String" "coder" "B" (.int (0 : Int32))) (F_p1_value : Fld Z h0 p1 "java/lang/String" "value" "[B" (.ref v1_)) (F_p1_coder : Fld Z h0 p1 "java/lang/String" "coder" "B" (.int (0 : Int32))) (A_v0_ : own_A Z h0 v0_ .byte 3 (fun i => .int (x_ i))) (A_v1_ : own_A Z h0 v1_ .byte 3 (fun i => .int (y_ i))) :
    MetFree l (⟨"java/lang/String", "equals", "(Ljava/lang/Object;)Z"⟩ : MethodName) (head1 (Jvm.Cond.code (⟨"java/lang/String", "equals", "(Ljava/lang/Object;)Z"⟩ : MethodName) jdk_42_method_66_code 3 (some .boolean) :: ws) ({ frames := 1, cells := 0, slots := 0, locals := 14 } : Room)) (fun a U => a = #[(.ref p0), (.ref p1)] ∧ Z.Warmed39 U.vm ∧ U.heap = h0) (fun _ _ _ _ _ => True) (fun _ U o U' => ∃ v L, o = .returned v ∧ Q_13e3 Z p0 p1 cs_ v0_ v1_ x_ y_ h0 n0 v U'.heap L ∧ FrameEnd U o U' L ({ frames := 1, cells := 0, slots := 0, locals := 14 } : Room).cells ({ frames := 1, cells := 0, slots := 0, locals := 14 } : Room).slots) := by
  refine MetFree.of_bodySF (plainFor_of_name pn_13) hisR ?_
  intro p e s m args below meth c s₁ Bd hml0 hP hK
  obtain ⟨rfl, hZ, hh⟩ := hP
  have hx := Bd.exec
  have hby := Bd.bytes
  have hml : c.maxLocals = 3 := hml0
  have hown : s.vm.findClass "java/lang/String" = some m.cls := findClass_of_methodNamed Bd.named
  have hnm := (name_of_methodNamed Bd.named Bd.method).1
  have X0 : Stand p l e ({ frames := 1, cells := 0, slots := 0, locals := 14 } : Room) s m #[(.ref p0), (.ref p1)] below meth c s₁ [] 0 0 := Stand.of_body Bd
  have e0 : s₁.heap = h0 := by rw [← hh, Bd.state]; rfl
  have N0 := Fr.nil n0
  have K0 : Keep h0 h0 [] := Keep.refl h0 _
  have pre0 : ∀ t, Steps p.tables e below (s₁.setTop (mkF m 0 #[.val (.ref p0), .val (.ref p1), .unset] [])) t → Steps p.tables e below (s₁.setTop (entryFrame m #[(.ref p0), (.ref p1)] 3)) t := fun t k => castTop (ef_13e3 m p0 p1) k
  have pre1 : ∀ t, Steps p.tables e below (s₁.setTop (mkF m 8 #[.val (.ref p0), .val (.ref p1), .unset] [(.ref p1)])) t → Steps p.tables e below (s₁.setTop (entryFrame m #[(.ref p0), (.ref p1)] 3)) t := by
    intro t k
    refine pre0 t ?_
    show Steps p.tables e below (s₁.setTop (mkF m 0 #[.val (.ref p0), .val (.ref p1), .unset] [])) _
    refine XS.aloadN X0.here hx rfl (hb hby d13_0) rfl rfl ?_
    show Steps p.tables e below (s₁.setTop (mkF m 1 #[.val (.ref p0), .val (.ref p1), .unset] [(.ref p0)])) _
    refine XS.aloadN X0.here hx rfl (hb hby d13_1) rfl rfl ?_
    show Steps p.tables e below (s₁.setTop (mkF m 2 #[.val (.ref p0), .val (.ref p1), .unset] [(.ref p1), (.ref p0)])) _
    refine Jvm.RoadKit.acmp (g := (mkF m 2 #[.val (.ref p0), .val (.ref p1), .unset] [(.ref p1), (.ref p0)])) X0 hx rfl rfl rfl (pc0 := 2) (pc' := 7) (same := false) rfl (hb hby d13_2) rfl (decide_eq_false fun q => (ne_p0_p1 : p0 ≠ p1) (Value.ref.inj q)) (by decide) (by decide) ?_
    show Steps p.tables e below (s₁.setTop (mkF m 7 #[.val (.ref p0), .val (.ref p1), .unset] [])) _
    refine XS.aloadN X0.here hx rfl (hb hby d13_7) rfl rfl ?_
    exact k
  obtain ⟨T2, X2, e2, st2⟩ := instY X0 hx hZ hown (hw _ (List.mem_of_getElem? (i := 73) rfl)) e0 (Ins.self E_p1) (g := (mkF m 8 #[.val (.ref p0), .val (.ref p1), .unset] [(.ref p1)])) rfl rfl (hb hby d13_8)
  have pre3 : ∀ t, Steps p.tables e below (T2.setTop (mkF m 15 #[.val (.ref p0), .val (.ref p1), .unset] [(.ref p1)])) t → Steps p.tables e below (s₁.setTop (entryFrame m #[(.ref p0), (.ref p1)] 3)) t := by
    intro t k
    refine pre1 t ?_
    show Steps p.tables e below (s₁.setTop (mkF m 8 #[.val (.ref p0), .val (.ref p1), .unset] [(.ref p1)])) _
    refine st2 _ ?_
    show Steps p.tables e below (T2.setTop (mkF m 11 #[.val (.ref p0), .val (.ref p1), .unset] [(.int (1 : Int32))])) _
    refine XS.ifNo X2.here hx rfl (hb hby d13_11) rfl ((if0 _ _).trans (feq (by decide : ¬ ((1 : Int32) = (0 : Int32)))).1) ?_
    show Steps p.tables e below (T2.setTop (mkF m 14 #[.val (.ref p0), .val (.ref p1), .unset] [])) _
    refine XS.aloadN X2.here hx rfl (hb hby d13_14) rfl rfl ?_
    exact k
  obtain ⟨T4, X4, e4, st4⟩ := castY X2 hx hZ hown (hw _ (List.mem_of_getElem? (i := 73) rfl)) e2 (Ins.self E_p1) (g := (mkF m 15 #[.val (.ref p0), .val (.ref p1), .unset] [(.ref p1)])) rfl rfl (hb hby d13_15)
  have pre5 : ∀ t, Steps p.tables e below (T4.setTop (mkF m 19 #[.val (.ref p0), .val (.ref p1), .val (.ref p1)] [])) t → Steps p.tables e below (s₁.setTop (entryFrame m #[(.ref p0), (.ref p1)] 3)) t := by
    intro t k
    refine pre3 t ?_
    show Steps p.tables e below (T2.setTop (mkF m 15 #[.val (.ref p0), .val (.ref p1), .unset] [(.ref p1)])) _
    refine st4 _ ?_
    show Steps p.tables e below (T4.setTop (mkF m 18 #[.val (.ref p0), .val (.ref p1), .unset] [(.ref p1)])) _
    refine XS.astoreN X4.here hx rfl (hb hby d13_18) rfl rfl (l' := #[.val (.ref p0), .val (.ref p1), .val (.ref p1)]) rfl ?_
    exact k
  obtain ⟨T6, X6, e6, st6⟩ := getS2 X4 hx hZ hown (host := "") (Or.inl (hw _ (List.mem_of_getElem? (i := 23) rfl))) Via.refl e4 S_COMPACT_STRINGS (g := (mkF m 19 #[.val (.ref p0), .val (.ref p1), .val (.ref p1)] [])) rfl (hb hby d13_19)
  have pre7 : ∀ t, Steps p.tables e below (T6.setTop (mkF m 26 #[.val (.ref p0), .val (.ref p1), .val (.ref p1)] [(.ref p0)])) t → Steps p.tables e below (s₁.setTop (entryFrame m #[(.ref p0), (.ref p1)] 3)) t := by
    intro t k
    refine pre5 t ?_
    show Steps p.tables e below (T4.setTop (mkF m 19 #[.val (.ref p0), .val (.ref p1), .val (.ref p1)] [])) _
    refine st6 _ ?_
    show Steps p.tables e below (T6.setTop (mkF m 22 #[.val (.ref p0), .val (.ref p1), .val (.ref p1)] [(.int cs_)])) _
    refine XS.ifNo X6.here hx rfl (hb hby d13_22) rfl ((if0 _ _).trans (feq (hcs : ¬ (cs_ = (0 : Int32)))).1) ?_
    show Steps p.tables e below (T6.setTop (mkF m 25 #[.val (.ref p0), .val (.ref p1), .val (.ref p1)] [])) _
    refine XS.aloadN X6.here hx rfl (hb hby d13_25) rfl rfl ?_
    exact k
  obtain ⟨T8, X8, e8, st8⟩ := getF X6 hx hZ hown (host := "") (Or.inl (hw _ (List.mem_of_getElem? (i := 35) rfl))) Via.refl e6 F_p0_coder (g := (mkF m 26 #[.val (.ref p0), .val (.ref p1), .val (.ref p1)] [(.ref p0)])) rfl rfl (hb hby d13_26)
  have pre9 : ∀ t, Steps p.tables e below (T8.setTop (mkF m 30 #[.val (.ref p0), .val (.ref p1), .val (.ref p1)] [(.ref p1), (.int (0 : Int32))])) t → Steps p.tables e below (s₁.setTop (entryFrame m #[(.ref p0), (.ref p1)] 3)) t := by
    intro t k
    refine pre7 t ?_
    show Steps p.tables e below (T6.setTop (mkF m 26 #[.val (.ref p0), .val (.ref p1), .val (.ref p1)] [(.ref p0)])) _
    refine st8 _ ?_
    show Steps p.tables e below (T8.setTop (mkF m 29 #[.val (.ref p0), .val (.ref p1), .val (.ref p1)] [(.int (0 : Int32))])) _
    refine XS.aloadN X8.here hx rfl (hb hby d13_29) rfl rfl ?_
    exact k
  obtain ⟨T10, X10, e10, st10⟩ := getF X8 hx hZ hown (host := "") (Or.inl (hw _ (List.mem_of_getElem? (i := 35) rfl))) Via.refl e8 F_p1_coder (g := (mkF m 30 #[.val (.ref p0), .val (.ref p1), .val (.ref p1)] [(.ref p1), (.int (0 : Int32))])) rfl rfl (hb hby d13_30)
  have pre11 : ∀ t, Steps p.tables e below (T10.setTop (mkF m 37 #[.val (.ref p0), .val (.ref p1), .val (.ref p1)] [(.ref p0)])) t → Steps p.tables e below (s₁.setTop (entryFrame m #[(.ref p0), (.ref p1)] 3)) t := by
    intro t k
    refine pre9 t ?_
    show Steps p.tables e below (T8.setTop (mkF m 30 #[.val (.ref p0), .val (.ref p1), .val (.ref p1)] [(.ref p1), (.int (0 : Int32))])) _
    refine st10 _ ?_
    show Steps p.tables e below (T10.setTop (mkF m 33 #[.val (.ref p0), .val (.ref p1), .val (.ref p1)] [(.int (0 : Int32)), (.int (0 : Int32))])) _
    refine XS.icmpNo X10.here hx rfl (hb hby d13_33) rfl (teq (by decide : (0 : Int32) = (0 : Int32))).2 ?_
    show Steps p.tables e below (T10.setTop (mkF m 36 #[.val (.ref p0), .val (.ref p1), .val (.ref p1)] [])) _
    refine XS.aloadN X10.here hx rfl (hb hby d13_36) rfl rfl ?_
    exact k
  obtain ⟨T12, X12, e12, st12⟩ := getF X10 hx hZ hown (host := "") (Or.inl (hw _ (List.mem_of_getElem? (i := 37) rfl))) Via.refl e10 F_p0_value (g := (mkF m 37 #[.val (.ref p0), .val (.ref p1), .val (.ref p1)] [(.ref p0)])) rfl rfl (hb hby d13_37)
  have pre13 : ∀ t, Steps p.tables e below (T12.setTop (mkF m 41 #[.val (.ref p0), .val (.ref p1), .val (.ref p1)] [(.ref p1), (.ref v0_)])) t → Steps p.tables e below (s₁.setTop (entryFrame m #[(.ref p0), (.ref p1)] 3)) t := by
    intro t k
    refine pre11 t ?_
    show Steps p.tables e below (T10.setTop (mkF m 37 #[.val (.ref p0), .val (.ref p1), .val (.ref p1)] [(.ref p0)])) _
    refine st12 _ ?_
    show Steps p.tables e below (T12.setTop (mkF m 40 #[.val (.ref p0), .val (.ref p1), .val (.ref p1)] [(.ref v0_)])) _
    refine XS.aloadN X12.here hx rfl (hb hby d13_40) rfl rfl ?_
    exact k
  obtain ⟨T14, X14, e14, st14⟩ := getF X12 hx hZ hown (host := "") (Or.inl (hw _ (List.mem_of_getElem? (i := 37) rfl))) Via.refl e12 F_p1_value (g := (mkF m 41 #[.val (.ref p0), .val (.ref p1), .val (.ref p1)] [(.ref p1), (.ref v0_)])) rfl rfl (hb hby d13_41)
  have pre16 : ∀ t, Steps p.tables e below (T14.setTop (mkF m 44 #[.val (.ref p0), .val (.ref p1), .val (.ref p1)] [(.ref v1_), (.ref v0_)])) t → Steps p.tables e below (s₁.setTop (entryFrame m #[(.ref p0), (.ref p1)] 3)) t := by
    intro t k
    refine pre13 t ?_
    show Steps p.tables e below (T12.setTop (mkF m 41 #[.val (.ref p0), .val (.ref p1), .val (.ref p1)] [(.ref p1), (.ref v0_)])) _
    refine st14 _ ?_
    exact k
  obtain ⟨_, _, ⟨T15, L15, k15, n15⟩, -, X15, ⟨Lc15, hQ15, l15, y15, z15⟩, st15⟩ := Jvm.LawKit.callS X14 hx (y := (⟨"java/lang/StringLatin1", "equals", "([B[B)Z"⟩ : MethodName)) hown (mvT hZ (hw _ (List.mem_of_getElem? (i := 74) rfl))) (mvT hZ (hw _ (List.mem_of_getElem? (i := 75) rfl))) (mvT hZ (hw _ (List.mem_of_getElem? (i := 76) rfl))) (mvT hZ (hw _ (List.mem_of_getElem? (i := 77) rfl))) (by decide) (backOf (W := 0) (rm_14e3 l Z a0 hw [] v0_ v1_ x_ y_ h0 n0 Z0 A_v0_ A_v1_) hZ (hw _ (List.mem_of_getElem? (i := 77) rfl)) (hw _ (List.mem_of_getElem? (i := 76) rfl)) (by decide) (by decide)) (g := (mkF m 44 #[.val (.ref p0), .val (.ref p1), .val (.ref p1)] [(.ref v1_), (.ref v0_)])) rfl (by rw [hml]; rfl) (argsL := [(.ref v0_), (.ref v1_)]) (rest := []) (lenOf pd_6 rfl) rfl (by show 2 * 0 + _ ≤ _; exact Nat.le_of_eq rfl) (hb hby d13_44) (fun _ _ => ⟨rfl, e14, (by decide : 0 + 0 ≤ _), (by decide : 0 + 0 ≤ _)⟩)
  dsimp only [Pt.U, Pt.locs, Pt.cells, Pt.slots] at X15 l15 y15 z15 st15 hQ15
  rw [l15, y15, z15] at X15
  obtain ⟨rfl, N15q, e15⟩ := hQ15
  have N15 := Fr.app N0 N15q
  have pre17 : ∀ t, Steps p.tables e below (T15.setTop (mkF m 47 #[.val (.ref p0), .val (.ref p1), .val (.ref p1)] [(.int (f_14e3 x_ y_))])) t → Steps p.tables e below (s₁.setTop (entryFrame m #[(.ref p0), (.ref p1)] 3)) t := by
    intro t k
    refine pre16 t ?_
    show Steps p.tables e below (T14.setTop (mkF m 44 #[.val (.ref p0), .val (.ref p1), .val (.ref p1)] [(.ref v1_), (.ref v0_)])) _
    refine st15 _ ?_
    exact k
  obtain ⟨ms0_55, hms0_55⟩ : ∃ z : Int32, z = (if (f_14e3 x_ y_) = (0 : Int32) then (0 : Int32) else (1 : Int32)) := ⟨_, rfl⟩
  have pre18 : ∀ t, Steps p.tables e below (T15.setTop (mkF m 55 #[.val (.ref p0), .val (.ref p1), .val (.ref p1)] [(.int ms0_55)])) t → Steps p.tables e below (s₁.setTop (entryFrame m #[(.ref p0), (.ref p1)] 3)) t := by
    intro t k
    refine pre17 t ?_
    by_cases hc47 : (f_14e3 x_ y_) = (0 : Int32)
    · show Steps p.tables e below (T15.setTop (mkF m 47 #[.val (.ref p0), .val (.ref p1), .val (.ref p1)] [(.int (f_14e3 x_ y_))])) _
      refine XS.ifYes X15.here hx rfl (pc0 := 47) (pc' := 54) rfl (hb hby d13_47) rfl ((if0 _ _).trans (teq hc47).1) (by decide) (by decide) ?_
      show Steps p.tables e below (T15.setTop (mkF m 54 #[.val (.ref p0), .val (.ref p1), .val (.ref p1)] [])) _
      refine XS.iconst X15.here hx rfl (hb hby d13_54) ?_
      have qms0_55 : ms0_55 = (0 : Int32) := by rw [hms0_55, if_pos hc47]
      rw [qms0_55] at k
      exact k
    · show Steps p.tables e below (T15.setTop (mkF m 47 #[.val (.ref p0), .val (.ref p1), .val (.ref p1)] [(.int (f_14e3 x_ y_))])) _
      refine XS.ifNo X15.here hx rfl (hb hby d13_47) rfl ((if0 _ _).trans (feq hc47).1) ?_
      show Steps p.tables e below (T15.setTop (mkF m 50 #[.val (.ref p0), .val (.ref p1), .val (.ref p1)] [])) _
      refine XS.iconst X15.here hx rfl (hb hby d13_50) ?_
      show Steps p.tables e below (T15.setTop (mkF m 51 #[.val (.ref p0), .val (.ref p1), .val (.ref p1)] [(.int (1 : Int32))])) _
      refine XS.goto X15.here hx rfl (pc0 := 51) (pc' := 55) rfl (hb hby d13_51) (by decide) (by decide) ?_
      have qms0_55 : ms0_55 = (1 : Int32) := by rw [hms0_55, if_neg hc47]
      rw [qms0_55] at k
      exact k
  have hnar : nar .boolean ms0_55 = ms0_55 := by rw [hms0_55]; (repeat' split) <;> rfl
  obtain ⟨fs, hr, hrun, hended, hW, hsame⟩ := X15.leave (v := some (.int ms0_55)) (fun h => by rw [Bd.returns] at h; cases h) (BodyLoose.notSynchronized Bd)
  refine ⟨_, _, pre18 _ ?_, hrun, hended, _, _, rfl, ?_, ⟨_, rfl⟩, hW, hsame.mono (by decide) (by decide)⟩
  · show Steps p.tables e below (T15.setTop (mkF m 55 #[.val (.ref p0), .val (.ref p1), .val (.ref p1)] [(.int ms0_55)])) _
    exact retN X15 hx (t := .boolean) Bd.returns (by simp) (hb hby d13_55) (by rw [hnar]; exact hr)
  · show Q_13e3 Z p0 p1 cs_ v0_ v1_ x_ y_ h0 n0 _ T15.heap _
    rw [e15]
    exact ⟨congrArg (fun z => some (Value.int z)) (by subst hms0_55; rfl : ms0_55 = f_13e3 cs_ x_ y_), N15, rfl⟩
theorem ef_12e3 (m : MethodId) (p0 : Addr) (p1 : Addr) : entryFrame m #[(.ref p0), (.ref p1)] 3 = mkF m 0 #[.val (.ref p0), .val (.ref p1), .unset] [] := by first | (simp [entryFrame, mkF, argsToLocals, Value.category]; done) | rfl
def f_12e3 (i0_ : Int32) (i1_ : Int32) (cs_ : Int32) (x_ : Nat → Int32) (y_ : Nat → Int32) : Int32 := (if (f_13e3 cs_ x_ y_) = (0 : Int32) then (0 : Int32) else let ms0_44 : Int32 := (if i0_ = i1_ then (1 : Int32) else (0 : Int32)); ms0_44)
def Q_12e3 (Z : State) (p0 : Addr) (p1 : Addr) (s0_ : Addr) (i0_ : Int32) (s1_ : Addr) (i1_ : Int32) (cs_ : Int32) (v0_ : Addr) (v1_ : Addr) (x_ : Nat → Int32) (y_ : Nat → Int32) (h0 : Heap) (n0 : Nat) (v : Option Value) (h : Heap) (L : List Loc) : Prop := v = some (.int (f_12e3 i0_ i1_ cs_ x_ y_)) ∧ Fr n0 L ∧ h = h0
set_option maxRecDepth 65536 in
set_option maxHeartbeats 40000000 in
theorem rm_12e3 (l : Launch) (Z : State) (a0 : Array Value) (hw : ∀ d ∈ tables_1, d.before a0 Z = true) (ws : List Jvm.Cond) (p0 : Addr) (p1 : Addr) (s0_ : Addr) (i0_ : Int32) (s1_ : Addr) (i1_ : Int32) (cs_ : Int32) (v0_ : Addr) (v1_ : Addr) (x_ : Nat → Int32) (y_ : Nat → Int32) (h0 : Heap) (n0 : Nat) (Z0 : n0 ≤ h0.size) (ne_p0_p1 : p0 ≠ p1) (E_p1 : Exa Z h0 p1 "com/example/sequeue/sequeue/route/MessageQueue") (F_p0_brokerName : Fld Z h0 p0 "com/example/sequeue/sequeue/route/MessageQueue" "brokerName" "Ljava/lang/String;" (.ref s0_)) (F_p0_queueId : Fld Z h0 p0 "com/example/sequeue/sequeue/route/MessageQueue" "queueId" "I" (.int i0_)) (F_p1_brokerName : Fld Z h0 p1 "com/example/sequeue/sequeue/route/MessageQueue" "brokerName" "Ljava/lang/String;" (.ref s1_)) (F_p1_queueId : Fld Z h0 p1 "com/example/sequeue/sequeue/route/MessageQueue" "queueId" "I" (.int i1_)) (ne_s0__s1_ : s0_ ≠ s1_) (E_s0_ : Exa Z h0 s0_ "java/lang/String") (E_s1_ : Exa Z h0 s1_ "java/lang/String") (S_COMPACT_STRINGS : Sta Z h0 "java/lang/String" "COMPACT_STRINGS" "Z" (.int cs_)) (hcs : ¬ (cs_ = (0 : Int32))) (F_s0__value : Fld Z h0 s0_ "java/lang/String" "value" "[B" (.ref v0_)) (F_s0__coder : Fld Z h0 s0_ "java/lang/String" "coder" "B" (.int (0 : Int32))) (F_s1__value : Fld Z h0 s1_ "java/lang/String" "value" "[B" (.ref v1_)) (F_s1__coder : Fld Z h0 s1_ "java/lang/String" "coder" "B" (.int (0 : Int32))) (A_v0_ : own_A Z h0 v0_ .byte 3 (fun i => .int (x_ i))) (A_v1_ : own_A Z h0 v1_ .byte 3 (fun i => .int (y_ i))) :
    MetFree l (⟨"com/example/sequeue/sequeue/route/MessageQueue", "equals", "(Ljava/lang/Object;)Z"⟩ : MethodName) (head1 (Jvm.Cond.code (⟨"com/example/sequeue/sequeue/route/MessageQueue", "equals", "(Ljava/lang/Object;)Z"⟩ : MethodName) prog_36_method_5_code 3 (some .boolean) :: ws) ({ frames := 2, cells := 0, slots := 0, locals := 28 } : Room)) (fun a U => a = #[(.ref p0), (.ref p1)] ∧ Z.Warmed39 U.vm ∧ U.heap = h0) (fun _ _ _ _ _ => True) (fun _ U o U' => ∃ v L, o = .returned v ∧ Q_12e3 Z p0 p1 s0_ i0_ s1_ i1_ cs_ v0_ v1_ x_ y_ h0 n0 v U'.heap L ∧ FrameEnd U o U' L ({ frames := 2, cells := 0, slots := 0, locals := 28 } : Room).cells ({ frames := 2, cells := 0, slots := 0, locals := 28 } : Room).slots) := by
  refine MetFree.of_bodySF (plainFor_of_name pn_12) hisR ?_
  intro p e s m args below meth c s₁ Bd hml0 hP hK
  obtain ⟨rfl, hZ, hh⟩ := hP
  have hx := Bd.exec
  have hby := Bd.bytes
  have hml : c.maxLocals = 3 := hml0
  have hown : s.vm.findClass "com/example/sequeue/sequeue/route/MessageQueue" = some m.cls := findClass_of_methodNamed Bd.named
  have hnm := (name_of_methodNamed Bd.named Bd.method).1
  have X0 : Stand p l e ({ frames := 2, cells := 0, slots := 0, locals := 28 } : Room) s m #[(.ref p0), (.ref p1)] below meth c s₁ [] 0 0 := Stand.of_body Bd
  have e0 : s₁.heap = h0 := by rw [← hh, Bd.state]; rfl
  have N0 := Fr.nil n0
  have K0 : Keep h0 h0 [] := Keep.refl h0 _
  have pre0 : ∀ t, Steps p.tables e below (s₁.setTop (mkF m 0 #[.val (.ref p0), .val (.ref p1), .unset] [])) t → Steps p.tables e below (s₁.setTop (entryFrame m #[(.ref p0), (.ref p1)] 3)) t := fun t k => castTop (ef_12e3 m p0 p1) k
  have pre1 : ∀ t, Steps p.tables e below (s₁.setTop (mkF m 1 #[.val (.ref p0), .val (.ref p1), .unset] [(.ref p1)])) t → Steps p.tables e below (s₁.setTop (entryFrame m #[(.ref p0), (.ref p1)] 3)) t := by
    intro t k
    refine pre0 t ?_
    show Steps p.tables e below (s₁.setTop (mkF m 0 #[.val (.ref p0), .val (.ref p1), .unset] [])) _
    refine XS.aloadN X0.here hx rfl (hb hby d12_0) rfl rfl ?_
    exact k
  obtain ⟨T2, X2, e2, st2⟩ := instY X0 hx hZ hown (hw _ (List.mem_of_getElem? (i := 66) rfl)) e0 (Ins.self E_p1) (g := (mkF m 1 #[.val (.ref p0), .val (.ref p1), .unset] [(.ref p1)])) rfl rfl (hb hby d12_1)
  have pre3 : ∀ t, Steps p.tables e below (T2.setTop (mkF m 10 #[.val (.ref p0), .val (.ref p1), .unset] [(.ref p1)])) t → Steps p.tables e below (s₁.setTop (entryFrame m #[(.ref p0), (.ref p1)] 3)) t := by
    intro t k
    refine pre1 t ?_
    show Steps p.tables e below (s₁.setTop (mkF m 1 #[.val (.ref p0), .val (.ref p1), .unset] [(.ref p1)])) _
    refine st2 _ ?_
    show Steps p.tables e below (T2.setTop (mkF m 4 #[.val (.ref p0), .val (.ref p1), .unset] [(.int (1 : Int32))])) _
    refine XS.ifYes X2.here hx rfl (pc0 := 4) (pc' := 9) rfl (hb hby d12_4) rfl ((if0 _ _).trans (feq (by decide : ¬ ((1 : Int32) = (0 : Int32)))).2) (by decide) (by decide) ?_
    show Steps p.tables e below (T2.setTop (mkF m 9 #[.val (.ref p0), .val (.ref p1), .unset] [])) _
    refine XS.aloadN X2.here hx rfl (hb hby d12_9) rfl rfl ?_
    exact k
  obtain ⟨T4, X4, e4, st4⟩ := castY X2 hx hZ hown (hw _ (List.mem_of_getElem? (i := 66) rfl)) e2 (Ins.self E_p1) (g := (mkF m 10 #[.val (.ref p0), .val (.ref p1), .unset] [(.ref p1)])) rfl rfl (hb hby d12_10)
  have pre5 : ∀ t, Steps p.tables e below (T4.setTop (mkF m 15 #[.val (.ref p0), .val (.ref p1), .val (.ref p1)] [(.ref p0)])) t → Steps p.tables e below (s₁.setTop (entryFrame m #[(.ref p0), (.ref p1)] 3)) t := by
    intro t k
    refine pre3 t ?_
    show Steps p.tables e below (T2.setTop (mkF m 10 #[.val (.ref p0), .val (.ref p1), .unset] [(.ref p1)])) _
    refine st4 _ ?_
    show Steps p.tables e below (T4.setTop (mkF m 13 #[.val (.ref p0), .val (.ref p1), .unset] [(.ref p1)])) _
    refine XS.astoreN X4.here hx rfl (hb hby d12_13) rfl rfl (l' := #[.val (.ref p0), .val (.ref p1), .val (.ref p1)]) rfl ?_
    show Steps p.tables e below (T4.setTop (mkF m 14 #[.val (.ref p0), .val (.ref p1), .val (.ref p1)] [])) _
    refine XS.aloadN X4.here hx rfl (hb hby d12_14) rfl rfl ?_
    exact k
  obtain ⟨T6, X6, e6, st6⟩ := getF X4 hx hZ hown (host := "") (Or.inl (hw _ (List.mem_of_getElem? (i := 54) rfl))) Via.refl e4 F_p0_brokerName (g := (mkF m 15 #[.val (.ref p0), .val (.ref p1), .val (.ref p1)] [(.ref p0)])) rfl rfl (hb hby d12_15)
  have pre7 : ∀ t, Steps p.tables e below (T6.setTop (mkF m 19 #[.val (.ref p0), .val (.ref p1), .val (.ref p1)] [(.ref p1), (.ref s0_)])) t → Steps p.tables e below (s₁.setTop (entryFrame m #[(.ref p0), (.ref p1)] 3)) t := by
    intro t k
    refine pre5 t ?_
    show Steps p.tables e below (T4.setTop (mkF m 15 #[.val (.ref p0), .val (.ref p1), .val (.ref p1)] [(.ref p0)])) _
    refine st6 _ ?_
    show Steps p.tables e below (T6.setTop (mkF m 18 #[.val (.ref p0), .val (.ref p1), .val (.ref p1)] [(.ref s0_)])) _
    refine XS.aloadN X6.here hx rfl (hb hby d12_18) rfl rfl ?_
    exact k
  obtain ⟨T8, X8, e8, st8⟩ := getF X6 hx hZ hown (host := "") (Or.inl (hw _ (List.mem_of_getElem? (i := 54) rfl))) Via.refl e6 F_p1_brokerName (g := (mkF m 19 #[.val (.ref p0), .val (.ref p1), .val (.ref p1)] [(.ref p1), (.ref s0_)])) rfl rfl (hb hby d12_19)
  have pre10 : ∀ t, Steps p.tables e below (T8.setTop (mkF m 22 #[.val (.ref p0), .val (.ref p1), .val (.ref p1)] [(.ref s1_), (.ref s0_)])) t → Steps p.tables e below (s₁.setTop (entryFrame m #[(.ref p0), (.ref p1)] 3)) t := by
    intro t k
    refine pre7 t ?_
    show Steps p.tables e below (T6.setTop (mkF m 19 #[.val (.ref p0), .val (.ref p1), .val (.ref p1)] [(.ref p1), (.ref s0_)])) _
    refine st8 _ ?_
    exact k
  obtain ⟨cq9, kq9, q9a, q9b, q9c⟩ := isOf hZ e8 E_s0_
  obtain ⟨_, _, ⟨T9, L9, k9, n9⟩, -, X9, ⟨Lc9, hQ9, l9, y9, z9⟩, st9⟩ := X8.virtualBack hx (y := (⟨"java/lang/String", "equals", "(Ljava/lang/Object;)Z"⟩ : MethodName)) (z := (⟨"java/lang/String", "equals", "(Ljava/lang/Object;)Z"⟩ : MethodName)) hown (mvT hZ (hw _ (List.mem_of_getElem? (i := 68) rfl))) (mvT hZ (hw _ (List.mem_of_getElem? (i := 69) rfl))) (notFace_of_selects (args := #[]) (mvT hZ (hw _ (List.mem_of_getElem? (i := 71) rfl)))) (mvT hZ (hw _ (List.mem_of_getElem? (i := 71) rfl))) (mvT hZ (hw _ (List.mem_of_getElem? (i := 70) rfl))) (by decide) (backOf (W := 0) (rm_13e3 l Z a0 hw [] s0_ s1_ cs_ v0_ v1_ x_ y_ h0 n0 Z0 ne_s0__s1_ E_s1_ S_COMPACT_STRINGS hcs F_s0__value F_s0__coder F_s1__value F_s1__coder A_v0_ A_v1_) hZ (hw _ (List.mem_of_getElem? (i := 72) rfl)) (hw _ (List.mem_of_getElem? (i := 12) rfl)) (by decide) (by decide)) q9a q9c (g := (mkF m 22 #[.val (.ref p0), .val (.ref p1), .val (.ref p1)] [(.ref s1_), (.ref s0_)])) rfl (by rw [hml]; rfl) (Steps.refl _) (argsL := [(.ref s1_)]) (rest := []) (lenOf pd_7 rfl) rfl (by show 2 * 0 + _ ≤ _; exact Nat.le_of_eq rfl) (hb hby d12_22) (fun _ _ => ⟨rfl, e8, (by decide : 0 + 0 ≤ _), (by decide : 0 + 0 ≤ _)⟩)
  dsimp only [Pt.U, Pt.locs, Pt.cells, Pt.slots] at X9 l9 y9 z9 st9 hQ9
  rw [l9, y9, z9] at X9
  obtain ⟨rfl, N9q, e9⟩ := hQ9
  have N9 := Fr.app N0 N9q
  have pre11 : ∀ t, Steps p.tables e below (T9.setTop (mkF m 25 #[.val (.ref p0), .val (.ref p1), .val (.ref p1)] [(.int (f_13e3 cs_ x_ y_))])) t → Steps p.tables e below (s₁.setTop (entryFrame m #[(.ref p0), (.ref p1)] 3)) t := by
    intro t k
    refine pre10 t ?_
    show Steps p.tables e below (T8.setTop (mkF m 22 #[.val (.ref p0), .val (.ref p1), .val (.ref p1)] [(.ref s1_), (.ref s0_)])) _
    refine st9.trans ?_
    exact k
  by_cases hc25 : (f_13e3 cs_ x_ y_) = (0 : Int32)
  · obtain ⟨fs, hr, hrun, hended, hW, hsame⟩ := X9.leave (v := some (.int (0 : Int32))) (fun h => by rw [Bd.returns] at h; cases h) (BodyLoose.notSynchronized Bd)
    refine ⟨_, _, pre11 _ ?_, hrun, hended, _, _, rfl, ?_, ⟨_, rfl⟩, hW, hsame.mono (by decide) (by decide)⟩
    · show Steps p.tables e below (T9.setTop (mkF m 25 #[.val (.ref p0), .val (.ref p1), .val (.ref p1)] [(.int (f_13e3 cs_ x_ y_))])) _
      refine XS.ifYes X9.here hx rfl (pc0 := 25) (pc' := 43) rfl (hb hby d12_25) rfl ((if0 _ _).trans (teq hc25).1) (by decide) (by decide) ?_
      show Steps p.tables e below (T9.setTop (mkF m 43 #[.val (.ref p0), .val (.ref p1), .val (.ref p1)] [])) _
      refine XS.iconst X9.here hx rfl (hb hby d12_43) ?_
      show Steps p.tables e below (T9.setTop (mkF m 44 #[.val (.ref p0), .val (.ref p1), .val (.ref p1)] [(.int (0 : Int32))])) _
      exact retN X9 hx (t := .boolean) Bd.returns (by simp) (hb hby d12_44) hr
    · show Q_12e3 Z p0 p1 s0_ i0_ s1_ i1_ cs_ v0_ v1_ x_ y_ h0 n0 _ T9.heap _
      rw [e9]
      exact ⟨congrArg (fun z => some (Value.int z)) (by exact (if_pos hc25).symm : (0 : Int32) = f_12e3 i0_ i1_ cs_ x_ y_), N9, rfl⟩
  · have pre12 : ∀ t, Steps p.tables e below (T9.setTop (mkF m 29 #[.val (.ref p0), .val (.ref p1), .val (.ref p1)] [(.ref p0)])) t → Steps p.tables e below (s₁.setTop (entryFrame m #[(.ref p0), (.ref p1)] 3)) t := by
      intro t k
      refine pre11 t ?_
      show Steps p.tables e below (T9.setTop (mkF m 25 #[.val (.ref p0), .val (.ref p1), .val (.ref p1)] [(.int (f_13e3 cs_ x_ y_))])) _
      refine XS.ifNo X9.here hx rfl (hb hby d12_25) rfl ((if0 _ _).trans (feq hc25).1) ?_
      show Steps p.tables e below (T9.setTop (mkF m 28 #[.val (.ref p0), .val (.ref p1), .val (.ref p1)] [])) _
      refine XS.aloadN X9.here hx rfl (hb hby d12_28) rfl rfl ?_
      exact k
    obtain ⟨T13, X13, e13, st13⟩ := getF X9 hx hZ hown (host := "") (Or.inl (hw _ (List.mem_of_getElem? (i := 56) rfl))) Via.refl e9 F_p0_queueId (g := (mkF m 29 #[.val (.ref p0), .val (.ref p1), .val (.ref p1)] [(.ref p0)])) rfl rfl (hb hby d12_29)
    have pre14 : ∀ t, Steps p.tables e below (T13.setTop (mkF m 33 #[.val (.ref p0), .val (.ref p1), .val (.ref p1)] [(.ref p1), (.int i0_)])) t → Steps p.tables e below (s₁.setTop (entryFrame m #[(.ref p0), (.ref p1)] 3)) t := by
      intro t k
      refine pre12 t ?_
      show Steps p.tables e below (T9.setTop (mkF m 29 #[.val (.ref p0), .val (.ref p1), .val (.ref p1)] [(.ref p0)])) _
      refine st13 _ ?_
      show Steps p.tables e below (T13.setTop (mkF m 32 #[.val (.ref p0), .val (.ref p1), .val (.ref p1)] [(.int i0_)])) _
      refine XS.aloadN X13.here hx rfl (hb hby d12_32) rfl rfl ?_
      exact k
    obtain ⟨T15, X15, e15, st15⟩ := getF X13 hx hZ hown (host := "") (Or.inl (hw _ (List.mem_of_getElem? (i := 56) rfl))) Via.refl e13 F_p1_queueId (g := (mkF m 33 #[.val (.ref p0), .val (.ref p1), .val (.ref p1)] [(.ref p1), (.int i0_)])) rfl rfl (hb hby d12_33)
    have pre16 : ∀ t, Steps p.tables e below (T15.setTop (mkF m 36 #[.val (.ref p0), .val (.ref p1), .val (.ref p1)] [(.int i1_), (.int i0_)])) t → Steps p.tables e below (s₁.setTop (entryFrame m #[(.ref p0), (.ref p1)] 3)) t := by
      intro t k
      refine pre14 t ?_
      show Steps p.tables e below (T13.setTop (mkF m 33 #[.val (.ref p0), .val (.ref p1), .val (.ref p1)] [(.ref p1), (.int i0_)])) _
      refine st15 _ ?_
      exact k
    obtain ⟨ms0_44, hms0_44⟩ : ∃ z : Int32, z = (if i0_ = i1_ then (1 : Int32) else (0 : Int32)) := ⟨_, rfl⟩
    have pre17 : ∀ t, Steps p.tables e below (T15.setTop (mkF m 44 #[.val (.ref p0), .val (.ref p1), .val (.ref p1)] [(.int ms0_44)])) t → Steps p.tables e below (s₁.setTop (entryFrame m #[(.ref p0), (.ref p1)] 3)) t := by
      intro t k
      refine pre16 t ?_
      by_cases hc36 : i0_ = i1_
      · show Steps p.tables e below (T15.setTop (mkF m 36 #[.val (.ref p0), .val (.ref p1), .val (.ref p1)] [(.int i1_), (.int i0_)])) _
        refine XS.icmpNo X15.here hx rfl (hb hby d12_36) rfl (teq hc36).2 ?_
        show Steps p.tables e below (T15.setTop (mkF m 39 #[.val (.ref p0), .val (.ref p1), .val (.ref p1)] [])) _
        refine XS.iconst X15.here hx rfl (hb hby d12_39) ?_
        show Steps p.tables e below (T15.setTop (mkF m 40 #[.val (.ref p0), .val (.ref p1), .val (.ref p1)] [(.int (1 : Int32))])) _
        refine XS.goto X15.here hx rfl (pc0 := 40) (pc' := 44) rfl (hb hby d12_40) (by decide) (by decide) ?_
        have qms0_44 : ms0_44 = (1 : Int32) := by rw [hms0_44, if_pos hc36]
        rw [qms0_44] at k
        exact k
      · show Steps p.tables e below (T15.setTop (mkF m 36 #[.val (.ref p0), .val (.ref p1), .val (.ref p1)] [(.int i1_), (.int i0_)])) _
        refine XS.icmpYes X15.here hx rfl (pc0 := 36) (pc' := 43) rfl (hb hby d12_36) rfl (feq hc36).2 (by decide) (by decide) ?_
        show Steps p.tables e below (T15.setTop (mkF m 43 #[.val (.ref p0), .val (.ref p1), .val (.ref p1)] [])) _
        refine XS.iconst X15.here hx rfl (hb hby d12_43) ?_
        have qms0_44 : ms0_44 = (0 : Int32) := by rw [hms0_44, if_neg hc36]
        rw [qms0_44] at k
        exact k
    have hnar : nar .boolean ms0_44 = ms0_44 := by rw [hms0_44]; (repeat' split) <;> rfl
    obtain ⟨fs, hr, hrun, hended, hW, hsame⟩ := X15.leave (v := some (.int ms0_44)) (fun h => by rw [Bd.returns] at h; cases h) (BodyLoose.notSynchronized Bd)
    refine ⟨_, _, pre17 _ ?_, hrun, hended, _, _, rfl, ?_, ⟨_, rfl⟩, hW, hsame.mono (by decide) (by decide)⟩
    · show Steps p.tables e below (T15.setTop (mkF m 44 #[.val (.ref p0), .val (.ref p1), .val (.ref p1)] [(.int ms0_44)])) _
      exact retN X15 hx (t := .boolean) Bd.returns (by simp) (hb hby d12_44) (by rw [hnar]; exact hr)
    · show Q_12e3 Z p0 p1 s0_ i0_ s1_ i1_ cs_ v0_ v1_ x_ y_ h0 n0 _ T15.heap _
      rw [e15]
      exact ⟨congrArg (fun z => some (Value.int z)) (by subst hms0_44; exact (if_neg hc25).symm : ms0_44 = f_12e3 i0_ i1_ cs_ x_ y_), N9, rfl⟩
theorem d14_34 : decode jdk_43_method_13_code 34 = .ok (.iconst 0, 1) := by decide +kernel
theorem d14_35 : decode jdk_43_method_13_code 35 = .ok (.ireturn, 1) := by decide +kernel
theorem ef_14ed (m : MethodId) (p0 : Addr) (p1 : Addr) : entryFrame m #[(.ref p0), (.ref p1)] 3 = mkF m 0 #[.val (.ref p0), .val (.ref p1), .unset] [] := by first | (simp [entryFrame, mkF, argsToLocals, Value.category]; done) | rfl
def f_14ed (n_ : Nat) (x_ : Nat → Int32) (m_ : Nat) (y_ : Nat → Int32) : Int32 := (0 : Int32)
def Q_14ed (Z : State) (p0 : Addr) (p1 : Addr) (n_ : Nat) (x_ : Nat → Int32) (m_ : Nat) (y_ : Nat → Int32) (h0 : Heap) (n0 : Nat) (v : Option Value) (h : Heap) (L : List Loc) : Prop := v = some (.int (f_14ed n_ x_ m_ y_)) ∧ Fr n0 L ∧ h = h0
set_option maxRecDepth 65536 in
set_option maxHeartbeats 40000000 in
theorem rm_14ed (l : Launch) (Z : State) (a0 : Array Value) (hw : ∀ d ∈ tables_1, d.before a0 Z = true) (ws : List Jvm.Cond) (p0 : Addr) (p1 : Addr) (n_ : Nat) (x_ : Nat → Int32) (m_ : Nat) (y_ : Nat → Int32) (h0 : Heap) (n0 : Nat) (Z0 : n0 ≤ h0.size) (A_p0 : own_A Z h0 p0 .byte n_ (fun i => .int (x_ i))) (A_p1 : own_A Z h0 p1 .byte m_ (fun i => .int (y_ i))) (hne_ : ¬ (Nat.toInt32 n_ = Nat.toInt32 m_)) :
    MetFree l (⟨"java/lang/StringLatin1", "equals", "([B[B)Z"⟩ : MethodName) (head1 (Jvm.Cond.code (⟨"java/lang/StringLatin1", "equals", "([B[B)Z"⟩ : MethodName) jdk_43_method_13_code 3 (some .boolean) :: ws) ({ frames := 0, cells := 0, slots := 0, locals := 0 } : Room)) (fun a U => a = #[(.ref p0), (.ref p1)] ∧ Z.Warmed39 U.vm ∧ U.heap = h0) (fun _ _ _ _ _ => True) (fun _ U o U' => ∃ v L, o = .returned v ∧ Q_14ed Z p0 p1 n_ x_ m_ y_ h0 n0 v U'.heap L ∧ FrameEnd U o U' L ({ frames := 0, cells := 0, slots := 0, locals := 0 } : Room).cells ({ frames := 0, cells := 0, slots := 0, locals := 0 } : Room).slots) := by
  refine MetFree.of_bodySF (plainFor_of_name pn_14) hisR ?_
  intro p e s m args below meth c s₁ Bd hml0 hP hK
  obtain ⟨rfl, hZ, hh⟩ := hP
  have hx := Bd.exec
  have hby := Bd.bytes
  have hml : c.maxLocals = 3 := hml0
  have hown : s.vm.findClass "java/lang/StringLatin1" = some m.cls := findClass_of_methodNamed Bd.named
  have hnm := (name_of_methodNamed Bd.named Bd.method).1
  have X0 : Stand p l e ({ frames := 0, cells := 0, slots := 0, locals := 0 } : Room) s m #[(.ref p0), (.ref p1)] below meth c s₁ [] 0 0 := Stand.of_body Bd
  have e0 : s₁.heap = h0 := by rw [← hh, Bd.state]; rfl
  have N0 := Fr.nil n0
  have K0 : Keep h0 h0 [] := Keep.refl h0 _
  have pre0 : ∀ t, Steps p.tables e below (s₁.setTop (mkF m 0 #[.val (.ref p0), .val (.ref p1), .unset] [])) t → Steps p.tables e below (s₁.setTop (entryFrame m #[(.ref p0), (.ref p1)] 3)) t := fun t k => castTop (ef_14ed m p0 p1) k
  obtain ⟨fs, hr, hrun, hended, hW, hsame⟩ := X0.leave (v := some (.int (0 : Int32))) (fun h => by rw [Bd.returns] at h; cases h) (BodyLoose.notSynchronized Bd)
  refine ⟨_, _, pre0 _ ?_, hrun, hended, _, _, rfl, ?_, ⟨_, rfl⟩, hW, hsame.mono (by decide) (by decide)⟩
  · show Steps p.tables e below (s₁.setTop (mkF m 0 #[.val (.ref p0), .val (.ref p1), .unset] [])) _
    refine XS.aloadN X0.here hx rfl (hb hby d14_0) rfl rfl ?_
    show Steps p.tables e below (s₁.setTop (mkF m 1 #[.val (.ref p0), .val (.ref p1), .unset] [(.ref p0)])) _
    refine own_len X0 hx hZ e0 A_p0 (z := (Nat.toInt32 n_)) rfl (g := (mkF m 1 #[.val (.ref p0), .val (.ref p1), .unset] [(.ref p0)])) rfl rfl (hb hby d14_1) ?_
    show Steps p.tables e below (s₁.setTop (mkF m 2 #[.val (.ref p0), .val (.ref p1), .unset] [(.int (Nat.toInt32 n_))])) _
    refine XS.aloadN X0.here hx rfl (hb hby d14_2) rfl rfl ?_
    show Steps p.tables e below (s₁.setTop (mkF m 3 #[.val (.ref p0), .val (.ref p1), .unset] [(.ref p1), (.int (Nat.toInt32 n_))])) _
    refine own_len X0 hx hZ e0 A_p1 (z := (Nat.toInt32 m_)) rfl (g := (mkF m 3 #[.val (.ref p0), .val (.ref p1), .unset] [(.ref p1), (.int (Nat.toInt32 n_))])) rfl rfl (hb hby d14_3) ?_
    show Steps p.tables e below (s₁.setTop (mkF m 4 #[.val (.ref p0), .val (.ref p1), .unset] [(.int (Nat.toInt32 m_)), (.int (Nat.toInt32 n_))])) _
    refine XS.icmpYes X0.here hx rfl (pc0 := 4) (pc' := 34) rfl (hb hby d14_4) rfl (feq (hne_ : ¬ ((Nat.toInt32 n_) = (Nat.toInt32 m_)))).2 (by decide) (by decide) ?_
    show Steps p.tables e below (s₁.setTop (mkF m 34 #[.val (.ref p0), .val (.ref p1), .unset] [])) _
    refine XS.iconst X0.here hx rfl (hb hby d14_34) ?_
    show Steps p.tables e below (s₁.setTop (mkF m 35 #[.val (.ref p0), .val (.ref p1), .unset] [(.int (0 : Int32))])) _
    exact retN X0 hx (t := .boolean) Bd.returns (by simp) (hb hby d14_35) hr
  · show Q_14ed Z p0 p1 n_ x_ m_ y_ h0 n0 _ s₁.heap _
    rw [e0]
    exact ⟨congrArg (fun z => some (Value.int z)) (by rfl : (0 : Int32) = f_14ed n_ x_ m_ y_), N0, rfl⟩
theorem ef_13ed (m : MethodId) (p0 : Addr) (p1 : Addr) : entryFrame m #[(.ref p0), (.ref p1)] 3 = mkF m 0 #[.val (.ref p0), .val (.ref p1), .unset] [] := by first | (simp [entryFrame, mkF, argsToLocals, Value.category]; done) | rfl
def f_13ed (cs_ : Int32) (n_ : Nat) (x_ : Nat → Int32) (m_ : Nat) (y_ : Nat → Int32) : Int32 := let ms0_55 : Int32 := (if (f_14ed n_ x_ m_ y_) = (0 : Int32) then (0 : Int32) else (1 : Int32)); ms0_55
def Q_13ed (Z : State) (p0 : Addr) (p1 : Addr) (cs_ : Int32) (v0_ : Addr) (v1_ : Addr) (n_ : Nat) (x_ : Nat → Int32) (m_ : Nat) (y_ : Nat → Int32) (h0 : Heap) (n0 : Nat) (v : Option Value) (h : Heap) (L : List Loc) : Prop := v = some (.int (f_13ed cs_ n_ x_ m_ y_)) ∧ Fr n0 L ∧ h = h0
set_option maxRecDepth 65536 in
set_option maxHeartbeats 40000000 in
theorem rm_13ed (l : Launch) (Z : State) (a0 : Array Value) (hw : ∀ d ∈ tables_1, d.before a0 Z = true) (ws : List Jvm.Cond) (p0 : Addr) (p1 : Addr) (cs_ : Int32) (v0_ : Addr) (v1_ : Addr) (n_ : Nat) (x_ : Nat → Int32) (m_ : Nat) (y_ : Nat → Int32) (h0 : Heap) (n0 : Nat) (Z0 : n0 ≤ h0.size) (ne_p0_p1 : p0 ≠ p1) (E_p1 : Exa Z h0 p1 "java/lang/String") (S_COMPACT_STRINGS : Sta Z h0 "java/lang/String" "COMPACT_STRINGS" "Z" (.int cs_)) (hcs : ¬ (cs_ = (0 : Int32))) (F_p0_value : Fld Z h0 p0 "java/lang/String" "value" "[B" (.ref v0_)) (F_p0_coder : Fld Z h0 p0 "java/lang/String" "coder" "B" (.int (0 : Int32))) (F_p1_value : Fld Z h0 p1 "java/lang/String" "value" "[B" (.ref v1_)) (F_p1_coder : Fld Z h0 p1 "java/lang/String" "coder" "B" (.int (0 : Int32))) (A_v0_ : own_A Z h0 v0_ .byte n_ (fun i => .int (x_ i))) (A_v1_ : own_A Z h0 v1_ .byte m_ (fun i => .int (y_ i))) (hne_ : ¬ (Nat.toInt32 n_ = Nat.toInt32 m_)) :
    MetFree l (⟨"java/lang/String", "equals", "(Ljava/lang/Object;)Z"⟩ : MethodName) (head1 (Jvm.Cond.code (⟨"java/lang/String", "equals", "(Ljava/lang/Object;)Z"⟩ : MethodName) jdk_42_method_66_code 3 (some .boolean) :: ws) ({ frames := 1, cells := 0, slots := 0, locals := 14 } : Room)) (fun a U => a = #[(.ref p0), (.ref p1)] ∧ Z.Warmed39 U.vm ∧ U.heap = h0) (fun _ _ _ _ _ => True) (fun _ U o U' => ∃ v L, o = .returned v ∧ Q_13ed Z p0 p1 cs_ v0_ v1_ n_ x_ m_ y_ h0 n0 v U'.heap L ∧ FrameEnd U o U' L ({ frames := 1, cells := 0, slots := 0, locals := 14 } : Room).cells ({ frames := 1, cells := 0, slots := 0, locals := 14 } : Room).slots) := by
  refine MetFree.of_bodySF (plainFor_of_name pn_13) hisR ?_
  intro p e s m args below meth c s₁ Bd hml0 hP hK
  obtain ⟨rfl, hZ, hh⟩ := hP
  have hx := Bd.exec
  have hby := Bd.bytes
  have hml : c.maxLocals = 3 := hml0
  have hown : s.vm.findClass "java/lang/String" = some m.cls := findClass_of_methodNamed Bd.named
  have hnm := (name_of_methodNamed Bd.named Bd.method).1
  have X0 : Stand p l e ({ frames := 1, cells := 0, slots := 0, locals := 14 } : Room) s m #[(.ref p0), (.ref p1)] below meth c s₁ [] 0 0 := Stand.of_body Bd
  have e0 : s₁.heap = h0 := by rw [← hh, Bd.state]; rfl
  have N0 := Fr.nil n0
  have K0 : Keep h0 h0 [] := Keep.refl h0 _
  have pre0 : ∀ t, Steps p.tables e below (s₁.setTop (mkF m 0 #[.val (.ref p0), .val (.ref p1), .unset] [])) t → Steps p.tables e below (s₁.setTop (entryFrame m #[(.ref p0), (.ref p1)] 3)) t := fun t k => castTop (ef_13ed m p0 p1) k
  have pre1 : ∀ t, Steps p.tables e below (s₁.setTop (mkF m 8 #[.val (.ref p0), .val (.ref p1), .unset] [(.ref p1)])) t → Steps p.tables e below (s₁.setTop (entryFrame m #[(.ref p0), (.ref p1)] 3)) t := by
    intro t k
    refine pre0 t ?_
    show Steps p.tables e below (s₁.setTop (mkF m 0 #[.val (.ref p0), .val (.ref p1), .unset] [])) _
    refine XS.aloadN X0.here hx rfl (hb hby d13_0) rfl rfl ?_
    show Steps p.tables e below (s₁.setTop (mkF m 1 #[.val (.ref p0), .val (.ref p1), .unset] [(.ref p0)])) _
    refine XS.aloadN X0.here hx rfl (hb hby d13_1) rfl rfl ?_
    show Steps p.tables e below (s₁.setTop (mkF m 2 #[.val (.ref p0), .val (.ref p1), .unset] [(.ref p1), (.ref p0)])) _
    refine Jvm.RoadKit.acmp (g := (mkF m 2 #[.val (.ref p0), .val (.ref p1), .unset] [(.ref p1), (.ref p0)])) X0 hx rfl rfl rfl (pc0 := 2) (pc' := 7) (same := false) rfl (hb hby d13_2) rfl (decide_eq_false fun q => (ne_p0_p1 : p0 ≠ p1) (Value.ref.inj q)) (by decide) (by decide) ?_
    show Steps p.tables e below (s₁.setTop (mkF m 7 #[.val (.ref p0), .val (.ref p1), .unset] [])) _
    refine XS.aloadN X0.here hx rfl (hb hby d13_7) rfl rfl ?_
    exact k
  obtain ⟨T2, X2, e2, st2⟩ := instY X0 hx hZ hown (hw _ (List.mem_of_getElem? (i := 73) rfl)) e0 (Ins.self E_p1) (g := (mkF m 8 #[.val (.ref p0), .val (.ref p1), .unset] [(.ref p1)])) rfl rfl (hb hby d13_8)
  have pre3 : ∀ t, Steps p.tables e below (T2.setTop (mkF m 15 #[.val (.ref p0), .val (.ref p1), .unset] [(.ref p1)])) t → Steps p.tables e below (s₁.setTop (entryFrame m #[(.ref p0), (.ref p1)] 3)) t := by
    intro t k
    refine pre1 t ?_
    show Steps p.tables e below (s₁.setTop (mkF m 8 #[.val (.ref p0), .val (.ref p1), .unset] [(.ref p1)])) _
    refine st2 _ ?_
    show Steps p.tables e below (T2.setTop (mkF m 11 #[.val (.ref p0), .val (.ref p1), .unset] [(.int (1 : Int32))])) _
    refine XS.ifNo X2.here hx rfl (hb hby d13_11) rfl ((if0 _ _).trans (feq (by decide : ¬ ((1 : Int32) = (0 : Int32)))).1) ?_
    show Steps p.tables e below (T2.setTop (mkF m 14 #[.val (.ref p0), .val (.ref p1), .unset] [])) _
    refine XS.aloadN X2.here hx rfl (hb hby d13_14) rfl rfl ?_
    exact k
  obtain ⟨T4, X4, e4, st4⟩ := castY X2 hx hZ hown (hw _ (List.mem_of_getElem? (i := 73) rfl)) e2 (Ins.self E_p1) (g := (mkF m 15 #[.val (.ref p0), .val (.ref p1), .unset] [(.ref p1)])) rfl rfl (hb hby d13_15)
  have pre5 : ∀ t, Steps p.tables e below (T4.setTop (mkF m 19 #[.val (.ref p0), .val (.ref p1), .val (.ref p1)] [])) t → Steps p.tables e below (s₁.setTop (entryFrame m #[(.ref p0), (.ref p1)] 3)) t := by
    intro t k
    refine pre3 t ?_
    show Steps p.tables e below (T2.setTop (mkF m 15 #[.val (.ref p0), .val (.ref p1), .unset] [(.ref p1)])) _
    refine st4 _ ?_
    show Steps p.tables e below (T4.setTop (mkF m 18 #[.val (.ref p0), .val (.ref p1), .unset] [(.ref p1)])) _
    refine XS.astoreN X4.here hx rfl (hb hby d13_18) rfl rfl (l' := #[.val (.ref p0), .val (.ref p1), .val (.ref p1)]) rfl ?_
    exact k
  obtain ⟨T6, X6, e6, st6⟩ := getS2 X4 hx hZ hown (host := "") (Or.inl (hw _ (List.mem_of_getElem? (i := 23) rfl))) Via.refl e4 S_COMPACT_STRINGS (g := (mkF m 19 #[.val (.ref p0), .val (.ref p1), .val (.ref p1)] [])) rfl (hb hby d13_19)
  have pre7 : ∀ t, Steps p.tables e below (T6.setTop (mkF m 26 #[.val (.ref p0), .val (.ref p1), .val (.ref p1)] [(.ref p0)])) t → Steps p.tables e below (s₁.setTop (entryFrame m #[(.ref p0), (.ref p1)] 3)) t := by
    intro t k
    refine pre5 t ?_
    show Steps p.tables e below (T4.setTop (mkF m 19 #[.val (.ref p0), .val (.ref p1), .val (.ref p1)] [])) _
    refine st6 _ ?_
    show Steps p.tables e below (T6.setTop (mkF m 22 #[.val (.ref p0), .val (.ref p1), .val (.ref p1)] [(.int cs_)])) _
    refine XS.ifNo X6.here hx rfl (hb hby d13_22) rfl ((if0 _ _).trans (feq (hcs : ¬ (cs_ = (0 : Int32)))).1) ?_
    show Steps p.tables e below (T6.setTop (mkF m 25 #[.val (.ref p0), .val (.ref p1), .val (.ref p1)] [])) _
    refine XS.aloadN X6.here hx rfl (hb hby d13_25) rfl rfl ?_
    exact k
  obtain ⟨T8, X8, e8, st8⟩ := getF X6 hx hZ hown (host := "") (Or.inl (hw _ (List.mem_of_getElem? (i := 35) rfl))) Via.refl e6 F_p0_coder (g := (mkF m 26 #[.val (.ref p0), .val (.ref p1), .val (.ref p1)] [(.ref p0)])) rfl rfl (hb hby d13_26)
  have pre9 : ∀ t, Steps p.tables e below (T8.setTop (mkF m 30 #[.val (.ref p0), .val (.ref p1), .val (.ref p1)] [(.ref p1), (.int (0 : Int32))])) t → Steps p.tables e below (s₁.setTop (entryFrame m #[(.ref p0), (.ref p1)] 3)) t := by
    intro t k
    refine pre7 t ?_
    show Steps p.tables e below (T6.setTop (mkF m 26 #[.val (.ref p0), .val (.ref p1), .val (.ref p1)] [(.ref p0)])) _
    refine st8 _ ?_
    show Steps p.tables e below (T8.setTop (mkF m 29 #[.val (.ref p0), .val (.ref p1), .val (.ref p1)] [(.int (0 : Int32))])) _
    refine XS.aloadN X8.here hx rfl (hb hby d13_29) rfl rfl ?_
    exact k
  obtain ⟨T10, X10, e10, st10⟩ := getF X8 hx hZ hown (host := "") (Or.inl (hw _ (List.mem_of_getElem? (i := 35) rfl))) Via.refl e8 F_p1_coder (g := (mkF m 30 #[.val (.ref p0), .val (.ref p1), .val (.ref p1)] [(.ref p1), (.int (0 : Int32))])) rfl rfl (hb hby d13_30)
  have pre11 : ∀ t, Steps p.tables e below (T10.setTop (mkF m 37 #[.val (.ref p0), .val (.ref p1), .val (.ref p1)] [(.ref p0)])) t → Steps p.tables e below (s₁.setTop (entryFrame m #[(.ref p0), (.ref p1)] 3)) t := by
    intro t k
    refine pre9 t ?_
    show Steps p.tables e below (T8.setTop (mkF m 30 #[.val (.ref p0), .val (.ref p1), .val (.ref p1)] [(.ref p1), (.int (0 : Int32))])) _
    refine st10 _ ?_
    show Steps p.tables e below (T10.setTop (mkF m 33 #[.val (.ref p0), .val (.ref p1), .val (.ref p1)] [(.int (0 : Int32)), (.int (0 : Int32))])) _
    refine XS.icmpNo X10.here hx rfl (hb hby d13_33) rfl (teq (by decide : (0 : Int32) = (0 : Int32))).2 ?_
    show Steps p.tables e below (T10.setTop (mkF m 36 #[.val (.ref p0), .val (.ref p1), .val (.ref p1)] [])) _
    refine XS.aloadN X10.here hx rfl (hb hby d13_36) rfl rfl ?_
    exact k
  obtain ⟨T12, X12, e12, st12⟩ := getF X10 hx hZ hown (host := "") (Or.inl (hw _ (List.mem_of_getElem? (i := 37) rfl))) Via.refl e10 F_p0_value (g := (mkF m 37 #[.val (.ref p0), .val (.ref p1), .val (.ref p1)] [(.ref p0)])) rfl rfl (hb hby d13_37)
  have pre13 : ∀ t, Steps p.tables e below (T12.setTop (mkF m 41 #[.val (.ref p0), .val (.ref p1), .val (.ref p1)] [(.ref p1), (.ref v0_)])) t → Steps p.tables e below (s₁.setTop (entryFrame m #[(.ref p0), (.ref p1)] 3)) t := by
    intro t k
    refine pre11 t ?_
    show Steps p.tables e below (T10.setTop (mkF m 37 #[.val (.ref p0), .val (.ref p1), .val (.ref p1)] [(.ref p0)])) _
    refine st12 _ ?_
    show Steps p.tables e below (T12.setTop (mkF m 40 #[.val (.ref p0), .val (.ref p1), .val (.ref p1)] [(.ref v0_)])) _
    refine XS.aloadN X12.here hx rfl (hb hby d13_40) rfl rfl ?_
    exact k
  obtain ⟨T14, X14, e14, st14⟩ := getF X12 hx hZ hown (host := "") (Or.inl (hw _ (List.mem_of_getElem? (i := 37) rfl))) Via.refl e12 F_p1_value (g := (mkF m 41 #[.val (.ref p0), .val (.ref p1), .val (.ref p1)] [(.ref p1), (.ref v0_)])) rfl rfl (hb hby d13_41)
  have pre16 : ∀ t, Steps p.tables e below (T14.setTop (mkF m 44 #[.val (.ref p0), .val (.ref p1), .val (.ref p1)] [(.ref v1_), (.ref v0_)])) t → Steps p.tables e below (s₁.setTop (entryFrame m #[(.ref p0), (.ref p1)] 3)) t := by
    intro t k
    refine pre13 t ?_
    show Steps p.tables e below (T12.setTop (mkF m 41 #[.val (.ref p0), .val (.ref p1), .val (.ref p1)] [(.ref p1), (.ref v0_)])) _
    refine st14 _ ?_
    exact k
  obtain ⟨_, _, ⟨T15, L15, k15, n15⟩, -, X15, ⟨Lc15, hQ15, l15, y15, z15⟩, st15⟩ := Jvm.LawKit.callS X14 hx (y := (⟨"java/lang/StringLatin1", "equals", "([B[B)Z"⟩ : MethodName)) hown (mvT hZ (hw _ (List.mem_of_getElem? (i := 74) rfl))) (mvT hZ (hw _ (List.mem_of_getElem? (i := 75) rfl))) (mvT hZ (hw _ (List.mem_of_getElem? (i := 76) rfl))) (mvT hZ (hw _ (List.mem_of_getElem? (i := 77) rfl))) (by decide) (backOf (W := 0) (rm_14ed l Z a0 hw [] v0_ v1_ n_ x_ m_ y_ h0 n0 Z0 A_v0_ A_v1_ hne_) hZ (hw _ (List.mem_of_getElem? (i := 77) rfl)) (hw _ (List.mem_of_getElem? (i := 76) rfl)) (by decide) (by decide)) (g := (mkF m 44 #[.val (.ref p0), .val (.ref p1), .val (.ref p1)] [(.ref v1_), (.ref v0_)])) rfl (by rw [hml]; rfl) (argsL := [(.ref v0_), (.ref v1_)]) (rest := []) (lenOf pd_6 rfl) rfl (by show 2 * 0 + _ ≤ _; exact Nat.le_of_eq rfl) (hb hby d13_44) (fun _ _ => ⟨rfl, e14, (by decide : 0 + 0 ≤ _), (by decide : 0 + 0 ≤ _)⟩)
  dsimp only [Pt.U, Pt.locs, Pt.cells, Pt.slots] at X15 l15 y15 z15 st15 hQ15
  rw [l15, y15, z15] at X15
  obtain ⟨rfl, N15q, e15⟩ := hQ15
  have N15 := Fr.app N0 N15q
  have pre17 : ∀ t, Steps p.tables e below (T15.setTop (mkF m 47 #[.val (.ref p0), .val (.ref p1), .val (.ref p1)] [(.int (f_14ed n_ x_ m_ y_))])) t → Steps p.tables e below (s₁.setTop (entryFrame m #[(.ref p0), (.ref p1)] 3)) t := by
    intro t k
    refine pre16 t ?_
    show Steps p.tables e below (T14.setTop (mkF m 44 #[.val (.ref p0), .val (.ref p1), .val (.ref p1)] [(.ref v1_), (.ref v0_)])) _
    refine st15 _ ?_
    exact k
  obtain ⟨ms0_55, hms0_55⟩ : ∃ z : Int32, z = (if (f_14ed n_ x_ m_ y_) = (0 : Int32) then (0 : Int32) else (1 : Int32)) := ⟨_, rfl⟩
  have pre18 : ∀ t, Steps p.tables e below (T15.setTop (mkF m 55 #[.val (.ref p0), .val (.ref p1), .val (.ref p1)] [(.int ms0_55)])) t → Steps p.tables e below (s₁.setTop (entryFrame m #[(.ref p0), (.ref p1)] 3)) t := by
    intro t k
    refine pre17 t ?_
    by_cases hc47 : (f_14ed n_ x_ m_ y_) = (0 : Int32)
    · show Steps p.tables e below (T15.setTop (mkF m 47 #[.val (.ref p0), .val (.ref p1), .val (.ref p1)] [(.int (f_14ed n_ x_ m_ y_))])) _
      refine XS.ifYes X15.here hx rfl (pc0 := 47) (pc' := 54) rfl (hb hby d13_47) rfl ((if0 _ _).trans (teq hc47).1) (by decide) (by decide) ?_
      show Steps p.tables e below (T15.setTop (mkF m 54 #[.val (.ref p0), .val (.ref p1), .val (.ref p1)] [])) _
      refine XS.iconst X15.here hx rfl (hb hby d13_54) ?_
      have qms0_55 : ms0_55 = (0 : Int32) := by rw [hms0_55, if_pos hc47]
      rw [qms0_55] at k
      exact k
    · show Steps p.tables e below (T15.setTop (mkF m 47 #[.val (.ref p0), .val (.ref p1), .val (.ref p1)] [(.int (f_14ed n_ x_ m_ y_))])) _
      refine XS.ifNo X15.here hx rfl (hb hby d13_47) rfl ((if0 _ _).trans (feq hc47).1) ?_
      show Steps p.tables e below (T15.setTop (mkF m 50 #[.val (.ref p0), .val (.ref p1), .val (.ref p1)] [])) _
      refine XS.iconst X15.here hx rfl (hb hby d13_50) ?_
      show Steps p.tables e below (T15.setTop (mkF m 51 #[.val (.ref p0), .val (.ref p1), .val (.ref p1)] [(.int (1 : Int32))])) _
      refine XS.goto X15.here hx rfl (pc0 := 51) (pc' := 55) rfl (hb hby d13_51) (by decide) (by decide) ?_
      have qms0_55 : ms0_55 = (1 : Int32) := by rw [hms0_55, if_neg hc47]
      rw [qms0_55] at k
      exact k
  have hnar : nar .boolean ms0_55 = ms0_55 := by rw [hms0_55]; (repeat' split) <;> rfl
  obtain ⟨fs, hr, hrun, hended, hW, hsame⟩ := X15.leave (v := some (.int ms0_55)) (fun h => by rw [Bd.returns] at h; cases h) (BodyLoose.notSynchronized Bd)
  refine ⟨_, _, pre18 _ ?_, hrun, hended, _, _, rfl, ?_, ⟨_, rfl⟩, hW, hsame.mono (by decide) (by decide)⟩
  · show Steps p.tables e below (T15.setTop (mkF m 55 #[.val (.ref p0), .val (.ref p1), .val (.ref p1)] [(.int ms0_55)])) _
    exact retN X15 hx (t := .boolean) Bd.returns (by simp) (hb hby d13_55) (by rw [hnar]; exact hr)
  · show Q_13ed Z p0 p1 cs_ v0_ v1_ n_ x_ m_ y_ h0 n0 _ T15.heap _
    rw [e15]
    exact ⟨congrArg (fun z => some (Value.int z)) (by subst hms0_55; rfl : ms0_55 = f_13ed cs_ n_ x_ m_ y_), N15, rfl⟩
theorem ef_12ed (m : MethodId) (p0 : Addr) (p1 : Addr) : entryFrame m #[(.ref p0), (.ref p1)] 3 = mkF m 0 #[.val (.ref p0), .val (.ref p1), .unset] [] := by first | (simp [entryFrame, mkF, argsToLocals, Value.category]; done) | rfl
def f_12ed (i0_ : Int32) (i1_ : Int32) (cs_ : Int32) (n_ : Nat) (x_ : Nat → Int32) (m_ : Nat) (y_ : Nat → Int32) : Int32 := (if (f_13ed cs_ n_ x_ m_ y_) = (0 : Int32) then (0 : Int32) else let ms0_44 : Int32 := (if i0_ = i1_ then (1 : Int32) else (0 : Int32)); ms0_44)
def Q_12ed (Z : State) (p0 : Addr) (p1 : Addr) (s0_ : Addr) (i0_ : Int32) (s1_ : Addr) (i1_ : Int32) (cs_ : Int32) (v0_ : Addr) (v1_ : Addr) (n_ : Nat) (x_ : Nat → Int32) (m_ : Nat) (y_ : Nat → Int32) (h0 : Heap) (n0 : Nat) (v : Option Value) (h : Heap) (L : List Loc) : Prop := v = some (.int (f_12ed i0_ i1_ cs_ n_ x_ m_ y_)) ∧ Fr n0 L ∧ h = h0
set_option maxRecDepth 65536 in
set_option maxHeartbeats 40000000 in
theorem rm_12ed (l : Launch) (Z : State) (a0 : Array Value) (hw : ∀ d ∈ tables_1, d.before a0 Z = true) (ws : List Jvm.Cond) (p0 : Addr) (p1 : Addr) (s0_ : Addr) (i0_ : Int32) (s1_ : Addr) (i1_ : Int32) (cs_ : Int32) (v0_ : Addr) (v1_ : Addr) (n_ : Nat) (x_ : Nat → Int32) (m_ : Nat) (y_ : Nat → Int32) (h0 : Heap) (n0 : Nat) (Z0 : n0 ≤ h0.size) (ne_p0_p1 : p0 ≠ p1) (E_p1 : Exa Z h0 p1 "com/example/sequeue/sequeue/route/MessageQueue") (F_p0_brokerName : Fld Z h0 p0 "com/example/sequeue/sequeue/route/MessageQueue" "brokerName" "Ljava/lang/String;" (.ref s0_)) (F_p0_queueId : Fld Z h0 p0 "com/example/sequeue/sequeue/route/MessageQueue" "queueId" "I" (.int i0_)) (F_p1_brokerName : Fld Z h0 p1 "com/example/sequeue/sequeue/route/MessageQueue" "brokerName" "Ljava/lang/String;" (.ref s1_)) (F_p1_queueId : Fld Z h0 p1 "com/example/sequeue/sequeue/route/MessageQueue" "queueId" "I" (.int i1_)) (ne_s0__s1_ : s0_ ≠ s1_) (E_s0_ : Exa Z h0 s0_ "java/lang/String") (E_s1_ : Exa Z h0 s1_ "java/lang/String") (S_COMPACT_STRINGS : Sta Z h0 "java/lang/String" "COMPACT_STRINGS" "Z" (.int cs_)) (hcs : ¬ (cs_ = (0 : Int32))) (F_s0__value : Fld Z h0 s0_ "java/lang/String" "value" "[B" (.ref v0_)) (F_s0__coder : Fld Z h0 s0_ "java/lang/String" "coder" "B" (.int (0 : Int32))) (F_s1__value : Fld Z h0 s1_ "java/lang/String" "value" "[B" (.ref v1_)) (F_s1__coder : Fld Z h0 s1_ "java/lang/String" "coder" "B" (.int (0 : Int32))) (A_v0_ : own_A Z h0 v0_ .byte n_ (fun i => .int (x_ i))) (A_v1_ : own_A Z h0 v1_ .byte m_ (fun i => .int (y_ i))) (hne_ : ¬ (Nat.toInt32 n_ = Nat.toInt32 m_)) :
    MetFree l (⟨"com/example/sequeue/sequeue/route/MessageQueue", "equals", "(Ljava/lang/Object;)Z"⟩ : MethodName) (head1 (Jvm.Cond.code (⟨"com/example/sequeue/sequeue/route/MessageQueue", "equals", "(Ljava/lang/Object;)Z"⟩ : MethodName) prog_36_method_5_code 3 (some .boolean) :: ws) ({ frames := 2, cells := 0, slots := 0, locals := 28 } : Room)) (fun a U => a = #[(.ref p0), (.ref p1)] ∧ Z.Warmed39 U.vm ∧ U.heap = h0) (fun _ _ _ _ _ => True) (fun _ U o U' => ∃ v L, o = .returned v ∧ Q_12ed Z p0 p1 s0_ i0_ s1_ i1_ cs_ v0_ v1_ n_ x_ m_ y_ h0 n0 v U'.heap L ∧ FrameEnd U o U' L ({ frames := 2, cells := 0, slots := 0, locals := 28 } : Room).cells ({ frames := 2, cells := 0, slots := 0, locals := 28 } : Room).slots) := by
  refine MetFree.of_bodySF (plainFor_of_name pn_12) hisR ?_
  intro p e s m args below meth c s₁ Bd hml0 hP hK
  obtain ⟨rfl, hZ, hh⟩ := hP
  have hx := Bd.exec
  have hby := Bd.bytes
  have hml : c.maxLocals = 3 := hml0
  have hown : s.vm.findClass "com/example/sequeue/sequeue/route/MessageQueue" = some m.cls := findClass_of_methodNamed Bd.named
  have hnm := (name_of_methodNamed Bd.named Bd.method).1
  have X0 : Stand p l e ({ frames := 2, cells := 0, slots := 0, locals := 28 } : Room) s m #[(.ref p0), (.ref p1)] below meth c s₁ [] 0 0 := Stand.of_body Bd
  have e0 : s₁.heap = h0 := by rw [← hh, Bd.state]; rfl
  have N0 := Fr.nil n0
  have K0 : Keep h0 h0 [] := Keep.refl h0 _
  have pre0 : ∀ t, Steps p.tables e below (s₁.setTop (mkF m 0 #[.val (.ref p0), .val (.ref p1), .unset] [])) t → Steps p.tables e below (s₁.setTop (entryFrame m #[(.ref p0), (.ref p1)] 3)) t := fun t k => castTop (ef_12ed m p0 p1) k
  have pre1 : ∀ t, Steps p.tables e below (s₁.setTop (mkF m 1 #[.val (.ref p0), .val (.ref p1), .unset] [(.ref p1)])) t → Steps p.tables e below (s₁.setTop (entryFrame m #[(.ref p0), (.ref p1)] 3)) t := by
    intro t k
    refine pre0 t ?_
    show Steps p.tables e below (s₁.setTop (mkF m 0 #[.val (.ref p0), .val (.ref p1), .unset] [])) _
    refine XS.aloadN X0.here hx rfl (hb hby d12_0) rfl rfl ?_
    exact k
  obtain ⟨T2, X2, e2, st2⟩ := instY X0 hx hZ hown (hw _ (List.mem_of_getElem? (i := 66) rfl)) e0 (Ins.self E_p1) (g := (mkF m 1 #[.val (.ref p0), .val (.ref p1), .unset] [(.ref p1)])) rfl rfl (hb hby d12_1)
  have pre3 : ∀ t, Steps p.tables e below (T2.setTop (mkF m 10 #[.val (.ref p0), .val (.ref p1), .unset] [(.ref p1)])) t → Steps p.tables e below (s₁.setTop (entryFrame m #[(.ref p0), (.ref p1)] 3)) t := by
    intro t k
    refine pre1 t ?_
    show Steps p.tables e below (s₁.setTop (mkF m 1 #[.val (.ref p0), .val (.ref p1), .unset] [(.ref p1)])) _
    refine st2 _ ?_
    show Steps p.tables e below (T2.setTop (mkF m 4 #[.val (.ref p0), .val (.ref p1), .unset] [(.int (1 : Int32))])) _
    refine XS.ifYes X2.here hx rfl (pc0 := 4) (pc' := 9) rfl (hb hby d12_4) rfl ((if0 _ _).trans (feq (by decide : ¬ ((1 : Int32) = (0 : Int32)))).2) (by decide) (by decide) ?_
    show Steps p.tables e below (T2.setTop (mkF m 9 #[.val (.ref p0), .val (.ref p1), .unset] [])) _
    refine XS.aloadN X2.here hx rfl (hb hby d12_9) rfl rfl ?_
    exact k
  obtain ⟨T4, X4, e4, st4⟩ := castY X2 hx hZ hown (hw _ (List.mem_of_getElem? (i := 66) rfl)) e2 (Ins.self E_p1) (g := (mkF m 10 #[.val (.ref p0), .val (.ref p1), .unset] [(.ref p1)])) rfl rfl (hb hby d12_10)
  have pre5 : ∀ t, Steps p.tables e below (T4.setTop (mkF m 15 #[.val (.ref p0), .val (.ref p1), .val (.ref p1)] [(.ref p0)])) t → Steps p.tables e below (s₁.setTop (entryFrame m #[(.ref p0), (.ref p1)] 3)) t := by
    intro t k
    refine pre3 t ?_
    show Steps p.tables e below (T2.setTop (mkF m 10 #[.val (.ref p0), .val (.ref p1), .unset] [(.ref p1)])) _
    refine st4 _ ?_
    show Steps p.tables e below (T4.setTop (mkF m 13 #[.val (.ref p0), .val (.ref p1), .unset] [(.ref p1)])) _
    refine XS.astoreN X4.here hx rfl (hb hby d12_13) rfl rfl (l' := #[.val (.ref p0), .val (.ref p1), .val (.ref p1)]) rfl ?_
    show Steps p.tables e below (T4.setTop (mkF m 14 #[.val (.ref p0), .val (.ref p1), .val (.ref p1)] [])) _
    refine XS.aloadN X4.here hx rfl (hb hby d12_14) rfl rfl ?_
    exact k
  obtain ⟨T6, X6, e6, st6⟩ := getF X4 hx hZ hown (host := "") (Or.inl (hw _ (List.mem_of_getElem? (i := 54) rfl))) Via.refl e4 F_p0_brokerName (g := (mkF m 15 #[.val (.ref p0), .val (.ref p1), .val (.ref p1)] [(.ref p0)])) rfl rfl (hb hby d12_15)
  have pre7 : ∀ t, Steps p.tables e below (T6.setTop (mkF m 19 #[.val (.ref p0), .val (.ref p1), .val (.ref p1)] [(.ref p1), (.ref s0_)])) t → Steps p.tables e below (s₁.setTop (entryFrame m #[(.ref p0), (.ref p1)] 3)) t := by
    intro t k
    refine pre5 t ?_
    show Steps p.tables e below (T4.setTop (mkF m 15 #[.val (.ref p0), .val (.ref p1), .val (.ref p1)] [(.ref p0)])) _
    refine st6 _ ?_
    show Steps p.tables e below (T6.setTop (mkF m 18 #[.val (.ref p0), .val (.ref p1), .val (.ref p1)] [(.ref s0_)])) _
    refine XS.aloadN X6.here hx rfl (hb hby d12_18) rfl rfl ?_
    exact k
  obtain ⟨T8, X8, e8, st8⟩ := getF X6 hx hZ hown (host := "") (Or.inl (hw _ (List.mem_of_getElem? (i := 54) rfl))) Via.refl e6 F_p1_brokerName (g := (mkF m 19 #[.val (.ref p0), .val (.ref p1), .val (.ref p1)] [(.ref p1), (.ref s0_)])) rfl rfl (hb hby d12_19)
  have pre10 : ∀ t, Steps p.tables e below (T8.setTop (mkF m 22 #[.val (.ref p0), .val (.ref p1), .val (.ref p1)] [(.ref s1_), (.ref s0_)])) t → Steps p.tables e below (s₁.setTop (entryFrame m #[(.ref p0), (.ref p1)] 3)) t := by
    intro t k
    refine pre7 t ?_
    show Steps p.tables e below (T6.setTop (mkF m 19 #[.val (.ref p0), .val (.ref p1), .val (.ref p1)] [(.ref p1), (.ref s0_)])) _
    refine st8 _ ?_
    exact k
  obtain ⟨cq9, kq9, q9a, q9b, q9c⟩ := isOf hZ e8 E_s0_
  obtain ⟨_, _, ⟨T9, L9, k9, n9⟩, -, X9, ⟨Lc9, hQ9, l9, y9, z9⟩, st9⟩ := X8.virtualBack hx (y := (⟨"java/lang/String", "equals", "(Ljava/lang/Object;)Z"⟩ : MethodName)) (z := (⟨"java/lang/String", "equals", "(Ljava/lang/Object;)Z"⟩ : MethodName)) hown (mvT hZ (hw _ (List.mem_of_getElem? (i := 68) rfl))) (mvT hZ (hw _ (List.mem_of_getElem? (i := 69) rfl))) (notFace_of_selects (args := #[]) (mvT hZ (hw _ (List.mem_of_getElem? (i := 71) rfl)))) (mvT hZ (hw _ (List.mem_of_getElem? (i := 71) rfl))) (mvT hZ (hw _ (List.mem_of_getElem? (i := 70) rfl))) (by decide) (backOf (W := 0) (rm_13ed l Z a0 hw [] s0_ s1_ cs_ v0_ v1_ n_ x_ m_ y_ h0 n0 Z0 ne_s0__s1_ E_s1_ S_COMPACT_STRINGS hcs F_s0__value F_s0__coder F_s1__value F_s1__coder A_v0_ A_v1_ hne_) hZ (hw _ (List.mem_of_getElem? (i := 72) rfl)) (hw _ (List.mem_of_getElem? (i := 12) rfl)) (by decide) (by decide)) q9a q9c (g := (mkF m 22 #[.val (.ref p0), .val (.ref p1), .val (.ref p1)] [(.ref s1_), (.ref s0_)])) rfl (by rw [hml]; rfl) (Steps.refl _) (argsL := [(.ref s1_)]) (rest := []) (lenOf pd_7 rfl) rfl (by show 2 * 0 + _ ≤ _; exact Nat.le_of_eq rfl) (hb hby d12_22) (fun _ _ => ⟨rfl, e8, (by decide : 0 + 0 ≤ _), (by decide : 0 + 0 ≤ _)⟩)
  dsimp only [Pt.U, Pt.locs, Pt.cells, Pt.slots] at X9 l9 y9 z9 st9 hQ9
  rw [l9, y9, z9] at X9
  obtain ⟨rfl, N9q, e9⟩ := hQ9
  have N9 := Fr.app N0 N9q
  have pre11 : ∀ t, Steps p.tables e below (T9.setTop (mkF m 25 #[.val (.ref p0), .val (.ref p1), .val (.ref p1)] [(.int (f_13ed cs_ n_ x_ m_ y_))])) t → Steps p.tables e below (s₁.setTop (entryFrame m #[(.ref p0), (.ref p1)] 3)) t := by
    intro t k
    refine pre10 t ?_
    show Steps p.tables e below (T8.setTop (mkF m 22 #[.val (.ref p0), .val (.ref p1), .val (.ref p1)] [(.ref s1_), (.ref s0_)])) _
    refine st9.trans ?_
    exact k
  by_cases hc25 : (f_13ed cs_ n_ x_ m_ y_) = (0 : Int32)
  · obtain ⟨fs, hr, hrun, hended, hW, hsame⟩ := X9.leave (v := some (.int (0 : Int32))) (fun h => by rw [Bd.returns] at h; cases h) (BodyLoose.notSynchronized Bd)
    refine ⟨_, _, pre11 _ ?_, hrun, hended, _, _, rfl, ?_, ⟨_, rfl⟩, hW, hsame.mono (by decide) (by decide)⟩
    · show Steps p.tables e below (T9.setTop (mkF m 25 #[.val (.ref p0), .val (.ref p1), .val (.ref p1)] [(.int (f_13ed cs_ n_ x_ m_ y_))])) _
      refine XS.ifYes X9.here hx rfl (pc0 := 25) (pc' := 43) rfl (hb hby d12_25) rfl ((if0 _ _).trans (teq hc25).1) (by decide) (by decide) ?_
      show Steps p.tables e below (T9.setTop (mkF m 43 #[.val (.ref p0), .val (.ref p1), .val (.ref p1)] [])) _
      refine XS.iconst X9.here hx rfl (hb hby d12_43) ?_
      show Steps p.tables e below (T9.setTop (mkF m 44 #[.val (.ref p0), .val (.ref p1), .val (.ref p1)] [(.int (0 : Int32))])) _
      exact retN X9 hx (t := .boolean) Bd.returns (by simp) (hb hby d12_44) hr
    · show Q_12ed Z p0 p1 s0_ i0_ s1_ i1_ cs_ v0_ v1_ n_ x_ m_ y_ h0 n0 _ T9.heap _
      rw [e9]
      exact ⟨congrArg (fun z => some (Value.int z)) (by exact (if_pos hc25).symm : (0 : Int32) = f_12ed i0_ i1_ cs_ n_ x_ m_ y_), N9, rfl⟩
  · have pre12 : ∀ t, Steps p.tables e below (T9.setTop (mkF m 29 #[.val (.ref p0), .val (.ref p1), .val (.ref p1)] [(.ref p0)])) t → Steps p.tables e below (s₁.setTop (entryFrame m #[(.ref p0), (.ref p1)] 3)) t := by
      intro t k
      refine pre11 t ?_
      show Steps p.tables e below (T9.setTop (mkF m 25 #[.val (.ref p0), .val (.ref p1), .val (.ref p1)] [(.int (f_13ed cs_ n_ x_ m_ y_))])) _
      refine XS.ifNo X9.here hx rfl (hb hby d12_25) rfl ((if0 _ _).trans (feq hc25).1) ?_
      show Steps p.tables e below (T9.setTop (mkF m 28 #[.val (.ref p0), .val (.ref p1), .val (.ref p1)] [])) _
      refine XS.aloadN X9.here hx rfl (hb hby d12_28) rfl rfl ?_
      exact k
    obtain ⟨T13, X13, e13, st13⟩ := getF X9 hx hZ hown (host := "") (Or.inl (hw _ (List.mem_of_getElem? (i := 56) rfl))) Via.refl e9 F_p0_queueId (g := (mkF m 29 #[.val (.ref p0), .val (.ref p1), .val (.ref p1)] [(.ref p0)])) rfl rfl (hb hby d12_29)
    have pre14 : ∀ t, Steps p.tables e below (T13.setTop (mkF m 33 #[.val (.ref p0), .val (.ref p1), .val (.ref p1)] [(.ref p1), (.int i0_)])) t → Steps p.tables e below (s₁.setTop (entryFrame m #[(.ref p0), (.ref p1)] 3)) t := by
      intro t k
      refine pre12 t ?_
      show Steps p.tables e below (T9.setTop (mkF m 29 #[.val (.ref p0), .val (.ref p1), .val (.ref p1)] [(.ref p0)])) _
      refine st13 _ ?_
      show Steps p.tables e below (T13.setTop (mkF m 32 #[.val (.ref p0), .val (.ref p1), .val (.ref p1)] [(.int i0_)])) _
      refine XS.aloadN X13.here hx rfl (hb hby d12_32) rfl rfl ?_
      exact k
    obtain ⟨T15, X15, e15, st15⟩ := getF X13 hx hZ hown (host := "") (Or.inl (hw _ (List.mem_of_getElem? (i := 56) rfl))) Via.refl e13 F_p1_queueId (g := (mkF m 33 #[.val (.ref p0), .val (.ref p1), .val (.ref p1)] [(.ref p1), (.int i0_)])) rfl rfl (hb hby d12_33)
    have pre16 : ∀ t, Steps p.tables e below (T15.setTop (mkF m 36 #[.val (.ref p0), .val (.ref p1), .val (.ref p1)] [(.int i1_), (.int i0_)])) t → Steps p.tables e below (s₁.setTop (entryFrame m #[(.ref p0), (.ref p1)] 3)) t := by
      intro t k
      refine pre14 t ?_
      show Steps p.tables e below (T13.setTop (mkF m 33 #[.val (.ref p0), .val (.ref p1), .val (.ref p1)] [(.ref p1), (.int i0_)])) _
      refine st15 _ ?_
      exact k
    obtain ⟨ms0_44, hms0_44⟩ : ∃ z : Int32, z = (if i0_ = i1_ then (1 : Int32) else (0 : Int32)) := ⟨_, rfl⟩
    have pre17 : ∀ t, Steps p.tables e below (T15.setTop (mkF m 44 #[.val (.ref p0), .val (.ref p1), .val (.ref p1)] [(.int ms0_44)])) t → Steps p.tables e below (s₁.setTop (entryFrame m #[(.ref p0), (.ref p1)] 3)) t := by
      intro t k
      refine pre16 t ?_
      by_cases hc36 : i0_ = i1_
      · show Steps p.tables e below (T15.setTop (mkF m 36 #[.val (.ref p0), .val (.ref p1), .val (.ref p1)] [(.int i1_), (.int i0_)])) _
        refine XS.icmpNo X15.here hx rfl (hb hby d12_36) rfl (teq hc36).2 ?_
        show Steps p.tables e below (T15.setTop (mkF m 39 #[.val (.ref p0), .val (.ref p1), .val (.ref p1)] [])) _
        refine XS.iconst X15.here hx rfl (hb hby d12_39) ?_
        show Steps p.tables e below (T15.setTop (mkF m 40 #[.val (.ref p0), .val (.ref p1), .val (.ref p1)] [(.int (1 : Int32))])) _
        refine XS.goto X15.here hx rfl (pc0 := 40) (pc' := 44) rfl (hb hby d12_40) (by decide) (by decide) ?_
        have qms0_44 : ms0_44 = (1 : Int32) := by rw [hms0_44, if_pos hc36]
        rw [qms0_44] at k
        exact k
      · show Steps p.tables e below (T15.setTop (mkF m 36 #[.val (.ref p0), .val (.ref p1), .val (.ref p1)] [(.int i1_), (.int i0_)])) _
        refine XS.icmpYes X15.here hx rfl (pc0 := 36) (pc' := 43) rfl (hb hby d12_36) rfl (feq hc36).2 (by decide) (by decide) ?_
        show Steps p.tables e below (T15.setTop (mkF m 43 #[.val (.ref p0), .val (.ref p1), .val (.ref p1)] [])) _
        refine XS.iconst X15.here hx rfl (hb hby d12_43) ?_
        have qms0_44 : ms0_44 = (0 : Int32) := by rw [hms0_44, if_neg hc36]
        rw [qms0_44] at k
        exact k
    have hnar : nar .boolean ms0_44 = ms0_44 := by rw [hms0_44]; (repeat' split) <;> rfl
    obtain ⟨fs, hr, hrun, hended, hW, hsame⟩ := X15.leave (v := some (.int ms0_44)) (fun h => by rw [Bd.returns] at h; cases h) (BodyLoose.notSynchronized Bd)
    refine ⟨_, _, pre17 _ ?_, hrun, hended, _, _, rfl, ?_, ⟨_, rfl⟩, hW, hsame.mono (by decide) (by decide)⟩
    · show Steps p.tables e below (T15.setTop (mkF m 44 #[.val (.ref p0), .val (.ref p1), .val (.ref p1)] [(.int ms0_44)])) _
      exact retN X15 hx (t := .boolean) Bd.returns (by simp) (hb hby d12_44) (by rw [hnar]; exact hr)
    · show Q_12ed Z p0 p1 s0_ i0_ s1_ i1_ cs_ v0_ v1_ n_ x_ m_ y_ h0 n0 _ T15.heap _
      rw [e15]
      exact ⟨congrArg (fun z => some (Value.int z)) (by subst hms0_44; exact (if_neg hc25).symm : ms0_44 = f_12ed i0_ i1_ cs_ n_ x_ m_ y_), N9, rfl⟩
theorem d13_5 : decode jdk_42_method_66_code 5 = .ok (.iconst 1, 1) := by decide +kernel
theorem d13_6 : decode jdk_42_method_66_code 6 = .ok (.ireturn, 1) := by decide +kernel
theorem ef_13s (m : MethodId) (p0 : Addr) : entryFrame m #[(.ref p0), (.ref p0)] 3 = mkF m 0 #[.val (.ref p0), .val (.ref p0), .unset] [] := by first | (simp [entryFrame, mkF, argsToLocals, Value.category]; done) | rfl
def f_13s  : Int32 := (1 : Int32)
def Q_13s (Z : State) (p0 : Addr)  (h0 : Heap) (n0 : Nat) (v : Option Value) (h : Heap) (L : List Loc) : Prop := v = some (.int (f_13s )) ∧ Fr n0 L ∧ h = h0
set_option maxRecDepth 65536 in
set_option maxHeartbeats 40000000 in
theorem rm_13s (l : Launch) (Z : State) (a0 : Array Value) (hw : ∀ d ∈ tables_1, d.before a0 Z = true) (ws : List Jvm.Cond) (p0 : Addr)  (h0 : Heap) (n0 : Nat) (Z0 : n0 ≤ h0.size)  :
    MetFree l (⟨"java/lang/String", "equals", "(Ljava/lang/Object;)Z"⟩ : MethodName) (head1 (Jvm.Cond.code (⟨"java/lang/String", "equals", "(Ljava/lang/Object;)Z"⟩ : MethodName) jdk_42_method_66_code 3 (some .boolean) :: ws) ({ frames := 0, cells := 0, slots := 0, locals := 0 } : Room)) (fun a U => a = #[(.ref p0), (.ref p0)] ∧ Z.Warmed39 U.vm ∧ U.heap = h0) (fun _ _ _ _ _ => True) (fun _ U o U' => ∃ v L, o = .returned v ∧ Q_13s Z p0 h0 n0 v U'.heap L ∧ FrameEnd U o U' L ({ frames := 0, cells := 0, slots := 0, locals := 0 } : Room).cells ({ frames := 0, cells := 0, slots := 0, locals := 0 } : Room).slots) := by
  refine MetFree.of_bodySF (plainFor_of_name pn_13) hisR ?_
  intro p e s m args below meth c s₁ Bd hml0 hP hK
  obtain ⟨rfl, hZ, hh⟩ := hP
  have hx := Bd.exec
  have hby := Bd.bytes
  have hml : c.maxLocals = 3 := hml0
  have hown : s.vm.findClass "java/lang/String" = some m.cls := findClass_of_methodNamed Bd.named
  have hnm := (name_of_methodNamed Bd.named Bd.method).1
  have X0 : Stand p l e ({ frames := 0, cells := 0, slots := 0, locals := 0 } : Room) s m #[(.ref p0), (.ref p0)] below meth c s₁ [] 0 0 := Stand.of_body Bd
  have e0 : s₁.heap = h0 := by rw [← hh, Bd.state]; rfl
  have N0 := Fr.nil n0
  have K0 : Keep h0 h0 [] := Keep.refl h0 _
  have pre0 : ∀ t, Steps p.tables e below (s₁.setTop (mkF m 0 #[.val (.ref p0), .val (.ref p0), .unset] [])) t → Steps p.tables e below (s₁.setTop (entryFrame m #[(.ref p0), (.ref p0)] 3)) t := fun t k => castTop (ef_13s m p0) k
  obtain ⟨fs, hr, hrun, hended, hW, hsame⟩ := X0.leave (v := some (.int (1 : Int32))) (fun h => by rw [Bd.returns] at h; cases h) (BodyLoose.notSynchronized Bd)
  refine ⟨_, _, pre0 _ ?_, hrun, hended, _, _, rfl, ?_, ⟨_, rfl⟩, hW, hsame.mono (by decide) (by decide)⟩
  · show Steps p.tables e below (s₁.setTop (mkF m 0 #[.val (.ref p0), .val (.ref p0), .unset] [])) _
    refine XS.aloadN X0.here hx rfl (hb hby d13_0) rfl rfl ?_
    show Steps p.tables e below (s₁.setTop (mkF m 1 #[.val (.ref p0), .val (.ref p0), .unset] [(.ref p0)])) _
    refine XS.aloadN X0.here hx rfl (hb hby d13_1) rfl rfl ?_
    show Steps p.tables e below (s₁.setTop (mkF m 2 #[.val (.ref p0), .val (.ref p0), .unset] [(.ref p0), (.ref p0)])) _
    refine Jvm.RoadKit.acmp (g := (mkF m 2 #[.val (.ref p0), .val (.ref p0), .unset] [(.ref p0), (.ref p0)])) X0 hx rfl rfl rfl (pc0 := 2) (pc' := 5) (same := true) rfl (hb hby d13_2) rfl (decide_eq_true rfl) (by decide) (by decide) ?_
    show Steps p.tables e below (s₁.setTop (mkF m 5 #[.val (.ref p0), .val (.ref p0), .unset] [])) _
    refine XS.iconst X0.here hx rfl (hb hby d13_5) ?_
    show Steps p.tables e below (s₁.setTop (mkF m 6 #[.val (.ref p0), .val (.ref p0), .unset] [(.int (1 : Int32))])) _
    exact retN X0 hx (t := .boolean) Bd.returns (by simp) (hb hby d13_6) hr
  · show Q_13s Z p0 h0 n0 _ s₁.heap _
    rw [e0]
    exact ⟨congrArg (fun z => some (Value.int z)) (by rfl : (1 : Int32) = f_13s ), N0, rfl⟩
theorem ef_12s (m : MethodId) (p0 : Addr) : entryFrame m #[(.ref p0), (.ref p0)] 3 = mkF m 0 #[.val (.ref p0), .val (.ref p0), .unset] [] := by first | (simp [entryFrame, mkF, argsToLocals, Value.category]; done) | rfl
def f_12s (i0_ : Int32) : Int32 := (if f_13s = (0 : Int32) then (0 : Int32) else let ms0_44 : Int32 := (if i0_ = i0_ then (1 : Int32) else (0 : Int32)); ms0_44)
def Q_12s (Z : State) (p0 : Addr) (s0_ : Addr) (i0_ : Int32) (h0 : Heap) (n0 : Nat) (v : Option Value) (h : Heap) (L : List Loc) : Prop := v = some (.int (f_12s i0_)) ∧ Fr n0 L ∧ h = h0
set_option maxRecDepth 65536 in
set_option maxHeartbeats 40000000 in
theorem rm_12s (l : Launch) (Z : State) (a0 : Array Value) (hw : ∀ d ∈ tables_1, d.before a0 Z = true) (ws : List Jvm.Cond) (p0 : Addr) (s0_ : Addr) (i0_ : Int32) (h0 : Heap) (n0 : Nat) (Z0 : n0 ≤ h0.size) (E_p0 : Exa Z h0 p0 "com/example/sequeue/sequeue/route/MessageQueue") (F_p0_brokerName : Fld Z h0 p0 "com/example/sequeue/sequeue/route/MessageQueue" "brokerName" "Ljava/lang/String;" (.ref s0_)) (F_p0_queueId : Fld Z h0 p0 "com/example/sequeue/sequeue/route/MessageQueue" "queueId" "I" (.int i0_)) (E_s0_ : Exa Z h0 s0_ "java/lang/String") :
    MetFree l (⟨"com/example/sequeue/sequeue/route/MessageQueue", "equals", "(Ljava/lang/Object;)Z"⟩ : MethodName) (head1 (Jvm.Cond.code (⟨"com/example/sequeue/sequeue/route/MessageQueue", "equals", "(Ljava/lang/Object;)Z"⟩ : MethodName) prog_36_method_5_code 3 (some .boolean) :: ws) ({ frames := 1, cells := 0, slots := 0, locals := 14 } : Room)) (fun a U => a = #[(.ref p0), (.ref p0)] ∧ Z.Warmed39 U.vm ∧ U.heap = h0) (fun _ _ _ _ _ => True) (fun _ U o U' => ∃ v L, o = .returned v ∧ Q_12s Z p0 s0_ i0_ h0 n0 v U'.heap L ∧ FrameEnd U o U' L ({ frames := 1, cells := 0, slots := 0, locals := 14 } : Room).cells ({ frames := 1, cells := 0, slots := 0, locals := 14 } : Room).slots) := by
  refine MetFree.of_bodySF (plainFor_of_name pn_12) hisR ?_
  intro p e s m args below meth c s₁ Bd hml0 hP hK
  obtain ⟨rfl, hZ, hh⟩ := hP
  have hx := Bd.exec
  have hby := Bd.bytes
  have hml : c.maxLocals = 3 := hml0
  have hown : s.vm.findClass "com/example/sequeue/sequeue/route/MessageQueue" = some m.cls := findClass_of_methodNamed Bd.named
  have hnm := (name_of_methodNamed Bd.named Bd.method).1
  have X0 : Stand p l e ({ frames := 1, cells := 0, slots := 0, locals := 14 } : Room) s m #[(.ref p0), (.ref p0)] below meth c s₁ [] 0 0 := Stand.of_body Bd
  have e0 : s₁.heap = h0 := by rw [← hh, Bd.state]; rfl
  have N0 := Fr.nil n0
  have K0 : Keep h0 h0 [] := Keep.refl h0 _
  have pre0 : ∀ t, Steps p.tables e below (s₁.setTop (mkF m 0 #[.val (.ref p0), .val (.ref p0), .unset] [])) t → Steps p.tables e below (s₁.setTop (entryFrame m #[(.ref p0), (.ref p0)] 3)) t := fun t k => castTop (ef_12s m p0) k
  have pre1 : ∀ t, Steps p.tables e below (s₁.setTop (mkF m 1 #[.val (.ref p0), .val (.ref p0), .unset] [(.ref p0)])) t → Steps p.tables e below (s₁.setTop (entryFrame m #[(.ref p0), (.ref p0)] 3)) t := by
    intro t k
    refine pre0 t ?_
    show Steps p.tables e below (s₁.setTop (mkF m 0 #[.val (.ref p0), .val (.ref p0), .unset] [])) _
    refine XS.aloadN X0.here hx rfl (hb hby d12_0) rfl rfl ?_
    exact k
  obtain ⟨T2, X2, e2, st2⟩ := instY X0 hx hZ hown (hw _ (List.mem_of_getElem? (i := 66) rfl)) e0 (Ins.self E_p0) (g := (mkF m 1 #[.val (.ref p0), .val (.ref p0), .unset] [(.ref p0)])) rfl rfl (hb hby d12_1)
  have pre3 : ∀ t, Steps p.tables e below (T2.setTop (mkF m 10 #[.val (.ref p0), .val (.ref p0), .unset] [(.ref p0)])) t → Steps p.tables e below (s₁.setTop (entryFrame m #[(.ref p0), (.ref p0)] 3)) t := by
    intro t k
    refine pre1 t ?_
    show Steps p.tables e below (s₁.setTop (mkF m 1 #[.val (.ref p0), .val (.ref p0), .unset] [(.ref p0)])) _
    refine st2 _ ?_
    show Steps p.tables e below (T2.setTop (mkF m 4 #[.val (.ref p0), .val (.ref p0), .unset] [(.int (1 : Int32))])) _
    refine XS.ifYes X2.here hx rfl (pc0 := 4) (pc' := 9) rfl (hb hby d12_4) rfl ((if0 _ _).trans (feq (by decide : ¬ ((1 : Int32) = (0 : Int32)))).2) (by decide) (by decide) ?_
    show Steps p.tables e below (T2.setTop (mkF m 9 #[.val (.ref p0), .val (.ref p0), .unset] [])) _
    refine XS.aloadN X2.here hx rfl (hb hby d12_9) rfl rfl ?_
    exact k
  obtain ⟨T4, X4, e4, st4⟩ := castY X2 hx hZ hown (hw _ (List.mem_of_getElem? (i := 66) rfl)) e2 (Ins.self E_p0) (g := (mkF m 10 #[.val (.ref p0), .val (.ref p0), .unset] [(.ref p0)])) rfl rfl (hb hby d12_10)
  have pre5 : ∀ t, Steps p.tables e below (T4.setTop (mkF m 15 #[.val (.ref p0), .val (.ref p0), .val (.ref p0)] [(.ref p0)])) t → Steps p.tables e below (s₁.setTop (entryFrame m #[(.ref p0), (.ref p0)] 3)) t := by
    intro t k
    refine pre3 t ?_
    show Steps p.tables e below (T2.setTop (mkF m 10 #[.val (.ref p0), .val (.ref p0), .unset] [(.ref p0)])) _
    refine st4 _ ?_
    show Steps p.tables e below (T4.setTop (mkF m 13 #[.val (.ref p0), .val (.ref p0), .unset] [(.ref p0)])) _
    refine XS.astoreN X4.here hx rfl (hb hby d12_13) rfl rfl (l' := #[.val (.ref p0), .val (.ref p0), .val (.ref p0)]) rfl ?_
    show Steps p.tables e below (T4.setTop (mkF m 14 #[.val (.ref p0), .val (.ref p0), .val (.ref p0)] [])) _
    refine XS.aloadN X4.here hx rfl (hb hby d12_14) rfl rfl ?_
    exact k
  obtain ⟨T6, X6, e6, st6⟩ := getF X4 hx hZ hown (host := "") (Or.inl (hw _ (List.mem_of_getElem? (i := 54) rfl))) Via.refl e4 F_p0_brokerName (g := (mkF m 15 #[.val (.ref p0), .val (.ref p0), .val (.ref p0)] [(.ref p0)])) rfl rfl (hb hby d12_15)
  have pre7 : ∀ t, Steps p.tables e below (T6.setTop (mkF m 19 #[.val (.ref p0), .val (.ref p0), .val (.ref p0)] [(.ref p0), (.ref s0_)])) t → Steps p.tables e below (s₁.setTop (entryFrame m #[(.ref p0), (.ref p0)] 3)) t := by
    intro t k
    refine pre5 t ?_
    show Steps p.tables e below (T4.setTop (mkF m 15 #[.val (.ref p0), .val (.ref p0), .val (.ref p0)] [(.ref p0)])) _
    refine st6 _ ?_
    show Steps p.tables e below (T6.setTop (mkF m 18 #[.val (.ref p0), .val (.ref p0), .val (.ref p0)] [(.ref s0_)])) _
    refine XS.aloadN X6.here hx rfl (hb hby d12_18) rfl rfl ?_
    exact k
  obtain ⟨T8, X8, e8, st8⟩ := getF X6 hx hZ hown (host := "") (Or.inl (hw _ (List.mem_of_getElem? (i := 54) rfl))) Via.refl e6 F_p0_brokerName (g := (mkF m 19 #[.val (.ref p0), .val (.ref p0), .val (.ref p0)] [(.ref p0), (.ref s0_)])) rfl rfl (hb hby d12_19)
  have pre10 : ∀ t, Steps p.tables e below (T8.setTop (mkF m 22 #[.val (.ref p0), .val (.ref p0), .val (.ref p0)] [(.ref s0_), (.ref s0_)])) t → Steps p.tables e below (s₁.setTop (entryFrame m #[(.ref p0), (.ref p0)] 3)) t := by
    intro t k
    refine pre7 t ?_
    show Steps p.tables e below (T6.setTop (mkF m 19 #[.val (.ref p0), .val (.ref p0), .val (.ref p0)] [(.ref p0), (.ref s0_)])) _
    refine st8 _ ?_
    exact k
  obtain ⟨cq9, kq9, q9a, q9b, q9c⟩ := isOf hZ e8 E_s0_
  obtain ⟨_, _, ⟨T9, L9, k9, n9⟩, -, X9, ⟨Lc9, hQ9, l9, y9, z9⟩, st9⟩ := X8.virtualBack hx (y := (⟨"java/lang/String", "equals", "(Ljava/lang/Object;)Z"⟩ : MethodName)) (z := (⟨"java/lang/String", "equals", "(Ljava/lang/Object;)Z"⟩ : MethodName)) hown (mvT hZ (hw _ (List.mem_of_getElem? (i := 68) rfl))) (mvT hZ (hw _ (List.mem_of_getElem? (i := 69) rfl))) (notFace_of_selects (args := #[]) (mvT hZ (hw _ (List.mem_of_getElem? (i := 71) rfl)))) (mvT hZ (hw _ (List.mem_of_getElem? (i := 71) rfl))) (mvT hZ (hw _ (List.mem_of_getElem? (i := 70) rfl))) (by decide) (backOf (W := 0) (rm_13s l Z a0 hw [] s0_ h0 n0 Z0 ) hZ (hw _ (List.mem_of_getElem? (i := 72) rfl)) (hw _ (List.mem_of_getElem? (i := 12) rfl)) (by decide) (by decide)) q9a q9c (g := (mkF m 22 #[.val (.ref p0), .val (.ref p0), .val (.ref p0)] [(.ref s0_), (.ref s0_)])) rfl (by rw [hml]; rfl) (Steps.refl _) (argsL := [(.ref s0_)]) (rest := []) (lenOf pd_7 rfl) rfl (by show 2 * 0 + _ ≤ _; exact Nat.le_of_eq rfl) (hb hby d12_22) (fun _ _ => ⟨rfl, e8, (by decide : 0 + 0 ≤ _), (by decide : 0 + 0 ≤ _)⟩)
  dsimp only [Pt.U, Pt.locs, Pt.cells, Pt.slots] at X9 l9 y9 z9 st9 hQ9
  rw [l9, y9, z9] at X9
  obtain ⟨rfl, N9q, e9⟩ := hQ9
  have N9 := Fr.app N0 N9q
  have pre11 : ∀ t, Steps p.tables e below (T9.setTop (mkF m 25 #[.val (.ref p0), .val (.ref p0), .val (.ref p0)] [(.int f_13s)])) t → Steps p.tables e below (s₁.setTop (entryFrame m #[(.ref p0), (.ref p0)] 3)) t := by
    intro t k
    refine pre10 t ?_
    show Steps p.tables e below (T8.setTop (mkF m 22 #[.val (.ref p0), .val (.ref p0), .val (.ref p0)] [(.ref s0_), (.ref s0_)])) _
    refine st9.trans ?_
    exact k
  by_cases hc25 : f_13s = (0 : Int32)
  · obtain ⟨fs, hr, hrun, hended, hW, hsame⟩ := X9.leave (v := some (.int (0 : Int32))) (fun h => by rw [Bd.returns] at h; cases h) (BodyLoose.notSynchronized Bd)
    refine ⟨_, _, pre11 _ ?_, hrun, hended, _, _, rfl, ?_, ⟨_, rfl⟩, hW, hsame.mono (by decide) (by decide)⟩
    · show Steps p.tables e below (T9.setTop (mkF m 25 #[.val (.ref p0), .val (.ref p0), .val (.ref p0)] [(.int f_13s)])) _
      refine XS.ifYes X9.here hx rfl (pc0 := 25) (pc' := 43) rfl (hb hby d12_25) rfl ((if0 _ _).trans (teq hc25).1) (by decide) (by decide) ?_
      show Steps p.tables e below (T9.setTop (mkF m 43 #[.val (.ref p0), .val (.ref p0), .val (.ref p0)] [])) _
      refine XS.iconst X9.here hx rfl (hb hby d12_43) ?_
      show Steps p.tables e below (T9.setTop (mkF m 44 #[.val (.ref p0), .val (.ref p0), .val (.ref p0)] [(.int (0 : Int32))])) _
      exact retN X9 hx (t := .boolean) Bd.returns (by simp) (hb hby d12_44) hr
    · show Q_12s Z p0 s0_ i0_ h0 n0 _ T9.heap _
      rw [e9]
      exact ⟨congrArg (fun z => some (Value.int z)) (by exact (if_pos hc25).symm : (0 : Int32) = f_12s i0_), N9, rfl⟩
  · have pre12 : ∀ t, Steps p.tables e below (T9.setTop (mkF m 29 #[.val (.ref p0), .val (.ref p0), .val (.ref p0)] [(.ref p0)])) t → Steps p.tables e below (s₁.setTop (entryFrame m #[(.ref p0), (.ref p0)] 3)) t := by
      intro t k
      refine pre11 t ?_
      show Steps p.tables e below (T9.setTop (mkF m 25 #[.val (.ref p0), .val (.ref p0), .val (.ref p0)] [(.int f_13s)])) _
      refine XS.ifNo X9.here hx rfl (hb hby d12_25) rfl ((if0 _ _).trans (feq hc25).1) ?_
      show Steps p.tables e below (T9.setTop (mkF m 28 #[.val (.ref p0), .val (.ref p0), .val (.ref p0)] [])) _
      refine XS.aloadN X9.here hx rfl (hb hby d12_28) rfl rfl ?_
      exact k
    obtain ⟨T13, X13, e13, st13⟩ := getF X9 hx hZ hown (host := "") (Or.inl (hw _ (List.mem_of_getElem? (i := 56) rfl))) Via.refl e9 F_p0_queueId (g := (mkF m 29 #[.val (.ref p0), .val (.ref p0), .val (.ref p0)] [(.ref p0)])) rfl rfl (hb hby d12_29)
    have pre14 : ∀ t, Steps p.tables e below (T13.setTop (mkF m 33 #[.val (.ref p0), .val (.ref p0), .val (.ref p0)] [(.ref p0), (.int i0_)])) t → Steps p.tables e below (s₁.setTop (entryFrame m #[(.ref p0), (.ref p0)] 3)) t := by
      intro t k
      refine pre12 t ?_
      show Steps p.tables e below (T9.setTop (mkF m 29 #[.val (.ref p0), .val (.ref p0), .val (.ref p0)] [(.ref p0)])) _
      refine st13 _ ?_
      show Steps p.tables e below (T13.setTop (mkF m 32 #[.val (.ref p0), .val (.ref p0), .val (.ref p0)] [(.int i0_)])) _
      refine XS.aloadN X13.here hx rfl (hb hby d12_32) rfl rfl ?_
      exact k
    obtain ⟨T15, X15, e15, st15⟩ := getF X13 hx hZ hown (host := "") (Or.inl (hw _ (List.mem_of_getElem? (i := 56) rfl))) Via.refl e13 F_p0_queueId (g := (mkF m 33 #[.val (.ref p0), .val (.ref p0), .val (.ref p0)] [(.ref p0), (.int i0_)])) rfl rfl (hb hby d12_33)
    have pre16 : ∀ t, Steps p.tables e below (T15.setTop (mkF m 36 #[.val (.ref p0), .val (.ref p0), .val (.ref p0)] [(.int i0_), (.int i0_)])) t → Steps p.tables e below (s₁.setTop (entryFrame m #[(.ref p0), (.ref p0)] 3)) t := by
      intro t k
      refine pre14 t ?_
      show Steps p.tables e below (T13.setTop (mkF m 33 #[.val (.ref p0), .val (.ref p0), .val (.ref p0)] [(.ref p0), (.int i0_)])) _
      refine st15 _ ?_
      exact k
    obtain ⟨ms0_44, hms0_44⟩ : ∃ z : Int32, z = (if i0_ = i0_ then (1 : Int32) else (0 : Int32)) := ⟨_, rfl⟩
    have pre17 : ∀ t, Steps p.tables e below (T15.setTop (mkF m 44 #[.val (.ref p0), .val (.ref p0), .val (.ref p0)] [(.int ms0_44)])) t → Steps p.tables e below (s₁.setTop (entryFrame m #[(.ref p0), (.ref p0)] 3)) t := by
      intro t k
      refine pre16 t ?_
      by_cases hc36 : i0_ = i0_
      · show Steps p.tables e below (T15.setTop (mkF m 36 #[.val (.ref p0), .val (.ref p0), .val (.ref p0)] [(.int i0_), (.int i0_)])) _
        refine XS.icmpNo X15.here hx rfl (hb hby d12_36) rfl (teq hc36).2 ?_
        show Steps p.tables e below (T15.setTop (mkF m 39 #[.val (.ref p0), .val (.ref p0), .val (.ref p0)] [])) _
        refine XS.iconst X15.here hx rfl (hb hby d12_39) ?_
        show Steps p.tables e below (T15.setTop (mkF m 40 #[.val (.ref p0), .val (.ref p0), .val (.ref p0)] [(.int (1 : Int32))])) _
        refine XS.goto X15.here hx rfl (pc0 := 40) (pc' := 44) rfl (hb hby d12_40) (by decide) (by decide) ?_
        have qms0_44 : ms0_44 = (1 : Int32) := by rw [hms0_44, if_pos hc36]
        rw [qms0_44] at k
        exact k
      · show Steps p.tables e below (T15.setTop (mkF m 36 #[.val (.ref p0), .val (.ref p0), .val (.ref p0)] [(.int i0_), (.int i0_)])) _
        refine XS.icmpYes X15.here hx rfl (pc0 := 36) (pc' := 43) rfl (hb hby d12_36) rfl (feq hc36).2 (by decide) (by decide) ?_
        show Steps p.tables e below (T15.setTop (mkF m 43 #[.val (.ref p0), .val (.ref p0), .val (.ref p0)] [])) _
        refine XS.iconst X15.here hx rfl (hb hby d12_43) ?_
        have qms0_44 : ms0_44 = (0 : Int32) := by rw [hms0_44, if_neg hc36]
        rw [qms0_44] at k
        exact k
    have hnar : nar .boolean ms0_44 = ms0_44 := by rw [hms0_44]; (repeat' split) <;> rfl
    obtain ⟨fs, hr, hrun, hended, hW, hsame⟩ := X15.leave (v := some (.int ms0_44)) (fun h => by rw [Bd.returns] at h; cases h) (BodyLoose.notSynchronized Bd)
    refine ⟨_, _, pre17 _ ?_, hrun, hended, _, _, rfl, ?_, ⟨_, rfl⟩, hW, hsame.mono (by decide) (by decide)⟩
    · show Steps p.tables e below (T15.setTop (mkF m 44 #[.val (.ref p0), .val (.ref p0), .val (.ref p0)] [(.int ms0_44)])) _
      exact retN X15 hx (t := .boolean) Bd.returns (by simp) (hb hby d12_44) (by rw [hnar]; exact hr)
    · show Q_12s Z p0 s0_ i0_ h0 n0 _ T15.heap _
      rw [e15]
      exact ⟨congrArg (fun z => some (Value.int z)) (by subst hms0_44; exact (if_neg hc25).symm : ms0_44 = f_12s i0_), N9, rfl⟩
theorem d12_7 : decode prog_36_method_5_code 7 = .ok (.iconst 0, 1) := by decide +kernel
theorem d12_8 : decode prog_36_method_5_code 8 = .ok (.ireturn, 1) := by decide +kernel
theorem ef_12n (m : MethodId) (p0 : Addr) : entryFrame m #[(.ref p0), .null] 3 = mkF m 0 #[.val (.ref p0), .val .null, .unset] [] := by first | (simp [entryFrame, mkF, argsToLocals, Value.category]; done) | rfl
def f_12n  : Int32 := (0 : Int32)
def Q_12n (Z : State) (p0 : Addr)  (h0 : Heap) (n0 : Nat) (v : Option Value) (h : Heap) (L : List Loc) : Prop := v = some (.int (f_12n )) ∧ Fr n0 L ∧ h = h0
set_option maxRecDepth 65536 in
set_option maxHeartbeats 40000000 in
theorem rm_12n (l : Launch) (Z : State) (a0 : Array Value) (hw : ∀ d ∈ tables_1, d.before a0 Z = true) (ws : List Jvm.Cond) (p0 : Addr)  (h0 : Heap) (n0 : Nat) (Z0 : n0 ≤ h0.size)  :
    MetFree l (⟨"com/example/sequeue/sequeue/route/MessageQueue", "equals", "(Ljava/lang/Object;)Z"⟩ : MethodName) (head1 (Jvm.Cond.code (⟨"com/example/sequeue/sequeue/route/MessageQueue", "equals", "(Ljava/lang/Object;)Z"⟩ : MethodName) prog_36_method_5_code 3 (some .boolean) :: ws) ({ frames := 0, cells := 0, slots := 0, locals := 0 } : Room)) (fun a U => a = #[(.ref p0), .null] ∧ Z.Warmed39 U.vm ∧ U.heap = h0) (fun _ _ _ _ _ => True) (fun _ U o U' => ∃ v L, o = .returned v ∧ Q_12n Z p0 h0 n0 v U'.heap L ∧ FrameEnd U o U' L ({ frames := 0, cells := 0, slots := 0, locals := 0 } : Room).cells ({ frames := 0, cells := 0, slots := 0, locals := 0 } : Room).slots) := by
  refine MetFree.of_bodySF (plainFor_of_name pn_12) hisR ?_
  intro p e s m args below meth c s₁ Bd hml0 hP hK
  obtain ⟨rfl, hZ, hh⟩ := hP
  have hx := Bd.exec
  have hby := Bd.bytes
  have hml : c.maxLocals = 3 := hml0
  have hown : s.vm.findClass "com/example/sequeue/sequeue/route/MessageQueue" = some m.cls := findClass_of_methodNamed Bd.named
  have hnm := (name_of_methodNamed Bd.named Bd.method).1
  have X0 : Stand p l e ({ frames := 0, cells := 0, slots := 0, locals := 0 } : Room) s m #[(.ref p0), .null] below meth c s₁ [] 0 0 := Stand.of_body Bd
  have e0 : s₁.heap = h0 := by rw [← hh, Bd.state]; rfl
  have N0 := Fr.nil n0
  have K0 : Keep h0 h0 [] := Keep.refl h0 _
  have pre0 : ∀ t, Steps p.tables e below (s₁.setTop (mkF m 0 #[.val (.ref p0), .val .null, .unset] [])) t → Steps p.tables e below (s₁.setTop (entryFrame m #[(.ref p0), .null] 3)) t := fun t k => castTop (ef_12n m p0) k
  obtain ⟨fs, hr, hrun, hended, hW, hsame⟩ := X0.leave (v := some (.int (0 : Int32))) (fun h => by rw [Bd.returns] at h; cases h) (BodyLoose.notSynchronized Bd)
  refine ⟨_, _, pre0 _ ?_, hrun, hended, _, _, rfl, ?_, ⟨_, rfl⟩, hW, hsame.mono (by decide) (by decide)⟩
  · show Steps p.tables e below (s₁.setTop (mkF m 0 #[.val (.ref p0), .val .null, .unset] [])) _
    refine XS.aloadN X0.here hx rfl (hb hby d12_0) rfl rfl ?_
    show Steps p.tables e below (s₁.setTop (mkF m 1 #[.val (.ref p0), .val .null, .unset] [.null])) _
    refine X0.instanceofNull hx (g := (mkF m 1 #[.val (.ref p0), .val .null, .unset] [.null])) rfl rfl (hb hby d12_1) _ ?_
    show Steps p.tables e below (s₁.setTop (mkF m 4 #[.val (.ref p0), .val .null, .unset] [(.int (0 : Int32))])) _
    refine XS.ifNo X0.here hx rfl (hb hby d12_4) rfl ((if0 _ _).trans (teq (by decide : (0 : Int32) = (0 : Int32))).2) ?_
    show Steps p.tables e below (s₁.setTop (mkF m 7 #[.val (.ref p0), .val .null, .unset] [])) _
    refine XS.iconst X0.here hx rfl (hb hby d12_7) ?_
    show Steps p.tables e below (s₁.setTop (mkF m 8 #[.val (.ref p0), .val .null, .unset] [(.int (0 : Int32))])) _
    exact retN X0 hx (t := .boolean) Bd.returns (by simp) (hb hby d12_8) hr
  · show Q_12n Z p0 h0 n0 _ s₁.heap _
    rw [e0]
    exact ⟨congrArg (fun z => some (Value.int z)) (by rfl : (0 : Int32) = f_12n ), N0, rfl⟩
theorem ef_12l (m : MethodId) (p0 : Addr) (p1 : Addr) : entryFrame m #[(.ref p0), (.ref p1)] 3 = mkF m 0 #[.val (.ref p0), .val (.ref p1), .unset] [] := by first | (simp [entryFrame, mkF, argsToLocals, Value.category]; done) | rfl
def f_12l  : Int32 := (0 : Int32)
def Q_12l (Z : State) (p0 : Addr) (p1 : Addr)  (h0 : Heap) (n0 : Nat) (v : Option Value) (h : Heap) (L : List Loc) : Prop := v = some (.int (f_12l )) ∧ Fr n0 L ∧ h = h0
set_option maxRecDepth 65536 in
set_option maxHeartbeats 40000000 in
theorem rm_12l (l : Launch) (Z : State) (a0 : Array Value) (hw : ∀ d ∈ tables_1, d.before a0 Z = true) (ws : List Jvm.Cond) (p0 : Addr) (p1 : Addr)  (h0 : Heap) (n0 : Nat) (Z0 : n0 ≤ h0.size) (E_p1 : Exa Z h0 p1 "java/lang/String") :
    MetFree l (⟨"com/example/sequeue/sequeue/route/MessageQueue", "equals", "(Ljava/lang/Object;)Z"⟩ : MethodName) (head1 (Jvm.Cond.code (⟨"com/example/sequeue/sequeue/route/MessageQueue", "equals", "(Ljava/lang/Object;)Z"⟩ : MethodName) prog_36_method_5_code 3 (some .boolean) :: ws) ({ frames := 0, cells := 0, slots := 0, locals := 0 } : Room)) (fun a U => a = #[(.ref p0), (.ref p1)] ∧ Z.Warmed39 U.vm ∧ U.heap = h0) (fun _ _ _ _ _ => True) (fun _ U o U' => ∃ v L, o = .returned v ∧ Q_12l Z p0 p1 h0 n0 v U'.heap L ∧ FrameEnd U o U' L ({ frames := 0, cells := 0, slots := 0, locals := 0 } : Room).cells ({ frames := 0, cells := 0, slots := 0, locals := 0 } : Room).slots) := by
  refine MetFree.of_bodySF (plainFor_of_name pn_12) hisR ?_
  intro p e s m args below meth c s₁ Bd hml0 hP hK
  obtain ⟨rfl, hZ, hh⟩ := hP
  have hx := Bd.exec
  have hby := Bd.bytes
  have hml : c.maxLocals = 3 := hml0
  have hown : s.vm.findClass "com/example/sequeue/sequeue/route/MessageQueue" = some m.cls := findClass_of_methodNamed Bd.named
  have hnm := (name_of_methodNamed Bd.named Bd.method).1
  have X0 : Stand p l e ({ frames := 0, cells := 0, slots := 0, locals := 0 } : Room) s m #[(.ref p0), (.ref p1)] below meth c s₁ [] 0 0 := Stand.of_body Bd
  have e0 : s₁.heap = h0 := by rw [← hh, Bd.state]; rfl
  have N0 := Fr.nil n0
  have K0 : Keep h0 h0 [] := Keep.refl h0 _
  have pre0 : ∀ t, Steps p.tables e below (s₁.setTop (mkF m 0 #[.val (.ref p0), .val (.ref p1), .unset] [])) t → Steps p.tables e below (s₁.setTop (entryFrame m #[(.ref p0), (.ref p1)] 3)) t := fun t k => castTop (ef_12l m p0 p1) k
  have pre1 : ∀ t, Steps p.tables e below (s₁.setTop (mkF m 1 #[.val (.ref p0), .val (.ref p1), .unset] [(.ref p1)])) t → Steps p.tables e below (s₁.setTop (entryFrame m #[(.ref p0), (.ref p1)] 3)) t := by
    intro t k
    refine pre0 t ?_
    show Steps p.tables e below (s₁.setTop (mkF m 0 #[.val (.ref p0), .val (.ref p1), .unset] [])) _
    refine XS.aloadN X0.here hx rfl (hb hby d12_0) rfl rfl ?_
    exact k
  obtain ⟨T2, X2, e2, st2⟩ := instNo X0 hx hZ hown (hw _ (List.mem_of_getElem? (i := 66) rfl)) e0 E_p1 (own_no (hw _ (List.mem_of_getElem? (i := 78) rfl)) (hw _ (List.mem_of_getElem? (i := 40) rfl)) (NS.step (hw _ (List.mem_of_getElem? (i := 78) rfl)) (own_root (hw _ (List.mem_of_getElem? (i := 79) rfl)) (hw _ (List.mem_of_getElem? (i := 40) rfl)) (by decide)) (by decide)) (by decide)) (g := (mkF m 1 #[.val (.ref p0), .val (.ref p1), .unset] [(.ref p1)])) rfl rfl (hb hby d12_1)
  obtain ⟨fs, hr, hrun, hended, hW, hsame⟩ := X2.leave (v := some (.int (0 : Int32))) (fun h => by rw [Bd.returns] at h; cases h) (BodyLoose.notSynchronized Bd)
  refine ⟨_, _, pre1 _ ?_, hrun, hended, _, _, rfl, ?_, ⟨_, rfl⟩, hW, hsame.mono (by decide) (by decide)⟩
  · show Steps p.tables e below (s₁.setTop (mkF m 1 #[.val (.ref p0), .val (.ref p1), .unset] [(.ref p1)])) _
    refine st2 _ ?_
    show Steps p.tables e below (T2.setTop (mkF m 4 #[.val (.ref p0), .val (.ref p1), .unset] [(.int (0 : Int32))])) _
    refine XS.ifNo X2.here hx rfl (hb hby d12_4) rfl ((if0 _ _).trans (teq (by decide : (0 : Int32) = (0 : Int32))).2) ?_
    show Steps p.tables e below (T2.setTop (mkF m 7 #[.val (.ref p0), .val (.ref p1), .unset] [])) _
    refine XS.iconst X2.here hx rfl (hb hby d12_7) ?_
    show Steps p.tables e below (T2.setTop (mkF m 8 #[.val (.ref p0), .val (.ref p1), .unset] [(.int (0 : Int32))])) _
    exact retN X2 hx (t := .boolean) Bd.returns (by simp) (hb hby d12_8) hr
  · show Q_12l Z p0 p1 h0 n0 _ T2.heap _
    rw [e2]
    exact ⟨congrArg (fun z => some (Value.int z)) (by rfl : (0 : Int32) = f_12l ), N0, rfl⟩
theorem d10_0 : decode jdk_31_method_11_code 0 = .ok (.aload_n 0, 1) := by decide +kernel
theorem d10_1 : decode jdk_31_method_11_code 1 = .ok (.ifnonnull 12, 3) := by decide +kernel
theorem d10_13 : decode jdk_31_method_11_code 13 = .ok (.aload_n 0, 1) := by decide +kernel
theorem d10_14 : decode jdk_31_method_11_code 14 = .ok (.areturn, 1) := by decide +kernel
theorem pn_10 : plainName "java/util/Objects" = true := by first | (simp [plainName, overriddenIn]; done) | decide +kernel
theorem ef_10 (m : MethodId) (p0 : Addr) (p1 : Addr) : entryFrame m #[(.ref p0), (.ref p1)] 2 = mkF m 0 #[.val (.ref p0), .val (.ref p1)] [] := by first | (simp [entryFrame, mkF, argsToLocals, Value.category]; done) | rfl
def Q_10 (Z : State) (p0 : Addr) (p1 : Addr)  (h0 : Heap) (n0 : Nat) (v : Option Value) (h : Heap) (L : List Loc) : Prop := v = some (.ref p0) ∧ Fr n0 L ∧ h = h0
set_option maxRecDepth 65536 in
set_option maxHeartbeats 40000000 in
theorem rm_10 (l : Launch) (Z : State) (a0 : Array Value) (hw : ∀ d ∈ tables_1, d.before a0 Z = true) (ws : List Jvm.Cond) (p0 : Addr) (p1 : Addr)  (h0 : Heap) (n0 : Nat) (Z0 : n0 ≤ h0.size)  :
    MetFree l (⟨"java/util/Objects", "requireNonNull", "(Ljava/lang/Object;Ljava/lang/String;)Ljava/lang/Object;"⟩ : MethodName) (head1 (Jvm.Cond.code (⟨"java/util/Objects", "requireNonNull", "(Ljava/lang/Object;Ljava/lang/String;)Ljava/lang/Object;"⟩ : MethodName) jdk_31_method_11_code 2 (some (.object "java/lang/Object")) :: ws) ({ frames := 0, cells := 0, slots := 0, locals := 0 } : Room)) (fun a U => a = #[(.ref p0), (.ref p1)] ∧ Z.Warmed39 U.vm ∧ U.heap = h0) (fun _ _ _ _ _ => True) (fun _ U o U' => ∃ v L, o = .returned v ∧ Q_10 Z p0 p1 h0 n0 v U'.heap L ∧ FrameEnd U o U' L ({ frames := 0, cells := 0, slots := 0, locals := 0 } : Room).cells ({ frames := 0, cells := 0, slots := 0, locals := 0 } : Room).slots) := by
  refine MetFree.of_bodySF (plainFor_of_name pn_10) hisR ?_
  intro p e s m args below meth c s₁ Bd hml0 hP hK
  obtain ⟨rfl, hZ, hh⟩ := hP
  have hx := Bd.exec
  have hby := Bd.bytes
  have hml : c.maxLocals = 2 := hml0
  have hown : s.vm.findClass "java/util/Objects" = some m.cls := findClass_of_methodNamed Bd.named
  have hnm := (name_of_methodNamed Bd.named Bd.method).1
  have X0 : Stand p l e ({ frames := 0, cells := 0, slots := 0, locals := 0 } : Room) s m #[(.ref p0), (.ref p1)] below meth c s₁ [] 0 0 := Stand.of_body Bd
  have e0 : s₁.heap = h0 := by rw [← hh, Bd.state]; rfl
  have N0 := Fr.nil n0
  have K0 : Keep h0 h0 [] := Keep.refl h0 _
  have pre0 : ∀ t, Steps p.tables e below (s₁.setTop (mkF m 0 #[.val (.ref p0), .val (.ref p1)] [])) t → Steps p.tables e below (s₁.setTop (entryFrame m #[(.ref p0), (.ref p1)] 2)) t := fun t k => castTop (ef_10 m p0 p1) k
  obtain ⟨fs, hr, hrun, hended, hW, hsame⟩ := X0.leave (v := some (.ref p0)) (fun h => by rw [Bd.returns] at h; cases h) (BodyLoose.notSynchronized Bd)
  refine ⟨_, _, pre0 _ ?_, hrun, hended, _, _, rfl, ?_, ⟨_, rfl⟩, hW, hsame.mono (by decide) (by decide)⟩
  · show Steps p.tables e below (s₁.setTop (mkF m 0 #[.val (.ref p0), .val (.ref p1)] [])) _
    refine XS.aloadN X0.here hx rfl (hb hby d10_0) rfl rfl ?_
    show Steps p.tables e below (s₁.setTop (mkF m 1 #[.val (.ref p0), .val (.ref p1)] [(.ref p0)])) _
    refine XS.ifnonnullYes X0.here hx rfl (pc0 := 1) (pc' := 13) rfl (hb hby d10_1) rfl (by decide) (by decide) ?_
    show Steps p.tables e below (s₁.setTop (mkF m 13 #[.val (.ref p0), .val (.ref p1)] [])) _
    refine XS.aloadN X0.here hx rfl (hb hby d10_13) rfl rfl ?_
    show Steps p.tables e below (s₁.setTop (mkF m 14 #[.val (.ref p0), .val (.ref p1)] [(.ref p0)])) _
    exact retOut X0 hx Bd.returns rfl (Or.inr (Or.inr (Or.inr (Or.inr ⟨rfl, rfl, rfl⟩)))) (hb hby d10_14) hr
  · show Q_10 Z p0 p1 h0 n0 _ s₁.heap _
    rw [e0]
    exact ⟨rfl, N0, rfl⟩
theorem d11_0 : decode method_5_code 0 = .ok (.lload_n 0, 1) := by decide +kernel
theorem d11_1 : decode method_5_code 1 = .ok (.ldc2_w 28, 3) := by decide +kernel
theorem d11_4 : decode method_5_code 4 = .ok (.land, 1) := by decide +kernel
theorem d11_5 : decode method_5_code 5 = .ok (.l2i, 1) := by decide +kernel
theorem d11_6 : decode method_5_code 6 = .ok (.istore 4, 2) := by decide +kernel
theorem d11_8 : decode method_5_code 8 = .ok (.lload_n 2, 1) := by decide +kernel
theorem d11_9 : decode method_5_code 9 = .ok (.ldc2_w 28, 3) := by decide +kernel
theorem d11_12 : decode method_5_code 12 = .ok (.land, 1) := by decide +kernel
theorem d11_13 : decode method_5_code 13 = .ok (.l2i, 1) := by decide +kernel
theorem d11_14 : decode method_5_code 14 = .ok (.istore 5, 2) := by decide +kernel
theorem d11_16 : decode method_5_code 16 = .ok (.iload 4, 2) := by decide +kernel
theorem d11_18 : decode method_5_code 18 = .ok (.iload 5, 2) := by decide +kernel
theorem d11_20 : decode method_5_code 20 = .ok (.if_icmp .eq 5, 3) := by decide +kernel
theorem d11_23 : decode method_5_code 23 = .ok (.iconst 0, 1) := by decide +kernel
theorem d11_24 : decode method_5_code 24 = .ok (.ireturn, 1) := by decide +kernel
theorem d11_25 : decode method_5_code 25 = .ok (.iload 4, 2) := by decide +kernel
theorem d11_27 : decode method_5_code 27 = .ok (.ifCond .le 18, 3) := by decide +kernel
theorem d11_30 : decode method_5_code 30 = .ok (.lload_n 0, 1) := by decide +kernel
theorem d11_31 : decode method_5_code 31 = .ok (.iconst 0, 1) := by decide +kernel
theorem d11_32 : decode method_5_code 32 = .ok (.invokestatic 30, 3) := by decide +kernel
theorem d11_35 : decode method_5_code 35 = .ok (.lload_n 2, 1) := by decide +kernel
theorem d11_36 : decode method_5_code 36 = .ok (.iconst 0, 1) := by decide +kernel
theorem d11_37 : decode method_5_code 37 = .ok (.invokestatic 30, 3) := by decide +kernel
theorem d11_40 : decode method_5_code 40 = .ok (.if_icmp .eq 5, 3) := by decide +kernel
theorem d11_43 : decode method_5_code 43 = .ok (.iconst 0, 1) := by decide +kernel
theorem d11_44 : decode method_5_code 44 = .ok (.ireturn, 1) := by decide +kernel
theorem d11_45 : decode method_5_code 45 = .ok (.iload 4, 2) := by decide +kernel
theorem d11_47 : decode method_5_code 47 = .ok (.iconst 1, 1) := by decide +kernel
theorem d11_48 : decode method_5_code 48 = .ok (.if_icmp .le 18, 3) := by decide +kernel
theorem d11_51 : decode method_5_code 51 = .ok (.lload_n 0, 1) := by decide +kernel
theorem d11_52 : decode method_5_code 52 = .ok (.iconst 1, 1) := by decide +kernel
theorem d11_53 : decode method_5_code 53 = .ok (.invokestatic 30, 3) := by decide +kernel
theorem d11_56 : decode method_5_code 56 = .ok (.lload_n 2, 1) := by decide +kernel
theorem d11_57 : decode method_5_code 57 = .ok (.iconst 1, 1) := by decide +kernel
theorem d11_58 : decode method_5_code 58 = .ok (.invokestatic 30, 3) := by decide +kernel
theorem d11_61 : decode method_5_code 61 = .ok (.if_icmp .eq 5, 3) := by decide +kernel
theorem d11_64 : decode method_5_code 64 = .ok (.iconst 0, 1) := by decide +kernel
theorem d11_65 : decode method_5_code 65 = .ok (.ireturn, 1) := by decide +kernel
theorem d11_66 : decode method_5_code 66 = .ok (.iload 4, 2) := by decide +kernel
theorem d11_68 : decode method_5_code 68 = .ok (.iconst 2, 1) := by decide +kernel
theorem d11_69 : decode method_5_code 69 = .ok (.if_icmp .le 18, 3) := by decide +kernel
theorem d11_72 : decode method_5_code 72 = .ok (.lload_n 0, 1) := by decide +kernel
theorem d11_73 : decode method_5_code 73 = .ok (.iconst 2, 1) := by decide +kernel
theorem d11_74 : decode method_5_code 74 = .ok (.invokestatic 30, 3) := by decide +kernel
theorem d11_77 : decode method_5_code 77 = .ok (.lload_n 2, 1) := by decide +kernel
theorem d11_78 : decode method_5_code 78 = .ok (.iconst 2, 1) := by decide +kernel
theorem d11_79 : decode method_5_code 79 = .ok (.invokestatic 30, 3) := by decide +kernel
theorem d11_82 : decode method_5_code 82 = .ok (.if_icmp .eq 5, 3) := by decide +kernel
theorem d11_85 : decode method_5_code 85 = .ok (.iconst 0, 1) := by decide +kernel
theorem d11_86 : decode method_5_code 86 = .ok (.ireturn, 1) := by decide +kernel
theorem d11_87 : decode method_5_code 87 = .ok (.iconst 1, 1) := by decide +kernel
theorem d11_88 : decode method_5_code 88 = .ok (.ireturn, 1) := by decide +kernel
theorem pn_11 : plainName "com/example/sequeue/sequeue/route/MessageQueueEqualsPinLaw" = true := by first | (simp [plainName, overriddenIn]; done) | decide +kernel
theorem ef_11 (m : MethodId) (p0 : Int64) (p1 : Int64) : entryFrame m #[(.long p0), (.long p1)] 6 = mkF m 0 #[.val (.long p0), .second, .val (.long p1), .second, .unset, .unset] [] := by first | (simp [entryFrame, mkF, argsToLocals, Value.category]; done) | rfl
def f_11 (p0 : Int64) (p1 : Int64) : Int32 := let v4_6 : Int32 := ((p0 &&& (3 : Int64)).toInt32); let v5_14 : Int32 := ((p1 &&& (3 : Int64)).toInt32); (if v4_6 = v5_14 then (if (0 : Int32) < v4_6 then (if (f_2 p0 (0 : Int32)) = (f_2 p1 (0 : Int32)) then (if (1 : Int32) < v4_6 then (if (f_2 p0 (1 : Int32)) = (f_2 p1 (1 : Int32)) then (if (2 : Int32) < v4_6 then (if (f_2 p0 (2 : Int32)) = (f_2 p1 (2 : Int32)) then (1 : Int32) else (0 : Int32)) else (1 : Int32)) else (0 : Int32)) else (if (2 : Int32) < v4_6 then (if (f_2 p0 (2 : Int32)) = (f_2 p1 (2 : Int32)) then (1 : Int32) else (0 : Int32)) else (1 : Int32))) else (0 : Int32)) else (if (1 : Int32) < v4_6 then (if (f_2 p0 (1 : Int32)) = (f_2 p1 (1 : Int32)) then (if (2 : Int32) < v4_6 then (if (f_2 p0 (2 : Int32)) = (f_2 p1 (2 : Int32)) then (1 : Int32) else (0 : Int32)) else (1 : Int32)) else (0 : Int32)) else (if (2 : Int32) < v4_6 then (if (f_2 p0 (2 : Int32)) = (f_2 p1 (2 : Int32)) then (1 : Int32) else (0 : Int32)) else (1 : Int32)))) else (0 : Int32))
def Q_11 (Z : State) (p0 : Int64) (p1 : Int64)  (h0 : Heap) (n0 : Nat) (v : Option Value) (h : Heap) (L : List Loc) : Prop := v = some (.int (f_11 p0 p1)) ∧ Fr n0 L ∧ h = h0
set_option maxRecDepth 65536 in
set_option maxHeartbeats 40000000 in
theorem rm_11 (l : Launch) (Z : State) (a0 : Array Value) (hw : ∀ d ∈ tables_1, d.before a0 Z = true) (ws : List Jvm.Cond) (p0 : Int64) (p1 : Int64)  (h0 : Heap) (n0 : Nat) (Z0 : n0 ≤ h0.size)  :
    MetFree l (⟨"com/example/sequeue/sequeue/route/MessageQueueEqualsPinLaw", "sameName", "(JJ)Z"⟩ : MethodName) (head1 (Jvm.Cond.code (⟨"com/example/sequeue/sequeue/route/MessageQueueEqualsPinLaw", "sameName", "(JJ)Z"⟩ : MethodName) method_5_code 6 (some .boolean) :: ws) ({ frames := 1, cells := 0, slots := 0, locals := 15 } : Room)) (fun a U => a = #[(.long p0), (.long p1)] ∧ Z.Warmed39 U.vm ∧ U.heap = h0) (fun _ _ _ _ _ => True) (fun _ U o U' => ∃ v L, o = .returned v ∧ Q_11 Z p0 p1 h0 n0 v U'.heap L ∧ FrameEnd U o U' L ({ frames := 1, cells := 0, slots := 0, locals := 15 } : Room).cells ({ frames := 1, cells := 0, slots := 0, locals := 15 } : Room).slots) := by
  refine MetFree.of_bodySF (plainFor_of_name pn_11) hisR ?_
  intro p e s m args below meth c s₁ Bd hml0 hP hK
  obtain ⟨rfl, hZ, hh⟩ := hP
  have hx := Bd.exec
  have hby := Bd.bytes
  have hml : c.maxLocals = 6 := hml0
  have hown : s.vm.findClass "com/example/sequeue/sequeue/route/MessageQueueEqualsPinLaw" = some m.cls := findClass_of_methodNamed Bd.named
  have hnm := (name_of_methodNamed Bd.named Bd.method).1
  have X0 : Stand p l e ({ frames := 1, cells := 0, slots := 0, locals := 15 } : Room) s m #[(.long p0), (.long p1)] below meth c s₁ [] 0 0 := Stand.of_body Bd
  have e0 : s₁.heap = h0 := by rw [← hh, Bd.state]; rfl
  have N0 := Fr.nil n0
  have K0 : Keep h0 h0 [] := Keep.refl h0 _
  have pre0 : ∀ t, Steps p.tables e below (s₁.setTop (mkF m 0 #[.val (.long p0), .second, .val (.long p1), .second, .unset, .unset] [])) t → Steps p.tables e below (s₁.setTop (entryFrame m #[(.long p0), (.long p1)] 6)) t := fun t k => castTop (ef_11 m p0 p1) k
  obtain ⟨v4_6, hv4_6⟩ : ∃ z : Int32, z = ((p0 &&& (3 : Int64)).toInt32) := ⟨_, rfl⟩
  obtain ⟨v5_14, hv5_14⟩ : ∃ z : Int32, z = ((p1 &&& (3 : Int64)).toInt32) := ⟨_, rfl⟩
  have pre1 : ∀ t, Steps p.tables e below (s₁.setTop (mkF m 20 #[.val (.long p0), .second, .val (.long p1), .second, .val (.int v4_6), .val (.int v5_14)] [(.int v5_14), (.int v4_6)])) t → Steps p.tables e below (s₁.setTop (entryFrame m #[(.long p0), (.long p1)] 6)) t := by
    intro t k
    refine pre0 t ?_
    show Steps p.tables e below (s₁.setTop (mkF m 0 #[.val (.long p0), .second, .val (.long p1), .second, .unset, .unset] [])) _
    refine XS.lloadN X0.here hx rfl (hb hby d11_0) rfl  ?_
    show Steps p.tables e below (s₁.setTop (mkF m 1 #[.val (.long p0), .second, .val (.long p1), .second, .unset, .unset] [(.long p0)])) _
    refine X0.ldc2Long hx hown (mvT hZ (hw _ (List.mem_of_getElem? (i := 4) rfl))) (g := (mkF m 1 #[.val (.long p0), .second, .val (.long p1), .second, .unset, .unset] [(.long p0)])) rfl (hb hby d11_1) _ ?_
    show Steps p.tables e below (s₁.setTop (mkF m 4 #[.val (.long p0), .second, .val (.long p1), .second, .unset, .unset] [(.long (3 : Int64)), (.long p0)])) _
    refine XS.land X0.here hx rfl (hb hby d11_4) rfl ?_
    show Steps p.tables e below (s₁.setTop (mkF m 5 #[.val (.long p0), .second, .val (.long p1), .second, .unset, .unset] [(.long (p0 &&& (3 : Int64)))])) _
    refine XS.l2i X0.here hx rfl (hb hby d11_5) rfl ?_
    show Steps p.tables e below (s₁.setTop (mkF m 6 #[.val (.long p0), .second, .val (.long p1), .second, .unset, .unset] [(.int ((p0 &&& (3 : Int64)).toInt32))])) _
    refine XS.istore X0.here hx rfl (hb hby d11_6) rfl (l' := #[.val (.long p0), .second, .val (.long p1), .second, .val (.int v4_6), .unset]) (by rw [hv4_6]; rfl) ?_
    show Steps p.tables e below (s₁.setTop (mkF m 8 #[.val (.long p0), .second, .val (.long p1), .second, .val (.int v4_6), .unset] [])) _
    refine XS.lloadN X0.here hx rfl (hb hby d11_8) rfl  ?_
    show Steps p.tables e below (s₁.setTop (mkF m 9 #[.val (.long p0), .second, .val (.long p1), .second, .val (.int v4_6), .unset] [(.long p1)])) _
    refine X0.ldc2Long hx hown (mvT hZ (hw _ (List.mem_of_getElem? (i := 4) rfl))) (g := (mkF m 9 #[.val (.long p0), .second, .val (.long p1), .second, .val (.int v4_6), .unset] [(.long p1)])) rfl (hb hby d11_9) _ ?_
    show Steps p.tables e below (s₁.setTop (mkF m 12 #[.val (.long p0), .second, .val (.long p1), .second, .val (.int v4_6), .unset] [(.long (3 : Int64)), (.long p1)])) _
    refine XS.land X0.here hx rfl (hb hby d11_12) rfl ?_
    show Steps p.tables e below (s₁.setTop (mkF m 13 #[.val (.long p0), .second, .val (.long p1), .second, .val (.int v4_6), .unset] [(.long (p1 &&& (3 : Int64)))])) _
    refine XS.l2i X0.here hx rfl (hb hby d11_13) rfl ?_
    show Steps p.tables e below (s₁.setTop (mkF m 14 #[.val (.long p0), .second, .val (.long p1), .second, .val (.int v4_6), .unset] [(.int ((p1 &&& (3 : Int64)).toInt32))])) _
    refine XS.istore X0.here hx rfl (hb hby d11_14) rfl (l' := #[.val (.long p0), .second, .val (.long p1), .second, .val (.int v4_6), .val (.int v5_14)]) (by rw [hv5_14]; rfl) ?_
    show Steps p.tables e below (s₁.setTop (mkF m 16 #[.val (.long p0), .second, .val (.long p1), .second, .val (.int v4_6), .val (.int v5_14)] [])) _
    refine XS.iload X0.here hx rfl (hb hby d11_16) rfl  ?_
    show Steps p.tables e below (s₁.setTop (mkF m 18 #[.val (.long p0), .second, .val (.long p1), .second, .val (.int v4_6), .val (.int v5_14)] [(.int v4_6)])) _
    refine XS.iload X0.here hx rfl (hb hby d11_18) rfl  ?_
    exact k
  by_cases hc20 : v4_6 = v5_14
  · have pre2 : ∀ t, Steps p.tables e below (s₁.setTop (mkF m 27 #[.val (.long p0), .second, .val (.long p1), .second, .val (.int v4_6), .val (.int v5_14)] [(.int v4_6)])) t → Steps p.tables e below (s₁.setTop (entryFrame m #[(.long p0), (.long p1)] 6)) t := by
      intro t k
      refine pre1 t ?_
      show Steps p.tables e below (s₁.setTop (mkF m 20 #[.val (.long p0), .second, .val (.long p1), .second, .val (.int v4_6), .val (.int v5_14)] [(.int v5_14), (.int v4_6)])) _
      refine XS.icmpYes X0.here hx rfl (pc0 := 20) (pc' := 25) rfl (hb hby d11_20) rfl (teq hc20).1 (by decide) (by decide) ?_
      show Steps p.tables e below (s₁.setTop (mkF m 25 #[.val (.long p0), .second, .val (.long p1), .second, .val (.int v4_6), .val (.int v5_14)] [])) _
      refine XS.iload X0.here hx rfl (hb hby d11_25) rfl  ?_
      exact k
    by_cases hc27 : (0 : Int32) < v4_6
    · have pre4 : ∀ t, Steps p.tables e below (s₁.setTop (mkF m 32 #[.val (.long p0), .second, .val (.long p1), .second, .val (.int v4_6), .val (.int v5_14)] [(.int (0 : Int32)), (.long p0)])) t → Steps p.tables e below (s₁.setTop (entryFrame m #[(.long p0), (.long p1)] 6)) t := by
        intro t k
        refine pre2 t ?_
        show Steps p.tables e below (s₁.setTop (mkF m 27 #[.val (.long p0), .second, .val (.long p1), .second, .val (.int v4_6), .val (.int v5_14)] [(.int v4_6)])) _
        refine XS.ifNo X0.here hx rfl (hb hby d11_27) rfl ((if0 _ _).trans (tlt hc27).2.2.2) ?_
        show Steps p.tables e below (s₁.setTop (mkF m 30 #[.val (.long p0), .second, .val (.long p1), .second, .val (.int v4_6), .val (.int v5_14)] [])) _
        refine XS.lloadN X0.here hx rfl (hb hby d11_30) rfl  ?_
        show Steps p.tables e below (s₁.setTop (mkF m 31 #[.val (.long p0), .second, .val (.long p1), .second, .val (.int v4_6), .val (.int v5_14)] [(.long p0)])) _
        refine XS.iconst X0.here hx rfl (hb hby d11_31) ?_
        exact k
      obtain ⟨_, _, ⟨T3, L3, k3, n3⟩, -, X3, ⟨Lc3, hQ3, l3, y3, z3⟩, st3⟩ := Jvm.LawKit.callS X0 hx (y := (⟨"com/example/sequeue/sequeue/route/MessageQueueEqualsPinLaw", "ch", "(JI)C"⟩ : MethodName)) hown (mvT hZ (hw _ (List.mem_of_getElem? (i := 6) rfl))) (mvT hZ (hw _ (List.mem_of_getElem? (i := 7) rfl))) (mvT hZ (hw _ (List.mem_of_getElem? (i := 2) rfl))) (mvT hZ (hw _ (List.mem_of_getElem? (i := 8) rfl))) (by decide) (backOf (W := 0) (rm_2 l Z a0 hw [] p0 (0 : Int32) h0 n0 Z0 ) hZ (hw _ (List.mem_of_getElem? (i := 8) rfl)) (hw _ (List.mem_of_getElem? (i := 2) rfl)) (by decide) (by decide)) (g := (mkF m 32 #[.val (.long p0), .second, .val (.long p1), .second, .val (.int v4_6), .val (.int v5_14)] [(.int (0 : Int32)), (.long p0)])) rfl (by rw [hml]; rfl) (argsL := [(.long p0), (.int (0 : Int32))]) (rest := []) (lenOf pd_5 rfl) rfl (by show 2 * 0 + _ ≤ _; exact Nat.le_of_eq rfl) (hb hby d11_32) (fun _ _ => ⟨rfl, e0, (by decide : 0 + 0 ≤ _), (by decide : 0 + 0 ≤ _)⟩)
      dsimp only [Pt.U, Pt.locs, Pt.cells, Pt.slots] at X3 l3 y3 z3 st3 hQ3
      rw [l3, y3, z3] at X3
      obtain ⟨rfl, N3q, e3⟩ := hQ3
      have N3 := Fr.app N0 N3q
      have pre6 : ∀ t, Steps p.tables e below (T3.setTop (mkF m 37 #[.val (.long p0), .second, .val (.long p1), .second, .val (.int v4_6), .val (.int v5_14)] [(.int (0 : Int32)), (.long p1), (.int (f_2 p0 (0 : Int32)))])) t → Steps p.tables e below (s₁.setTop (entryFrame m #[(.long p0), (.long p1)] 6)) t := by
        intro t k
        refine pre4 t ?_
        show Steps p.tables e below (s₁.setTop (mkF m 32 #[.val (.long p0), .second, .val (.long p1), .second, .val (.int v4_6), .val (.int v5_14)] [(.int (0 : Int32)), (.long p0)])) _
        refine st3 _ ?_
        show Steps p.tables e below (T3.setTop (mkF m 35 #[.val (.long p0), .second, .val (.long p1), .second, .val (.int v4_6), .val (.int v5_14)] [(.int (f_2 p0 (0 : Int32)))])) _
        refine XS.lloadN X3.here hx rfl (hb hby d11_35) rfl  ?_
        show Steps p.tables e below (T3.setTop (mkF m 36 #[.val (.long p0), .second, .val (.long p1), .second, .val (.int v4_6), .val (.int v5_14)] [(.long p1), (.int (f_2 p0 (0 : Int32)))])) _
        refine XS.iconst X3.here hx rfl (hb hby d11_36) ?_
        exact k
      obtain ⟨_, _, ⟨T5, L5, k5, n5⟩, -, X5, ⟨Lc5, hQ5, l5, y5, z5⟩, st5⟩ := Jvm.LawKit.callS X3 hx (y := (⟨"com/example/sequeue/sequeue/route/MessageQueueEqualsPinLaw", "ch", "(JI)C"⟩ : MethodName)) hown (mvT hZ (hw _ (List.mem_of_getElem? (i := 6) rfl))) (mvT hZ (hw _ (List.mem_of_getElem? (i := 7) rfl))) (mvT hZ (hw _ (List.mem_of_getElem? (i := 2) rfl))) (mvT hZ (hw _ (List.mem_of_getElem? (i := 8) rfl))) (by decide) (backOf (W := 1) (rm_2 l Z a0 hw [] p1 (0 : Int32) h0 n0 Z0 ) hZ (hw _ (List.mem_of_getElem? (i := 8) rfl)) (hw _ (List.mem_of_getElem? (i := 2) rfl)) (by decide) (by decide)) (g := (mkF m 37 #[.val (.long p0), .second, .val (.long p1), .second, .val (.int v4_6), .val (.int v5_14)] [(.int (0 : Int32)), (.long p1), (.int (f_2 p0 (0 : Int32)))])) rfl (by rw [hml]; rfl) (argsL := [(.long p1), (.int (0 : Int32))]) (rest := [(.int (f_2 p0 (0 : Int32)))]) (lenOf pd_5 rfl) rfl (by show 2 * 0 + _ ≤ _; exact Nat.le_of_eq rfl) (hb hby d11_37) (fun _ _ => ⟨rfl, e3, (by decide : 0 + 0 ≤ _), (by decide : 0 + 0 ≤ _)⟩)
      dsimp only [Pt.U, Pt.locs, Pt.cells, Pt.slots] at X5 l5 y5 z5 st5 hQ5
      rw [l5, y5, z5] at X5
      obtain ⟨rfl, N5q, e5⟩ := hQ5
      have N5 := Fr.app N3 N5q
      have pre7 : ∀ t, Steps p.tables e below (T5.setTop (mkF m 40 #[.val (.long p0), .second, .val (.long p1), .second, .val (.int v4_6), .val (.int v5_14)] [(.int (f_2 p1 (0 : Int32))), (.int (f_2 p0 (0 : Int32)))])) t → Steps p.tables e below (s₁.setTop (entryFrame m #[(.long p0), (.long p1)] 6)) t := by
        intro t k
        refine pre6 t ?_
        show Steps p.tables e below (T3.setTop (mkF m 37 #[.val (.long p0), .second, .val (.long p1), .second, .val (.int v4_6), .val (.int v5_14)] [(.int (0 : Int32)), (.long p1), (.int (f_2 p0 (0 : Int32)))])) _
        refine st5 _ ?_
        exact k
      by_cases hc40 : (f_2 p0 (0 : Int32)) = (f_2 p1 (0 : Int32))
      · have pre8 : ∀ t, Steps p.tables e below (T5.setTop (mkF m 48 #[.val (.long p0), .second, .val (.long p1), .second, .val (.int v4_6), .val (.int v5_14)] [(.int (1 : Int32)), (.int v4_6)])) t → Steps p.tables e below (s₁.setTop (entryFrame m #[(.long p0), (.long p1)] 6)) t := by
          intro t k
          refine pre7 t ?_
          show Steps p.tables e below (T5.setTop (mkF m 40 #[.val (.long p0), .second, .val (.long p1), .second, .val (.int v4_6), .val (.int v5_14)] [(.int (f_2 p1 (0 : Int32))), (.int (f_2 p0 (0 : Int32)))])) _
          refine XS.icmpYes X5.here hx rfl (pc0 := 40) (pc' := 45) rfl (hb hby d11_40) rfl (teq hc40).1 (by decide) (by decide) ?_
          show Steps p.tables e below (T5.setTop (mkF m 45 #[.val (.long p0), .second, .val (.long p1), .second, .val (.int v4_6), .val (.int v5_14)] [])) _
          refine XS.iload X5.here hx rfl (hb hby d11_45) rfl  ?_
          show Steps p.tables e below (T5.setTop (mkF m 47 #[.val (.long p0), .second, .val (.long p1), .second, .val (.int v4_6), .val (.int v5_14)] [(.int v4_6)])) _
          refine XS.iconst X5.here hx rfl (hb hby d11_47) ?_
          exact k
        by_cases hc48 : (1 : Int32) < v4_6
        · have pre10 : ∀ t, Steps p.tables e below (T5.setTop (mkF m 53 #[.val (.long p0), .second, .val (.long p1), .second, .val (.int v4_6), .val (.int v5_14)] [(.int (1 : Int32)), (.long p0)])) t → Steps p.tables e below (s₁.setTop (entryFrame m #[(.long p0), (.long p1)] 6)) t := by
            intro t k
            refine pre8 t ?_
            show Steps p.tables e below (T5.setTop (mkF m 48 #[.val (.long p0), .second, .val (.long p1), .second, .val (.int v4_6), .val (.int v5_14)] [(.int (1 : Int32)), (.int v4_6)])) _
            refine XS.icmpNo X5.here hx rfl (hb hby d11_48) rfl (tlt hc48).2.2.2 ?_
            show Steps p.tables e below (T5.setTop (mkF m 51 #[.val (.long p0), .second, .val (.long p1), .second, .val (.int v4_6), .val (.int v5_14)] [])) _
            refine XS.lloadN X5.here hx rfl (hb hby d11_51) rfl  ?_
            show Steps p.tables e below (T5.setTop (mkF m 52 #[.val (.long p0), .second, .val (.long p1), .second, .val (.int v4_6), .val (.int v5_14)] [(.long p0)])) _
            refine XS.iconst X5.here hx rfl (hb hby d11_52) ?_
            exact k
          obtain ⟨_, _, ⟨T9, L9, k9, n9⟩, -, X9, ⟨Lc9, hQ9, l9, y9, z9⟩, st9⟩ := Jvm.LawKit.callS X5 hx (y := (⟨"com/example/sequeue/sequeue/route/MessageQueueEqualsPinLaw", "ch", "(JI)C"⟩ : MethodName)) hown (mvT hZ (hw _ (List.mem_of_getElem? (i := 6) rfl))) (mvT hZ (hw _ (List.mem_of_getElem? (i := 7) rfl))) (mvT hZ (hw _ (List.mem_of_getElem? (i := 2) rfl))) (mvT hZ (hw _ (List.mem_of_getElem? (i := 8) rfl))) (by decide) (backOf (W := 0) (rm_2 l Z a0 hw [] p0 (1 : Int32) h0 n0 Z0 ) hZ (hw _ (List.mem_of_getElem? (i := 8) rfl)) (hw _ (List.mem_of_getElem? (i := 2) rfl)) (by decide) (by decide)) (g := (mkF m 53 #[.val (.long p0), .second, .val (.long p1), .second, .val (.int v4_6), .val (.int v5_14)] [(.int (1 : Int32)), (.long p0)])) rfl (by rw [hml]; rfl) (argsL := [(.long p0), (.int (1 : Int32))]) (rest := []) (lenOf pd_5 rfl) rfl (by show 2 * 0 + _ ≤ _; exact Nat.le_of_eq rfl) (hb hby d11_53) (fun _ _ => ⟨rfl, e5, (by decide : 0 + 0 ≤ _), (by decide : 0 + 0 ≤ _)⟩)
          dsimp only [Pt.U, Pt.locs, Pt.cells, Pt.slots] at X9 l9 y9 z9 st9 hQ9
          rw [l9, y9, z9] at X9
          obtain ⟨rfl, N9q, e9⟩ := hQ9
          have N9 := Fr.app N5 N9q
          have pre12 : ∀ t, Steps p.tables e below (T9.setTop (mkF m 58 #[.val (.long p0), .second, .val (.long p1), .second, .val (.int v4_6), .val (.int v5_14)] [(.int (1 : Int32)), (.long p1), (.int (f_2 p0 (1 : Int32)))])) t → Steps p.tables e below (s₁.setTop (entryFrame m #[(.long p0), (.long p1)] 6)) t := by
            intro t k
            refine pre10 t ?_
            show Steps p.tables e below (T5.setTop (mkF m 53 #[.val (.long p0), .second, .val (.long p1), .second, .val (.int v4_6), .val (.int v5_14)] [(.int (1 : Int32)), (.long p0)])) _
            refine st9 _ ?_
            show Steps p.tables e below (T9.setTop (mkF m 56 #[.val (.long p0), .second, .val (.long p1), .second, .val (.int v4_6), .val (.int v5_14)] [(.int (f_2 p0 (1 : Int32)))])) _
            refine XS.lloadN X9.here hx rfl (hb hby d11_56) rfl  ?_
            show Steps p.tables e below (T9.setTop (mkF m 57 #[.val (.long p0), .second, .val (.long p1), .second, .val (.int v4_6), .val (.int v5_14)] [(.long p1), (.int (f_2 p0 (1 : Int32)))])) _
            refine XS.iconst X9.here hx rfl (hb hby d11_57) ?_
            exact k
          obtain ⟨_, _, ⟨T11, L11, k11, n11⟩, -, X11, ⟨Lc11, hQ11, l11, y11, z11⟩, st11⟩ := Jvm.LawKit.callS X9 hx (y := (⟨"com/example/sequeue/sequeue/route/MessageQueueEqualsPinLaw", "ch", "(JI)C"⟩ : MethodName)) hown (mvT hZ (hw _ (List.mem_of_getElem? (i := 6) rfl))) (mvT hZ (hw _ (List.mem_of_getElem? (i := 7) rfl))) (mvT hZ (hw _ (List.mem_of_getElem? (i := 2) rfl))) (mvT hZ (hw _ (List.mem_of_getElem? (i := 8) rfl))) (by decide) (backOf (W := 1) (rm_2 l Z a0 hw [] p1 (1 : Int32) h0 n0 Z0 ) hZ (hw _ (List.mem_of_getElem? (i := 8) rfl)) (hw _ (List.mem_of_getElem? (i := 2) rfl)) (by decide) (by decide)) (g := (mkF m 58 #[.val (.long p0), .second, .val (.long p1), .second, .val (.int v4_6), .val (.int v5_14)] [(.int (1 : Int32)), (.long p1), (.int (f_2 p0 (1 : Int32)))])) rfl (by rw [hml]; rfl) (argsL := [(.long p1), (.int (1 : Int32))]) (rest := [(.int (f_2 p0 (1 : Int32)))]) (lenOf pd_5 rfl) rfl (by show 2 * 0 + _ ≤ _; exact Nat.le_of_eq rfl) (hb hby d11_58) (fun _ _ => ⟨rfl, e9, (by decide : 0 + 0 ≤ _), (by decide : 0 + 0 ≤ _)⟩)
          dsimp only [Pt.U, Pt.locs, Pt.cells, Pt.slots] at X11 l11 y11 z11 st11 hQ11
          rw [l11, y11, z11] at X11
          obtain ⟨rfl, N11q, e11⟩ := hQ11
          have N11 := Fr.app N9 N11q
          have pre13 : ∀ t, Steps p.tables e below (T11.setTop (mkF m 61 #[.val (.long p0), .second, .val (.long p1), .second, .val (.int v4_6), .val (.int v5_14)] [(.int (f_2 p1 (1 : Int32))), (.int (f_2 p0 (1 : Int32)))])) t → Steps p.tables e below (s₁.setTop (entryFrame m #[(.long p0), (.long p1)] 6)) t := by
            intro t k
            refine pre12 t ?_
            show Steps p.tables e below (T9.setTop (mkF m 58 #[.val (.long p0), .second, .val (.long p1), .second, .val (.int v4_6), .val (.int v5_14)] [(.int (1 : Int32)), (.long p1), (.int (f_2 p0 (1 : Int32)))])) _
            refine st11 _ ?_
            exact k
          by_cases hc61 : (f_2 p0 (1 : Int32)) = (f_2 p1 (1 : Int32))
          · have pre14 : ∀ t, Steps p.tables e below (T11.setTop (mkF m 69 #[.val (.long p0), .second, .val (.long p1), .second, .val (.int v4_6), .val (.int v5_14)] [(.int (2 : Int32)), (.int v4_6)])) t → Steps p.tables e below (s₁.setTop (entryFrame m #[(.long p0), (.long p1)] 6)) t := by
              intro t k
              refine pre13 t ?_
              show Steps p.tables e below (T11.setTop (mkF m 61 #[.val (.long p0), .second, .val (.long p1), .second, .val (.int v4_6), .val (.int v5_14)] [(.int (f_2 p1 (1 : Int32))), (.int (f_2 p0 (1 : Int32)))])) _
              refine XS.icmpYes X11.here hx rfl (pc0 := 61) (pc' := 66) rfl (hb hby d11_61) rfl (teq hc61).1 (by decide) (by decide) ?_
              show Steps p.tables e below (T11.setTop (mkF m 66 #[.val (.long p0), .second, .val (.long p1), .second, .val (.int v4_6), .val (.int v5_14)] [])) _
              refine XS.iload X11.here hx rfl (hb hby d11_66) rfl  ?_
              show Steps p.tables e below (T11.setTop (mkF m 68 #[.val (.long p0), .second, .val (.long p1), .second, .val (.int v4_6), .val (.int v5_14)] [(.int v4_6)])) _
              refine XS.iconst X11.here hx rfl (hb hby d11_68) ?_
              exact k
            by_cases hc69 : (2 : Int32) < v4_6
            · have pre16 : ∀ t, Steps p.tables e below (T11.setTop (mkF m 74 #[.val (.long p0), .second, .val (.long p1), .second, .val (.int v4_6), .val (.int v5_14)] [(.int (2 : Int32)), (.long p0)])) t → Steps p.tables e below (s₁.setTop (entryFrame m #[(.long p0), (.long p1)] 6)) t := by
                intro t k
                refine pre14 t ?_
                show Steps p.tables e below (T11.setTop (mkF m 69 #[.val (.long p0), .second, .val (.long p1), .second, .val (.int v4_6), .val (.int v5_14)] [(.int (2 : Int32)), (.int v4_6)])) _
                refine XS.icmpNo X11.here hx rfl (hb hby d11_69) rfl (tlt hc69).2.2.2 ?_
                show Steps p.tables e below (T11.setTop (mkF m 72 #[.val (.long p0), .second, .val (.long p1), .second, .val (.int v4_6), .val (.int v5_14)] [])) _
                refine XS.lloadN X11.here hx rfl (hb hby d11_72) rfl  ?_
                show Steps p.tables e below (T11.setTop (mkF m 73 #[.val (.long p0), .second, .val (.long p1), .second, .val (.int v4_6), .val (.int v5_14)] [(.long p0)])) _
                refine XS.iconst X11.here hx rfl (hb hby d11_73) ?_
                exact k
              obtain ⟨_, _, ⟨T15, L15, k15, n15⟩, -, X15, ⟨Lc15, hQ15, l15, y15, z15⟩, st15⟩ := Jvm.LawKit.callS X11 hx (y := (⟨"com/example/sequeue/sequeue/route/MessageQueueEqualsPinLaw", "ch", "(JI)C"⟩ : MethodName)) hown (mvT hZ (hw _ (List.mem_of_getElem? (i := 6) rfl))) (mvT hZ (hw _ (List.mem_of_getElem? (i := 7) rfl))) (mvT hZ (hw _ (List.mem_of_getElem? (i := 2) rfl))) (mvT hZ (hw _ (List.mem_of_getElem? (i := 8) rfl))) (by decide) (backOf (W := 0) (rm_2 l Z a0 hw [] p0 (2 : Int32) h0 n0 Z0 ) hZ (hw _ (List.mem_of_getElem? (i := 8) rfl)) (hw _ (List.mem_of_getElem? (i := 2) rfl)) (by decide) (by decide)) (g := (mkF m 74 #[.val (.long p0), .second, .val (.long p1), .second, .val (.int v4_6), .val (.int v5_14)] [(.int (2 : Int32)), (.long p0)])) rfl (by rw [hml]; rfl) (argsL := [(.long p0), (.int (2 : Int32))]) (rest := []) (lenOf pd_5 rfl) rfl (by show 2 * 0 + _ ≤ _; exact Nat.le_of_eq rfl) (hb hby d11_74) (fun _ _ => ⟨rfl, e11, (by decide : 0 + 0 ≤ _), (by decide : 0 + 0 ≤ _)⟩)
              dsimp only [Pt.U, Pt.locs, Pt.cells, Pt.slots] at X15 l15 y15 z15 st15 hQ15
              rw [l15, y15, z15] at X15
              obtain ⟨rfl, N15q, e15⟩ := hQ15
              have N15 := Fr.app N11 N15q
              have pre18 : ∀ t, Steps p.tables e below (T15.setTop (mkF m 79 #[.val (.long p0), .second, .val (.long p1), .second, .val (.int v4_6), .val (.int v5_14)] [(.int (2 : Int32)), (.long p1), (.int (f_2 p0 (2 : Int32)))])) t → Steps p.tables e below (s₁.setTop (entryFrame m #[(.long p0), (.long p1)] 6)) t := by
                intro t k
                refine pre16 t ?_
                show Steps p.tables e below (T11.setTop (mkF m 74 #[.val (.long p0), .second, .val (.long p1), .second, .val (.int v4_6), .val (.int v5_14)] [(.int (2 : Int32)), (.long p0)])) _
                refine st15 _ ?_
                show Steps p.tables e below (T15.setTop (mkF m 77 #[.val (.long p0), .second, .val (.long p1), .second, .val (.int v4_6), .val (.int v5_14)] [(.int (f_2 p0 (2 : Int32)))])) _
                refine XS.lloadN X15.here hx rfl (hb hby d11_77) rfl  ?_
                show Steps p.tables e below (T15.setTop (mkF m 78 #[.val (.long p0), .second, .val (.long p1), .second, .val (.int v4_6), .val (.int v5_14)] [(.long p1), (.int (f_2 p0 (2 : Int32)))])) _
                refine XS.iconst X15.here hx rfl (hb hby d11_78) ?_
                exact k
              obtain ⟨_, _, ⟨T17, L17, k17, n17⟩, -, X17, ⟨Lc17, hQ17, l17, y17, z17⟩, st17⟩ := Jvm.LawKit.callS X15 hx (y := (⟨"com/example/sequeue/sequeue/route/MessageQueueEqualsPinLaw", "ch", "(JI)C"⟩ : MethodName)) hown (mvT hZ (hw _ (List.mem_of_getElem? (i := 6) rfl))) (mvT hZ (hw _ (List.mem_of_getElem? (i := 7) rfl))) (mvT hZ (hw _ (List.mem_of_getElem? (i := 2) rfl))) (mvT hZ (hw _ (List.mem_of_getElem? (i := 8) rfl))) (by decide) (backOf (W := 1) (rm_2 l Z a0 hw [] p1 (2 : Int32) h0 n0 Z0 ) hZ (hw _ (List.mem_of_getElem? (i := 8) rfl)) (hw _ (List.mem_of_getElem? (i := 2) rfl)) (by decide) (by decide)) (g := (mkF m 79 #[.val (.long p0), .second, .val (.long p1), .second, .val (.int v4_6), .val (.int v5_14)] [(.int (2 : Int32)), (.long p1), (.int (f_2 p0 (2 : Int32)))])) rfl (by rw [hml]; rfl) (argsL := [(.long p1), (.int (2 : Int32))]) (rest := [(.int (f_2 p0 (2 : Int32)))]) (lenOf pd_5 rfl) rfl (by show 2 * 0 + _ ≤ _; exact Nat.le_of_eq rfl) (hb hby d11_79) (fun _ _ => ⟨rfl, e15, (by decide : 0 + 0 ≤ _), (by decide : 0 + 0 ≤ _)⟩)
              dsimp only [Pt.U, Pt.locs, Pt.cells, Pt.slots] at X17 l17 y17 z17 st17 hQ17
              rw [l17, y17, z17] at X17
              obtain ⟨rfl, N17q, e17⟩ := hQ17
              have N17 := Fr.app N15 N17q
              have pre19 : ∀ t, Steps p.tables e below (T17.setTop (mkF m 82 #[.val (.long p0), .second, .val (.long p1), .second, .val (.int v4_6), .val (.int v5_14)] [(.int (f_2 p1 (2 : Int32))), (.int (f_2 p0 (2 : Int32)))])) t → Steps p.tables e below (s₁.setTop (entryFrame m #[(.long p0), (.long p1)] 6)) t := by
                intro t k
                refine pre18 t ?_
                show Steps p.tables e below (T15.setTop (mkF m 79 #[.val (.long p0), .second, .val (.long p1), .second, .val (.int v4_6), .val (.int v5_14)] [(.int (2 : Int32)), (.long p1), (.int (f_2 p0 (2 : Int32)))])) _
                refine st17 _ ?_
                exact k
              by_cases hc82 : (f_2 p0 (2 : Int32)) = (f_2 p1 (2 : Int32))
              · obtain ⟨fs, hr, hrun, hended, hW, hsame⟩ := X17.leave (v := some (.int (1 : Int32))) (fun h => by rw [Bd.returns] at h; cases h) (BodyLoose.notSynchronized Bd)
                refine ⟨_, _, pre19 _ ?_, hrun, hended, _, _, rfl, ?_, ⟨_, rfl⟩, hW, hsame.mono (by decide) (by decide)⟩
                · show Steps p.tables e below (T17.setTop (mkF m 82 #[.val (.long p0), .second, .val (.long p1), .second, .val (.int v4_6), .val (.int v5_14)] [(.int (f_2 p1 (2 : Int32))), (.int (f_2 p0 (2 : Int32)))])) _
                  refine XS.icmpYes X17.here hx rfl (pc0 := 82) (pc' := 87) rfl (hb hby d11_82) rfl (teq hc82).1 (by decide) (by decide) ?_
                  show Steps p.tables e below (T17.setTop (mkF m 87 #[.val (.long p0), .second, .val (.long p1), .second, .val (.int v4_6), .val (.int v5_14)] [])) _
                  refine XS.iconst X17.here hx rfl (hb hby d11_87) ?_
                  show Steps p.tables e below (T17.setTop (mkF m 88 #[.val (.long p0), .second, .val (.long p1), .second, .val (.int v4_6), .val (.int v5_14)] [(.int (1 : Int32))])) _
                  exact retN X17 hx (t := .boolean) Bd.returns (by simp) (hb hby d11_88) hr
                · show Q_11 Z p0 p1 h0 n0 _ T17.heap _
                  rw [e17]
                  exact ⟨congrArg (fun z => some (Value.int z)) (by subst hv4_6 hv5_14; exact ((if_pos hc20).trans ((if_pos hc27).trans ((if_pos hc40).trans ((if_pos hc48).trans ((if_pos hc61).trans ((if_pos hc69).trans (if_pos hc82))))))).symm : (1 : Int32) = f_11 p0 p1), N17, rfl⟩
              · obtain ⟨fs, hr, hrun, hended, hW, hsame⟩ := X17.leave (v := some (.int (0 : Int32))) (fun h => by rw [Bd.returns] at h; cases h) (BodyLoose.notSynchronized Bd)
                refine ⟨_, _, pre19 _ ?_, hrun, hended, _, _, rfl, ?_, ⟨_, rfl⟩, hW, hsame.mono (by decide) (by decide)⟩
                · show Steps p.tables e below (T17.setTop (mkF m 82 #[.val (.long p0), .second, .val (.long p1), .second, .val (.int v4_6), .val (.int v5_14)] [(.int (f_2 p1 (2 : Int32))), (.int (f_2 p0 (2 : Int32)))])) _
                  refine XS.icmpNo X17.here hx rfl (hb hby d11_82) rfl (feq hc82).1 ?_
                  show Steps p.tables e below (T17.setTop (mkF m 85 #[.val (.long p0), .second, .val (.long p1), .second, .val (.int v4_6), .val (.int v5_14)] [])) _
                  refine XS.iconst X17.here hx rfl (hb hby d11_85) ?_
                  show Steps p.tables e below (T17.setTop (mkF m 86 #[.val (.long p0), .second, .val (.long p1), .second, .val (.int v4_6), .val (.int v5_14)] [(.int (0 : Int32))])) _
                  exact retN X17 hx (t := .boolean) Bd.returns (by simp) (hb hby d11_86) hr
                · show Q_11 Z p0 p1 h0 n0 _ T17.heap _
                  rw [e17]
                  exact ⟨congrArg (fun z => some (Value.int z)) (by subst hv4_6 hv5_14; exact ((if_pos hc20).trans ((if_pos hc27).trans ((if_pos hc40).trans ((if_pos hc48).trans ((if_pos hc61).trans ((if_pos hc69).trans (if_neg hc82))))))).symm : (0 : Int32) = f_11 p0 p1), N17, rfl⟩
            · obtain ⟨fs, hr, hrun, hended, hW, hsame⟩ := X11.leave (v := some (.int (1 : Int32))) (fun h => by rw [Bd.returns] at h; cases h) (BodyLoose.notSynchronized Bd)
              refine ⟨_, _, pre14 _ ?_, hrun, hended, _, _, rfl, ?_, ⟨_, rfl⟩, hW, hsame.mono (by decide) (by decide)⟩
              · show Steps p.tables e below (T11.setTop (mkF m 69 #[.val (.long p0), .second, .val (.long p1), .second, .val (.int v4_6), .val (.int v5_14)] [(.int (2 : Int32)), (.int v4_6)])) _
                refine XS.icmpYes X11.here hx rfl (pc0 := 69) (pc' := 87) rfl (hb hby d11_69) rfl (flt hc69).2.2.2 (by decide) (by decide) ?_
                show Steps p.tables e below (T11.setTop (mkF m 87 #[.val (.long p0), .second, .val (.long p1), .second, .val (.int v4_6), .val (.int v5_14)] [])) _
                refine XS.iconst X11.here hx rfl (hb hby d11_87) ?_
                show Steps p.tables e below (T11.setTop (mkF m 88 #[.val (.long p0), .second, .val (.long p1), .second, .val (.int v4_6), .val (.int v5_14)] [(.int (1 : Int32))])) _
                exact retN X11 hx (t := .boolean) Bd.returns (by simp) (hb hby d11_88) hr
              · show Q_11 Z p0 p1 h0 n0 _ T11.heap _
                rw [e11]
                exact ⟨congrArg (fun z => some (Value.int z)) (by subst hv4_6 hv5_14; exact ((if_pos hc20).trans ((if_pos hc27).trans ((if_pos hc40).trans ((if_pos hc48).trans ((if_pos hc61).trans (if_neg hc69)))))).symm : (1 : Int32) = f_11 p0 p1), N11, rfl⟩
          · obtain ⟨fs, hr, hrun, hended, hW, hsame⟩ := X11.leave (v := some (.int (0 : Int32))) (fun h => by rw [Bd.returns] at h; cases h) (BodyLoose.notSynchronized Bd)
            refine ⟨_, _, pre13 _ ?_, hrun, hended, _, _, rfl, ?_, ⟨_, rfl⟩, hW, hsame.mono (by decide) (by decide)⟩
            · show Steps p.tables e below (T11.setTop (mkF m 61 #[.val (.long p0), .second, .val (.long p1), .second, .val (.int v4_6), .val (.int v5_14)] [(.int (f_2 p1 (1 : Int32))), (.int (f_2 p0 (1 : Int32)))])) _
              refine XS.icmpNo X11.here hx rfl (hb hby d11_61) rfl (feq hc61).1 ?_
              show Steps p.tables e below (T11.setTop (mkF m 64 #[.val (.long p0), .second, .val (.long p1), .second, .val (.int v4_6), .val (.int v5_14)] [])) _
              refine XS.iconst X11.here hx rfl (hb hby d11_64) ?_
              show Steps p.tables e below (T11.setTop (mkF m 65 #[.val (.long p0), .second, .val (.long p1), .second, .val (.int v4_6), .val (.int v5_14)] [(.int (0 : Int32))])) _
              exact retN X11 hx (t := .boolean) Bd.returns (by simp) (hb hby d11_65) hr
            · show Q_11 Z p0 p1 h0 n0 _ T11.heap _
              rw [e11]
              exact ⟨congrArg (fun z => some (Value.int z)) (by subst hv4_6 hv5_14; exact ((if_pos hc20).trans ((if_pos hc27).trans ((if_pos hc40).trans ((if_pos hc48).trans (if_neg hc61))))).symm : (0 : Int32) = f_11 p0 p1), N11, rfl⟩
        · have pre20 : ∀ t, Steps p.tables e below (T5.setTop (mkF m 69 #[.val (.long p0), .second, .val (.long p1), .second, .val (.int v4_6), .val (.int v5_14)] [(.int (2 : Int32)), (.int v4_6)])) t → Steps p.tables e below (s₁.setTop (entryFrame m #[(.long p0), (.long p1)] 6)) t := by
            intro t k
            refine pre8 t ?_
            show Steps p.tables e below (T5.setTop (mkF m 48 #[.val (.long p0), .second, .val (.long p1), .second, .val (.int v4_6), .val (.int v5_14)] [(.int (1 : Int32)), (.int v4_6)])) _
            refine XS.icmpYes X5.here hx rfl (pc0 := 48) (pc' := 66) rfl (hb hby d11_48) rfl (flt hc48).2.2.2 (by decide) (by decide) ?_
            show Steps p.tables e below (T5.setTop (mkF m 66 #[.val (.long p0), .second, .val (.long p1), .second, .val (.int v4_6), .val (.int v5_14)] [])) _
            refine XS.iload X5.here hx rfl (hb hby d11_66) rfl  ?_
            show Steps p.tables e below (T5.setTop (mkF m 68 #[.val (.long p0), .second, .val (.long p1), .second, .val (.int v4_6), .val (.int v5_14)] [(.int v4_6)])) _
            refine XS.iconst X5.here hx rfl (hb hby d11_68) ?_
            exact k
          by_cases hc69 : (2 : Int32) < v4_6
          · have pre22 : ∀ t, Steps p.tables e below (T5.setTop (mkF m 74 #[.val (.long p0), .second, .val (.long p1), .second, .val (.int v4_6), .val (.int v5_14)] [(.int (2 : Int32)), (.long p0)])) t → Steps p.tables e below (s₁.setTop (entryFrame m #[(.long p0), (.long p1)] 6)) t := by
              intro t k
              refine pre20 t ?_
              show Steps p.tables e below (T5.setTop (mkF m 69 #[.val (.long p0), .second, .val (.long p1), .second, .val (.int v4_6), .val (.int v5_14)] [(.int (2 : Int32)), (.int v4_6)])) _
              refine XS.icmpNo X5.here hx rfl (hb hby d11_69) rfl (tlt hc69).2.2.2 ?_
              show Steps p.tables e below (T5.setTop (mkF m 72 #[.val (.long p0), .second, .val (.long p1), .second, .val (.int v4_6), .val (.int v5_14)] [])) _
              refine XS.lloadN X5.here hx rfl (hb hby d11_72) rfl  ?_
              show Steps p.tables e below (T5.setTop (mkF m 73 #[.val (.long p0), .second, .val (.long p1), .second, .val (.int v4_6), .val (.int v5_14)] [(.long p0)])) _
              refine XS.iconst X5.here hx rfl (hb hby d11_73) ?_
              exact k
            obtain ⟨_, _, ⟨T21, L21, k21, n21⟩, -, X21, ⟨Lc21, hQ21, l21, y21, z21⟩, st21⟩ := Jvm.LawKit.callS X5 hx (y := (⟨"com/example/sequeue/sequeue/route/MessageQueueEqualsPinLaw", "ch", "(JI)C"⟩ : MethodName)) hown (mvT hZ (hw _ (List.mem_of_getElem? (i := 6) rfl))) (mvT hZ (hw _ (List.mem_of_getElem? (i := 7) rfl))) (mvT hZ (hw _ (List.mem_of_getElem? (i := 2) rfl))) (mvT hZ (hw _ (List.mem_of_getElem? (i := 8) rfl))) (by decide) (backOf (W := 0) (rm_2 l Z a0 hw [] p0 (2 : Int32) h0 n0 Z0 ) hZ (hw _ (List.mem_of_getElem? (i := 8) rfl)) (hw _ (List.mem_of_getElem? (i := 2) rfl)) (by decide) (by decide)) (g := (mkF m 74 #[.val (.long p0), .second, .val (.long p1), .second, .val (.int v4_6), .val (.int v5_14)] [(.int (2 : Int32)), (.long p0)])) rfl (by rw [hml]; rfl) (argsL := [(.long p0), (.int (2 : Int32))]) (rest := []) (lenOf pd_5 rfl) rfl (by show 2 * 0 + _ ≤ _; exact Nat.le_of_eq rfl) (hb hby d11_74) (fun _ _ => ⟨rfl, e5, (by decide : 0 + 0 ≤ _), (by decide : 0 + 0 ≤ _)⟩)
            dsimp only [Pt.U, Pt.locs, Pt.cells, Pt.slots] at X21 l21 y21 z21 st21 hQ21
            rw [l21, y21, z21] at X21
            obtain ⟨rfl, N21q, e21⟩ := hQ21
            have N21 := Fr.app N5 N21q
            have pre24 : ∀ t, Steps p.tables e below (T21.setTop (mkF m 79 #[.val (.long p0), .second, .val (.long p1), .second, .val (.int v4_6), .val (.int v5_14)] [(.int (2 : Int32)), (.long p1), (.int (f_2 p0 (2 : Int32)))])) t → Steps p.tables e below (s₁.setTop (entryFrame m #[(.long p0), (.long p1)] 6)) t := by
              intro t k
              refine pre22 t ?_
              show Steps p.tables e below (T5.setTop (mkF m 74 #[.val (.long p0), .second, .val (.long p1), .second, .val (.int v4_6), .val (.int v5_14)] [(.int (2 : Int32)), (.long p0)])) _
              refine st21 _ ?_
              show Steps p.tables e below (T21.setTop (mkF m 77 #[.val (.long p0), .second, .val (.long p1), .second, .val (.int v4_6), .val (.int v5_14)] [(.int (f_2 p0 (2 : Int32)))])) _
              refine XS.lloadN X21.here hx rfl (hb hby d11_77) rfl  ?_
              show Steps p.tables e below (T21.setTop (mkF m 78 #[.val (.long p0), .second, .val (.long p1), .second, .val (.int v4_6), .val (.int v5_14)] [(.long p1), (.int (f_2 p0 (2 : Int32)))])) _
              refine XS.iconst X21.here hx rfl (hb hby d11_78) ?_
              exact k
            obtain ⟨_, _, ⟨T23, L23, k23, n23⟩, -, X23, ⟨Lc23, hQ23, l23, y23, z23⟩, st23⟩ := Jvm.LawKit.callS X21 hx (y := (⟨"com/example/sequeue/sequeue/route/MessageQueueEqualsPinLaw", "ch", "(JI)C"⟩ : MethodName)) hown (mvT hZ (hw _ (List.mem_of_getElem? (i := 6) rfl))) (mvT hZ (hw _ (List.mem_of_getElem? (i := 7) rfl))) (mvT hZ (hw _ (List.mem_of_getElem? (i := 2) rfl))) (mvT hZ (hw _ (List.mem_of_getElem? (i := 8) rfl))) (by decide) (backOf (W := 1) (rm_2 l Z a0 hw [] p1 (2 : Int32) h0 n0 Z0 ) hZ (hw _ (List.mem_of_getElem? (i := 8) rfl)) (hw _ (List.mem_of_getElem? (i := 2) rfl)) (by decide) (by decide)) (g := (mkF m 79 #[.val (.long p0), .second, .val (.long p1), .second, .val (.int v4_6), .val (.int v5_14)] [(.int (2 : Int32)), (.long p1), (.int (f_2 p0 (2 : Int32)))])) rfl (by rw [hml]; rfl) (argsL := [(.long p1), (.int (2 : Int32))]) (rest := [(.int (f_2 p0 (2 : Int32)))]) (lenOf pd_5 rfl) rfl (by show 2 * 0 + _ ≤ _; exact Nat.le_of_eq rfl) (hb hby d11_79) (fun _ _ => ⟨rfl, e21, (by decide : 0 + 0 ≤ _), (by decide : 0 + 0 ≤ _)⟩)
            dsimp only [Pt.U, Pt.locs, Pt.cells, Pt.slots] at X23 l23 y23 z23 st23 hQ23
            rw [l23, y23, z23] at X23
            obtain ⟨rfl, N23q, e23⟩ := hQ23
            have N23 := Fr.app N21 N23q
            have pre25 : ∀ t, Steps p.tables e below (T23.setTop (mkF m 82 #[.val (.long p0), .second, .val (.long p1), .second, .val (.int v4_6), .val (.int v5_14)] [(.int (f_2 p1 (2 : Int32))), (.int (f_2 p0 (2 : Int32)))])) t → Steps p.tables e below (s₁.setTop (entryFrame m #[(.long p0), (.long p1)] 6)) t := by
              intro t k
              refine pre24 t ?_
              show Steps p.tables e below (T21.setTop (mkF m 79 #[.val (.long p0), .second, .val (.long p1), .second, .val (.int v4_6), .val (.int v5_14)] [(.int (2 : Int32)), (.long p1), (.int (f_2 p0 (2 : Int32)))])) _
              refine st23 _ ?_
              exact k
            by_cases hc82 : (f_2 p0 (2 : Int32)) = (f_2 p1 (2 : Int32))
            · obtain ⟨fs, hr, hrun, hended, hW, hsame⟩ := X23.leave (v := some (.int (1 : Int32))) (fun h => by rw [Bd.returns] at h; cases h) (BodyLoose.notSynchronized Bd)
              refine ⟨_, _, pre25 _ ?_, hrun, hended, _, _, rfl, ?_, ⟨_, rfl⟩, hW, hsame.mono (by decide) (by decide)⟩
              · show Steps p.tables e below (T23.setTop (mkF m 82 #[.val (.long p0), .second, .val (.long p1), .second, .val (.int v4_6), .val (.int v5_14)] [(.int (f_2 p1 (2 : Int32))), (.int (f_2 p0 (2 : Int32)))])) _
                refine XS.icmpYes X23.here hx rfl (pc0 := 82) (pc' := 87) rfl (hb hby d11_82) rfl (teq hc82).1 (by decide) (by decide) ?_
                show Steps p.tables e below (T23.setTop (mkF m 87 #[.val (.long p0), .second, .val (.long p1), .second, .val (.int v4_6), .val (.int v5_14)] [])) _
                refine XS.iconst X23.here hx rfl (hb hby d11_87) ?_
                show Steps p.tables e below (T23.setTop (mkF m 88 #[.val (.long p0), .second, .val (.long p1), .second, .val (.int v4_6), .val (.int v5_14)] [(.int (1 : Int32))])) _
                exact retN X23 hx (t := .boolean) Bd.returns (by simp) (hb hby d11_88) hr
              · show Q_11 Z p0 p1 h0 n0 _ T23.heap _
                rw [e23]
                exact ⟨congrArg (fun z => some (Value.int z)) (by subst hv4_6 hv5_14; exact ((if_pos hc20).trans ((if_pos hc27).trans ((if_pos hc40).trans ((if_neg hc48).trans ((if_pos hc69).trans (if_pos hc82)))))).symm : (1 : Int32) = f_11 p0 p1), N23, rfl⟩
            · obtain ⟨fs, hr, hrun, hended, hW, hsame⟩ := X23.leave (v := some (.int (0 : Int32))) (fun h => by rw [Bd.returns] at h; cases h) (BodyLoose.notSynchronized Bd)
              refine ⟨_, _, pre25 _ ?_, hrun, hended, _, _, rfl, ?_, ⟨_, rfl⟩, hW, hsame.mono (by decide) (by decide)⟩
              · show Steps p.tables e below (T23.setTop (mkF m 82 #[.val (.long p0), .second, .val (.long p1), .second, .val (.int v4_6), .val (.int v5_14)] [(.int (f_2 p1 (2 : Int32))), (.int (f_2 p0 (2 : Int32)))])) _
                refine XS.icmpNo X23.here hx rfl (hb hby d11_82) rfl (feq hc82).1 ?_
                show Steps p.tables e below (T23.setTop (mkF m 85 #[.val (.long p0), .second, .val (.long p1), .second, .val (.int v4_6), .val (.int v5_14)] [])) _
                refine XS.iconst X23.here hx rfl (hb hby d11_85) ?_
                show Steps p.tables e below (T23.setTop (mkF m 86 #[.val (.long p0), .second, .val (.long p1), .second, .val (.int v4_6), .val (.int v5_14)] [(.int (0 : Int32))])) _
                exact retN X23 hx (t := .boolean) Bd.returns (by simp) (hb hby d11_86) hr
              · show Q_11 Z p0 p1 h0 n0 _ T23.heap _
                rw [e23]
                exact ⟨congrArg (fun z => some (Value.int z)) (by subst hv4_6 hv5_14; exact ((if_pos hc20).trans ((if_pos hc27).trans ((if_pos hc40).trans ((if_neg hc48).trans ((if_pos hc69).trans (if_neg hc82)))))).symm : (0 : Int32) = f_11 p0 p1), N23, rfl⟩
          · obtain ⟨fs, hr, hrun, hended, hW, hsame⟩ := X5.leave (v := some (.int (1 : Int32))) (fun h => by rw [Bd.returns] at h; cases h) (BodyLoose.notSynchronized Bd)
            refine ⟨_, _, pre20 _ ?_, hrun, hended, _, _, rfl, ?_, ⟨_, rfl⟩, hW, hsame.mono (by decide) (by decide)⟩
            · show Steps p.tables e below (T5.setTop (mkF m 69 #[.val (.long p0), .second, .val (.long p1), .second, .val (.int v4_6), .val (.int v5_14)] [(.int (2 : Int32)), (.int v4_6)])) _
              refine XS.icmpYes X5.here hx rfl (pc0 := 69) (pc' := 87) rfl (hb hby d11_69) rfl (flt hc69).2.2.2 (by decide) (by decide) ?_
              show Steps p.tables e below (T5.setTop (mkF m 87 #[.val (.long p0), .second, .val (.long p1), .second, .val (.int v4_6), .val (.int v5_14)] [])) _
              refine XS.iconst X5.here hx rfl (hb hby d11_87) ?_
              show Steps p.tables e below (T5.setTop (mkF m 88 #[.val (.long p0), .second, .val (.long p1), .second, .val (.int v4_6), .val (.int v5_14)] [(.int (1 : Int32))])) _
              exact retN X5 hx (t := .boolean) Bd.returns (by simp) (hb hby d11_88) hr
            · show Q_11 Z p0 p1 h0 n0 _ T5.heap _
              rw [e5]
              exact ⟨congrArg (fun z => some (Value.int z)) (by subst hv4_6 hv5_14; exact ((if_pos hc20).trans ((if_pos hc27).trans ((if_pos hc40).trans ((if_neg hc48).trans (if_neg hc69))))).symm : (1 : Int32) = f_11 p0 p1), N5, rfl⟩
      · obtain ⟨fs, hr, hrun, hended, hW, hsame⟩ := X5.leave (v := some (.int (0 : Int32))) (fun h => by rw [Bd.returns] at h; cases h) (BodyLoose.notSynchronized Bd)
        refine ⟨_, _, pre7 _ ?_, hrun, hended, _, _, rfl, ?_, ⟨_, rfl⟩, hW, hsame.mono (by decide) (by decide)⟩
        · show Steps p.tables e below (T5.setTop (mkF m 40 #[.val (.long p0), .second, .val (.long p1), .second, .val (.int v4_6), .val (.int v5_14)] [(.int (f_2 p1 (0 : Int32))), (.int (f_2 p0 (0 : Int32)))])) _
          refine XS.icmpNo X5.here hx rfl (hb hby d11_40) rfl (feq hc40).1 ?_
          show Steps p.tables e below (T5.setTop (mkF m 43 #[.val (.long p0), .second, .val (.long p1), .second, .val (.int v4_6), .val (.int v5_14)] [])) _
          refine XS.iconst X5.here hx rfl (hb hby d11_43) ?_
          show Steps p.tables e below (T5.setTop (mkF m 44 #[.val (.long p0), .second, .val (.long p1), .second, .val (.int v4_6), .val (.int v5_14)] [(.int (0 : Int32))])) _
          exact retN X5 hx (t := .boolean) Bd.returns (by simp) (hb hby d11_44) hr
        · show Q_11 Z p0 p1 h0 n0 _ T5.heap _
          rw [e5]
          exact ⟨congrArg (fun z => some (Value.int z)) (by subst hv4_6 hv5_14; exact ((if_pos hc20).trans ((if_pos hc27).trans (if_neg hc40))).symm : (0 : Int32) = f_11 p0 p1), N5, rfl⟩
    · have pre26 : ∀ t, Steps p.tables e below (s₁.setTop (mkF m 48 #[.val (.long p0), .second, .val (.long p1), .second, .val (.int v4_6), .val (.int v5_14)] [(.int (1 : Int32)), (.int v4_6)])) t → Steps p.tables e below (s₁.setTop (entryFrame m #[(.long p0), (.long p1)] 6)) t := by
        intro t k
        refine pre2 t ?_
        show Steps p.tables e below (s₁.setTop (mkF m 27 #[.val (.long p0), .second, .val (.long p1), .second, .val (.int v4_6), .val (.int v5_14)] [(.int v4_6)])) _
        refine XS.ifYes X0.here hx rfl (pc0 := 27) (pc' := 45) rfl (hb hby d11_27) rfl ((if0 _ _).trans (flt hc27).2.2.2) (by decide) (by decide) ?_
        show Steps p.tables e below (s₁.setTop (mkF m 45 #[.val (.long p0), .second, .val (.long p1), .second, .val (.int v4_6), .val (.int v5_14)] [])) _
        refine XS.iload X0.here hx rfl (hb hby d11_45) rfl  ?_
        show Steps p.tables e below (s₁.setTop (mkF m 47 #[.val (.long p0), .second, .val (.long p1), .second, .val (.int v4_6), .val (.int v5_14)] [(.int v4_6)])) _
        refine XS.iconst X0.here hx rfl (hb hby d11_47) ?_
        exact k
      by_cases hc48 : (1 : Int32) < v4_6
      · have pre28 : ∀ t, Steps p.tables e below (s₁.setTop (mkF m 53 #[.val (.long p0), .second, .val (.long p1), .second, .val (.int v4_6), .val (.int v5_14)] [(.int (1 : Int32)), (.long p0)])) t → Steps p.tables e below (s₁.setTop (entryFrame m #[(.long p0), (.long p1)] 6)) t := by
          intro t k
          refine pre26 t ?_
          show Steps p.tables e below (s₁.setTop (mkF m 48 #[.val (.long p0), .second, .val (.long p1), .second, .val (.int v4_6), .val (.int v5_14)] [(.int (1 : Int32)), (.int v4_6)])) _
          refine XS.icmpNo X0.here hx rfl (hb hby d11_48) rfl (tlt hc48).2.2.2 ?_
          show Steps p.tables e below (s₁.setTop (mkF m 51 #[.val (.long p0), .second, .val (.long p1), .second, .val (.int v4_6), .val (.int v5_14)] [])) _
          refine XS.lloadN X0.here hx rfl (hb hby d11_51) rfl  ?_
          show Steps p.tables e below (s₁.setTop (mkF m 52 #[.val (.long p0), .second, .val (.long p1), .second, .val (.int v4_6), .val (.int v5_14)] [(.long p0)])) _
          refine XS.iconst X0.here hx rfl (hb hby d11_52) ?_
          exact k
        obtain ⟨_, _, ⟨T27, L27, k27, n27⟩, -, X27, ⟨Lc27, hQ27, l27, y27, z27⟩, st27⟩ := Jvm.LawKit.callS X0 hx (y := (⟨"com/example/sequeue/sequeue/route/MessageQueueEqualsPinLaw", "ch", "(JI)C"⟩ : MethodName)) hown (mvT hZ (hw _ (List.mem_of_getElem? (i := 6) rfl))) (mvT hZ (hw _ (List.mem_of_getElem? (i := 7) rfl))) (mvT hZ (hw _ (List.mem_of_getElem? (i := 2) rfl))) (mvT hZ (hw _ (List.mem_of_getElem? (i := 8) rfl))) (by decide) (backOf (W := 0) (rm_2 l Z a0 hw [] p0 (1 : Int32) h0 n0 Z0 ) hZ (hw _ (List.mem_of_getElem? (i := 8) rfl)) (hw _ (List.mem_of_getElem? (i := 2) rfl)) (by decide) (by decide)) (g := (mkF m 53 #[.val (.long p0), .second, .val (.long p1), .second, .val (.int v4_6), .val (.int v5_14)] [(.int (1 : Int32)), (.long p0)])) rfl (by rw [hml]; rfl) (argsL := [(.long p0), (.int (1 : Int32))]) (rest := []) (lenOf pd_5 rfl) rfl (by show 2 * 0 + _ ≤ _; exact Nat.le_of_eq rfl) (hb hby d11_53) (fun _ _ => ⟨rfl, e0, (by decide : 0 + 0 ≤ _), (by decide : 0 + 0 ≤ _)⟩)
        dsimp only [Pt.U, Pt.locs, Pt.cells, Pt.slots] at X27 l27 y27 z27 st27 hQ27
        rw [l27, y27, z27] at X27
        obtain ⟨rfl, N27q, e27⟩ := hQ27
        have N27 := Fr.app N0 N27q
        have pre30 : ∀ t, Steps p.tables e below (T27.setTop (mkF m 58 #[.val (.long p0), .second, .val (.long p1), .second, .val (.int v4_6), .val (.int v5_14)] [(.int (1 : Int32)), (.long p1), (.int (f_2 p0 (1 : Int32)))])) t → Steps p.tables e below (s₁.setTop (entryFrame m #[(.long p0), (.long p1)] 6)) t := by
          intro t k
          refine pre28 t ?_
          show Steps p.tables e below (s₁.setTop (mkF m 53 #[.val (.long p0), .second, .val (.long p1), .second, .val (.int v4_6), .val (.int v5_14)] [(.int (1 : Int32)), (.long p0)])) _
          refine st27 _ ?_
          show Steps p.tables e below (T27.setTop (mkF m 56 #[.val (.long p0), .second, .val (.long p1), .second, .val (.int v4_6), .val (.int v5_14)] [(.int (f_2 p0 (1 : Int32)))])) _
          refine XS.lloadN X27.here hx rfl (hb hby d11_56) rfl  ?_
          show Steps p.tables e below (T27.setTop (mkF m 57 #[.val (.long p0), .second, .val (.long p1), .second, .val (.int v4_6), .val (.int v5_14)] [(.long p1), (.int (f_2 p0 (1 : Int32)))])) _
          refine XS.iconst X27.here hx rfl (hb hby d11_57) ?_
          exact k
        obtain ⟨_, _, ⟨T29, L29, k29, n29⟩, -, X29, ⟨Lc29, hQ29, l29, y29, z29⟩, st29⟩ := Jvm.LawKit.callS X27 hx (y := (⟨"com/example/sequeue/sequeue/route/MessageQueueEqualsPinLaw", "ch", "(JI)C"⟩ : MethodName)) hown (mvT hZ (hw _ (List.mem_of_getElem? (i := 6) rfl))) (mvT hZ (hw _ (List.mem_of_getElem? (i := 7) rfl))) (mvT hZ (hw _ (List.mem_of_getElem? (i := 2) rfl))) (mvT hZ (hw _ (List.mem_of_getElem? (i := 8) rfl))) (by decide) (backOf (W := 1) (rm_2 l Z a0 hw [] p1 (1 : Int32) h0 n0 Z0 ) hZ (hw _ (List.mem_of_getElem? (i := 8) rfl)) (hw _ (List.mem_of_getElem? (i := 2) rfl)) (by decide) (by decide)) (g := (mkF m 58 #[.val (.long p0), .second, .val (.long p1), .second, .val (.int v4_6), .val (.int v5_14)] [(.int (1 : Int32)), (.long p1), (.int (f_2 p0 (1 : Int32)))])) rfl (by rw [hml]; rfl) (argsL := [(.long p1), (.int (1 : Int32))]) (rest := [(.int (f_2 p0 (1 : Int32)))]) (lenOf pd_5 rfl) rfl (by show 2 * 0 + _ ≤ _; exact Nat.le_of_eq rfl) (hb hby d11_58) (fun _ _ => ⟨rfl, e27, (by decide : 0 + 0 ≤ _), (by decide : 0 + 0 ≤ _)⟩)
        dsimp only [Pt.U, Pt.locs, Pt.cells, Pt.slots] at X29 l29 y29 z29 st29 hQ29
        rw [l29, y29, z29] at X29
        obtain ⟨rfl, N29q, e29⟩ := hQ29
        have N29 := Fr.app N27 N29q
        have pre31 : ∀ t, Steps p.tables e below (T29.setTop (mkF m 61 #[.val (.long p0), .second, .val (.long p1), .second, .val (.int v4_6), .val (.int v5_14)] [(.int (f_2 p1 (1 : Int32))), (.int (f_2 p0 (1 : Int32)))])) t → Steps p.tables e below (s₁.setTop (entryFrame m #[(.long p0), (.long p1)] 6)) t := by
          intro t k
          refine pre30 t ?_
          show Steps p.tables e below (T27.setTop (mkF m 58 #[.val (.long p0), .second, .val (.long p1), .second, .val (.int v4_6), .val (.int v5_14)] [(.int (1 : Int32)), (.long p1), (.int (f_2 p0 (1 : Int32)))])) _
          refine st29 _ ?_
          exact k
        by_cases hc61 : (f_2 p0 (1 : Int32)) = (f_2 p1 (1 : Int32))
        · have pre32 : ∀ t, Steps p.tables e below (T29.setTop (mkF m 69 #[.val (.long p0), .second, .val (.long p1), .second, .val (.int v4_6), .val (.int v5_14)] [(.int (2 : Int32)), (.int v4_6)])) t → Steps p.tables e below (s₁.setTop (entryFrame m #[(.long p0), (.long p1)] 6)) t := by
            intro t k
            refine pre31 t ?_
            show Steps p.tables e below (T29.setTop (mkF m 61 #[.val (.long p0), .second, .val (.long p1), .second, .val (.int v4_6), .val (.int v5_14)] [(.int (f_2 p1 (1 : Int32))), (.int (f_2 p0 (1 : Int32)))])) _
            refine XS.icmpYes X29.here hx rfl (pc0 := 61) (pc' := 66) rfl (hb hby d11_61) rfl (teq hc61).1 (by decide) (by decide) ?_
            show Steps p.tables e below (T29.setTop (mkF m 66 #[.val (.long p0), .second, .val (.long p1), .second, .val (.int v4_6), .val (.int v5_14)] [])) _
            refine XS.iload X29.here hx rfl (hb hby d11_66) rfl  ?_
            show Steps p.tables e below (T29.setTop (mkF m 68 #[.val (.long p0), .second, .val (.long p1), .second, .val (.int v4_6), .val (.int v5_14)] [(.int v4_6)])) _
            refine XS.iconst X29.here hx rfl (hb hby d11_68) ?_
            exact k
          by_cases hc69 : (2 : Int32) < v4_6
          · have pre34 : ∀ t, Steps p.tables e below (T29.setTop (mkF m 74 #[.val (.long p0), .second, .val (.long p1), .second, .val (.int v4_6), .val (.int v5_14)] [(.int (2 : Int32)), (.long p0)])) t → Steps p.tables e below (s₁.setTop (entryFrame m #[(.long p0), (.long p1)] 6)) t := by
              intro t k
              refine pre32 t ?_
              show Steps p.tables e below (T29.setTop (mkF m 69 #[.val (.long p0), .second, .val (.long p1), .second, .val (.int v4_6), .val (.int v5_14)] [(.int (2 : Int32)), (.int v4_6)])) _
              refine XS.icmpNo X29.here hx rfl (hb hby d11_69) rfl (tlt hc69).2.2.2 ?_
              show Steps p.tables e below (T29.setTop (mkF m 72 #[.val (.long p0), .second, .val (.long p1), .second, .val (.int v4_6), .val (.int v5_14)] [])) _
              refine XS.lloadN X29.here hx rfl (hb hby d11_72) rfl  ?_
              show Steps p.tables e below (T29.setTop (mkF m 73 #[.val (.long p0), .second, .val (.long p1), .second, .val (.int v4_6), .val (.int v5_14)] [(.long p0)])) _
              refine XS.iconst X29.here hx rfl (hb hby d11_73) ?_
              exact k
            obtain ⟨_, _, ⟨T33, L33, k33, n33⟩, -, X33, ⟨Lc33, hQ33, l33, y33, z33⟩, st33⟩ := Jvm.LawKit.callS X29 hx (y := (⟨"com/example/sequeue/sequeue/route/MessageQueueEqualsPinLaw", "ch", "(JI)C"⟩ : MethodName)) hown (mvT hZ (hw _ (List.mem_of_getElem? (i := 6) rfl))) (mvT hZ (hw _ (List.mem_of_getElem? (i := 7) rfl))) (mvT hZ (hw _ (List.mem_of_getElem? (i := 2) rfl))) (mvT hZ (hw _ (List.mem_of_getElem? (i := 8) rfl))) (by decide) (backOf (W := 0) (rm_2 l Z a0 hw [] p0 (2 : Int32) h0 n0 Z0 ) hZ (hw _ (List.mem_of_getElem? (i := 8) rfl)) (hw _ (List.mem_of_getElem? (i := 2) rfl)) (by decide) (by decide)) (g := (mkF m 74 #[.val (.long p0), .second, .val (.long p1), .second, .val (.int v4_6), .val (.int v5_14)] [(.int (2 : Int32)), (.long p0)])) rfl (by rw [hml]; rfl) (argsL := [(.long p0), (.int (2 : Int32))]) (rest := []) (lenOf pd_5 rfl) rfl (by show 2 * 0 + _ ≤ _; exact Nat.le_of_eq rfl) (hb hby d11_74) (fun _ _ => ⟨rfl, e29, (by decide : 0 + 0 ≤ _), (by decide : 0 + 0 ≤ _)⟩)
            dsimp only [Pt.U, Pt.locs, Pt.cells, Pt.slots] at X33 l33 y33 z33 st33 hQ33
            rw [l33, y33, z33] at X33
            obtain ⟨rfl, N33q, e33⟩ := hQ33
            have N33 := Fr.app N29 N33q
            have pre36 : ∀ t, Steps p.tables e below (T33.setTop (mkF m 79 #[.val (.long p0), .second, .val (.long p1), .second, .val (.int v4_6), .val (.int v5_14)] [(.int (2 : Int32)), (.long p1), (.int (f_2 p0 (2 : Int32)))])) t → Steps p.tables e below (s₁.setTop (entryFrame m #[(.long p0), (.long p1)] 6)) t := by
              intro t k
              refine pre34 t ?_
              show Steps p.tables e below (T29.setTop (mkF m 74 #[.val (.long p0), .second, .val (.long p1), .second, .val (.int v4_6), .val (.int v5_14)] [(.int (2 : Int32)), (.long p0)])) _
              refine st33 _ ?_
              show Steps p.tables e below (T33.setTop (mkF m 77 #[.val (.long p0), .second, .val (.long p1), .second, .val (.int v4_6), .val (.int v5_14)] [(.int (f_2 p0 (2 : Int32)))])) _
              refine XS.lloadN X33.here hx rfl (hb hby d11_77) rfl  ?_
              show Steps p.tables e below (T33.setTop (mkF m 78 #[.val (.long p0), .second, .val (.long p1), .second, .val (.int v4_6), .val (.int v5_14)] [(.long p1), (.int (f_2 p0 (2 : Int32)))])) _
              refine XS.iconst X33.here hx rfl (hb hby d11_78) ?_
              exact k
            obtain ⟨_, _, ⟨T35, L35, k35, n35⟩, -, X35, ⟨Lc35, hQ35, l35, y35, z35⟩, st35⟩ := Jvm.LawKit.callS X33 hx (y := (⟨"com/example/sequeue/sequeue/route/MessageQueueEqualsPinLaw", "ch", "(JI)C"⟩ : MethodName)) hown (mvT hZ (hw _ (List.mem_of_getElem? (i := 6) rfl))) (mvT hZ (hw _ (List.mem_of_getElem? (i := 7) rfl))) (mvT hZ (hw _ (List.mem_of_getElem? (i := 2) rfl))) (mvT hZ (hw _ (List.mem_of_getElem? (i := 8) rfl))) (by decide) (backOf (W := 1) (rm_2 l Z a0 hw [] p1 (2 : Int32) h0 n0 Z0 ) hZ (hw _ (List.mem_of_getElem? (i := 8) rfl)) (hw _ (List.mem_of_getElem? (i := 2) rfl)) (by decide) (by decide)) (g := (mkF m 79 #[.val (.long p0), .second, .val (.long p1), .second, .val (.int v4_6), .val (.int v5_14)] [(.int (2 : Int32)), (.long p1), (.int (f_2 p0 (2 : Int32)))])) rfl (by rw [hml]; rfl) (argsL := [(.long p1), (.int (2 : Int32))]) (rest := [(.int (f_2 p0 (2 : Int32)))]) (lenOf pd_5 rfl) rfl (by show 2 * 0 + _ ≤ _; exact Nat.le_of_eq rfl) (hb hby d11_79) (fun _ _ => ⟨rfl, e33, (by decide : 0 + 0 ≤ _), (by decide : 0 + 0 ≤ _)⟩)
            dsimp only [Pt.U, Pt.locs, Pt.cells, Pt.slots] at X35 l35 y35 z35 st35 hQ35
            rw [l35, y35, z35] at X35
            obtain ⟨rfl, N35q, e35⟩ := hQ35
            have N35 := Fr.app N33 N35q
            have pre37 : ∀ t, Steps p.tables e below (T35.setTop (mkF m 82 #[.val (.long p0), .second, .val (.long p1), .second, .val (.int v4_6), .val (.int v5_14)] [(.int (f_2 p1 (2 : Int32))), (.int (f_2 p0 (2 : Int32)))])) t → Steps p.tables e below (s₁.setTop (entryFrame m #[(.long p0), (.long p1)] 6)) t := by
              intro t k
              refine pre36 t ?_
              show Steps p.tables e below (T33.setTop (mkF m 79 #[.val (.long p0), .second, .val (.long p1), .second, .val (.int v4_6), .val (.int v5_14)] [(.int (2 : Int32)), (.long p1), (.int (f_2 p0 (2 : Int32)))])) _
              refine st35 _ ?_
              exact k
            by_cases hc82 : (f_2 p0 (2 : Int32)) = (f_2 p1 (2 : Int32))
            · obtain ⟨fs, hr, hrun, hended, hW, hsame⟩ := X35.leave (v := some (.int (1 : Int32))) (fun h => by rw [Bd.returns] at h; cases h) (BodyLoose.notSynchronized Bd)
              refine ⟨_, _, pre37 _ ?_, hrun, hended, _, _, rfl, ?_, ⟨_, rfl⟩, hW, hsame.mono (by decide) (by decide)⟩
              · show Steps p.tables e below (T35.setTop (mkF m 82 #[.val (.long p0), .second, .val (.long p1), .second, .val (.int v4_6), .val (.int v5_14)] [(.int (f_2 p1 (2 : Int32))), (.int (f_2 p0 (2 : Int32)))])) _
                refine XS.icmpYes X35.here hx rfl (pc0 := 82) (pc' := 87) rfl (hb hby d11_82) rfl (teq hc82).1 (by decide) (by decide) ?_
                show Steps p.tables e below (T35.setTop (mkF m 87 #[.val (.long p0), .second, .val (.long p1), .second, .val (.int v4_6), .val (.int v5_14)] [])) _
                refine XS.iconst X35.here hx rfl (hb hby d11_87) ?_
                show Steps p.tables e below (T35.setTop (mkF m 88 #[.val (.long p0), .second, .val (.long p1), .second, .val (.int v4_6), .val (.int v5_14)] [(.int (1 : Int32))])) _
                exact retN X35 hx (t := .boolean) Bd.returns (by simp) (hb hby d11_88) hr
              · show Q_11 Z p0 p1 h0 n0 _ T35.heap _
                rw [e35]
                exact ⟨congrArg (fun z => some (Value.int z)) (by subst hv4_6 hv5_14; exact ((if_pos hc20).trans ((if_neg hc27).trans ((if_pos hc48).trans ((if_pos hc61).trans ((if_pos hc69).trans (if_pos hc82)))))).symm : (1 : Int32) = f_11 p0 p1), N35, rfl⟩
            · obtain ⟨fs, hr, hrun, hended, hW, hsame⟩ := X35.leave (v := some (.int (0 : Int32))) (fun h => by rw [Bd.returns] at h; cases h) (BodyLoose.notSynchronized Bd)
              refine ⟨_, _, pre37 _ ?_, hrun, hended, _, _, rfl, ?_, ⟨_, rfl⟩, hW, hsame.mono (by decide) (by decide)⟩
              · show Steps p.tables e below (T35.setTop (mkF m 82 #[.val (.long p0), .second, .val (.long p1), .second, .val (.int v4_6), .val (.int v5_14)] [(.int (f_2 p1 (2 : Int32))), (.int (f_2 p0 (2 : Int32)))])) _
                refine XS.icmpNo X35.here hx rfl (hb hby d11_82) rfl (feq hc82).1 ?_
                show Steps p.tables e below (T35.setTop (mkF m 85 #[.val (.long p0), .second, .val (.long p1), .second, .val (.int v4_6), .val (.int v5_14)] [])) _
                refine XS.iconst X35.here hx rfl (hb hby d11_85) ?_
                show Steps p.tables e below (T35.setTop (mkF m 86 #[.val (.long p0), .second, .val (.long p1), .second, .val (.int v4_6), .val (.int v5_14)] [(.int (0 : Int32))])) _
                exact retN X35 hx (t := .boolean) Bd.returns (by simp) (hb hby d11_86) hr
              · show Q_11 Z p0 p1 h0 n0 _ T35.heap _
                rw [e35]
                exact ⟨congrArg (fun z => some (Value.int z)) (by subst hv4_6 hv5_14; exact ((if_pos hc20).trans ((if_neg hc27).trans ((if_pos hc48).trans ((if_pos hc61).trans ((if_pos hc69).trans (if_neg hc82)))))).symm : (0 : Int32) = f_11 p0 p1), N35, rfl⟩
          · obtain ⟨fs, hr, hrun, hended, hW, hsame⟩ := X29.leave (v := some (.int (1 : Int32))) (fun h => by rw [Bd.returns] at h; cases h) (BodyLoose.notSynchronized Bd)
            refine ⟨_, _, pre32 _ ?_, hrun, hended, _, _, rfl, ?_, ⟨_, rfl⟩, hW, hsame.mono (by decide) (by decide)⟩
            · show Steps p.tables e below (T29.setTop (mkF m 69 #[.val (.long p0), .second, .val (.long p1), .second, .val (.int v4_6), .val (.int v5_14)] [(.int (2 : Int32)), (.int v4_6)])) _
              refine XS.icmpYes X29.here hx rfl (pc0 := 69) (pc' := 87) rfl (hb hby d11_69) rfl (flt hc69).2.2.2 (by decide) (by decide) ?_
              show Steps p.tables e below (T29.setTop (mkF m 87 #[.val (.long p0), .second, .val (.long p1), .second, .val (.int v4_6), .val (.int v5_14)] [])) _
              refine XS.iconst X29.here hx rfl (hb hby d11_87) ?_
              show Steps p.tables e below (T29.setTop (mkF m 88 #[.val (.long p0), .second, .val (.long p1), .second, .val (.int v4_6), .val (.int v5_14)] [(.int (1 : Int32))])) _
              exact retN X29 hx (t := .boolean) Bd.returns (by simp) (hb hby d11_88) hr
            · show Q_11 Z p0 p1 h0 n0 _ T29.heap _
              rw [e29]
              exact ⟨congrArg (fun z => some (Value.int z)) (by subst hv4_6 hv5_14; exact ((if_pos hc20).trans ((if_neg hc27).trans ((if_pos hc48).trans ((if_pos hc61).trans (if_neg hc69))))).symm : (1 : Int32) = f_11 p0 p1), N29, rfl⟩
        · obtain ⟨fs, hr, hrun, hended, hW, hsame⟩ := X29.leave (v := some (.int (0 : Int32))) (fun h => by rw [Bd.returns] at h; cases h) (BodyLoose.notSynchronized Bd)
          refine ⟨_, _, pre31 _ ?_, hrun, hended, _, _, rfl, ?_, ⟨_, rfl⟩, hW, hsame.mono (by decide) (by decide)⟩
          · show Steps p.tables e below (T29.setTop (mkF m 61 #[.val (.long p0), .second, .val (.long p1), .second, .val (.int v4_6), .val (.int v5_14)] [(.int (f_2 p1 (1 : Int32))), (.int (f_2 p0 (1 : Int32)))])) _
            refine XS.icmpNo X29.here hx rfl (hb hby d11_61) rfl (feq hc61).1 ?_
            show Steps p.tables e below (T29.setTop (mkF m 64 #[.val (.long p0), .second, .val (.long p1), .second, .val (.int v4_6), .val (.int v5_14)] [])) _
            refine XS.iconst X29.here hx rfl (hb hby d11_64) ?_
            show Steps p.tables e below (T29.setTop (mkF m 65 #[.val (.long p0), .second, .val (.long p1), .second, .val (.int v4_6), .val (.int v5_14)] [(.int (0 : Int32))])) _
            exact retN X29 hx (t := .boolean) Bd.returns (by simp) (hb hby d11_65) hr
          · show Q_11 Z p0 p1 h0 n0 _ T29.heap _
            rw [e29]
            exact ⟨congrArg (fun z => some (Value.int z)) (by subst hv4_6 hv5_14; exact ((if_pos hc20).trans ((if_neg hc27).trans ((if_pos hc48).trans (if_neg hc61)))).symm : (0 : Int32) = f_11 p0 p1), N29, rfl⟩
      · have pre38 : ∀ t, Steps p.tables e below (s₁.setTop (mkF m 69 #[.val (.long p0), .second, .val (.long p1), .second, .val (.int v4_6), .val (.int v5_14)] [(.int (2 : Int32)), (.int v4_6)])) t → Steps p.tables e below (s₁.setTop (entryFrame m #[(.long p0), (.long p1)] 6)) t := by
          intro t k
          refine pre26 t ?_
          show Steps p.tables e below (s₁.setTop (mkF m 48 #[.val (.long p0), .second, .val (.long p1), .second, .val (.int v4_6), .val (.int v5_14)] [(.int (1 : Int32)), (.int v4_6)])) _
          refine XS.icmpYes X0.here hx rfl (pc0 := 48) (pc' := 66) rfl (hb hby d11_48) rfl (flt hc48).2.2.2 (by decide) (by decide) ?_
          show Steps p.tables e below (s₁.setTop (mkF m 66 #[.val (.long p0), .second, .val (.long p1), .second, .val (.int v4_6), .val (.int v5_14)] [])) _
          refine XS.iload X0.here hx rfl (hb hby d11_66) rfl  ?_
          show Steps p.tables e below (s₁.setTop (mkF m 68 #[.val (.long p0), .second, .val (.long p1), .second, .val (.int v4_6), .val (.int v5_14)] [(.int v4_6)])) _
          refine XS.iconst X0.here hx rfl (hb hby d11_68) ?_
          exact k
        by_cases hc69 : (2 : Int32) < v4_6
        · have pre40 : ∀ t, Steps p.tables e below (s₁.setTop (mkF m 74 #[.val (.long p0), .second, .val (.long p1), .second, .val (.int v4_6), .val (.int v5_14)] [(.int (2 : Int32)), (.long p0)])) t → Steps p.tables e below (s₁.setTop (entryFrame m #[(.long p0), (.long p1)] 6)) t := by
            intro t k
            refine pre38 t ?_
            show Steps p.tables e below (s₁.setTop (mkF m 69 #[.val (.long p0), .second, .val (.long p1), .second, .val (.int v4_6), .val (.int v5_14)] [(.int (2 : Int32)), (.int v4_6)])) _
            refine XS.icmpNo X0.here hx rfl (hb hby d11_69) rfl (tlt hc69).2.2.2 ?_
            show Steps p.tables e below (s₁.setTop (mkF m 72 #[.val (.long p0), .second, .val (.long p1), .second, .val (.int v4_6), .val (.int v5_14)] [])) _
            refine XS.lloadN X0.here hx rfl (hb hby d11_72) rfl  ?_
            show Steps p.tables e below (s₁.setTop (mkF m 73 #[.val (.long p0), .second, .val (.long p1), .second, .val (.int v4_6), .val (.int v5_14)] [(.long p0)])) _
            refine XS.iconst X0.here hx rfl (hb hby d11_73) ?_
            exact k
          obtain ⟨_, _, ⟨T39, L39, k39, n39⟩, -, X39, ⟨Lc39, hQ39, l39, y39, z39⟩, st39⟩ := Jvm.LawKit.callS X0 hx (y := (⟨"com/example/sequeue/sequeue/route/MessageQueueEqualsPinLaw", "ch", "(JI)C"⟩ : MethodName)) hown (mvT hZ (hw _ (List.mem_of_getElem? (i := 6) rfl))) (mvT hZ (hw _ (List.mem_of_getElem? (i := 7) rfl))) (mvT hZ (hw _ (List.mem_of_getElem? (i := 2) rfl))) (mvT hZ (hw _ (List.mem_of_getElem? (i := 8) rfl))) (by decide) (backOf (W := 0) (rm_2 l Z a0 hw [] p0 (2 : Int32) h0 n0 Z0 ) hZ (hw _ (List.mem_of_getElem? (i := 8) rfl)) (hw _ (List.mem_of_getElem? (i := 2) rfl)) (by decide) (by decide)) (g := (mkF m 74 #[.val (.long p0), .second, .val (.long p1), .second, .val (.int v4_6), .val (.int v5_14)] [(.int (2 : Int32)), (.long p0)])) rfl (by rw [hml]; rfl) (argsL := [(.long p0), (.int (2 : Int32))]) (rest := []) (lenOf pd_5 rfl) rfl (by show 2 * 0 + _ ≤ _; exact Nat.le_of_eq rfl) (hb hby d11_74) (fun _ _ => ⟨rfl, e0, (by decide : 0 + 0 ≤ _), (by decide : 0 + 0 ≤ _)⟩)
          dsimp only [Pt.U, Pt.locs, Pt.cells, Pt.slots] at X39 l39 y39 z39 st39 hQ39
          rw [l39, y39, z39] at X39
          obtain ⟨rfl, N39q, e39⟩ := hQ39
          have N39 := Fr.app N0 N39q
          have pre42 : ∀ t, Steps p.tables e below (T39.setTop (mkF m 79 #[.val (.long p0), .second, .val (.long p1), .second, .val (.int v4_6), .val (.int v5_14)] [(.int (2 : Int32)), (.long p1), (.int (f_2 p0 (2 : Int32)))])) t → Steps p.tables e below (s₁.setTop (entryFrame m #[(.long p0), (.long p1)] 6)) t := by
            intro t k
            refine pre40 t ?_
            show Steps p.tables e below (s₁.setTop (mkF m 74 #[.val (.long p0), .second, .val (.long p1), .second, .val (.int v4_6), .val (.int v5_14)] [(.int (2 : Int32)), (.long p0)])) _
            refine st39 _ ?_
            show Steps p.tables e below (T39.setTop (mkF m 77 #[.val (.long p0), .second, .val (.long p1), .second, .val (.int v4_6), .val (.int v5_14)] [(.int (f_2 p0 (2 : Int32)))])) _
            refine XS.lloadN X39.here hx rfl (hb hby d11_77) rfl  ?_
            show Steps p.tables e below (T39.setTop (mkF m 78 #[.val (.long p0), .second, .val (.long p1), .second, .val (.int v4_6), .val (.int v5_14)] [(.long p1), (.int (f_2 p0 (2 : Int32)))])) _
            refine XS.iconst X39.here hx rfl (hb hby d11_78) ?_
            exact k
          obtain ⟨_, _, ⟨T41, L41, k41, n41⟩, -, X41, ⟨Lc41, hQ41, l41, y41, z41⟩, st41⟩ := Jvm.LawKit.callS X39 hx (y := (⟨"com/example/sequeue/sequeue/route/MessageQueueEqualsPinLaw", "ch", "(JI)C"⟩ : MethodName)) hown (mvT hZ (hw _ (List.mem_of_getElem? (i := 6) rfl))) (mvT hZ (hw _ (List.mem_of_getElem? (i := 7) rfl))) (mvT hZ (hw _ (List.mem_of_getElem? (i := 2) rfl))) (mvT hZ (hw _ (List.mem_of_getElem? (i := 8) rfl))) (by decide) (backOf (W := 1) (rm_2 l Z a0 hw [] p1 (2 : Int32) h0 n0 Z0 ) hZ (hw _ (List.mem_of_getElem? (i := 8) rfl)) (hw _ (List.mem_of_getElem? (i := 2) rfl)) (by decide) (by decide)) (g := (mkF m 79 #[.val (.long p0), .second, .val (.long p1), .second, .val (.int v4_6), .val (.int v5_14)] [(.int (2 : Int32)), (.long p1), (.int (f_2 p0 (2 : Int32)))])) rfl (by rw [hml]; rfl) (argsL := [(.long p1), (.int (2 : Int32))]) (rest := [(.int (f_2 p0 (2 : Int32)))]) (lenOf pd_5 rfl) rfl (by show 2 * 0 + _ ≤ _; exact Nat.le_of_eq rfl) (hb hby d11_79) (fun _ _ => ⟨rfl, e39, (by decide : 0 + 0 ≤ _), (by decide : 0 + 0 ≤ _)⟩)
          dsimp only [Pt.U, Pt.locs, Pt.cells, Pt.slots] at X41 l41 y41 z41 st41 hQ41
          rw [l41, y41, z41] at X41
          obtain ⟨rfl, N41q, e41⟩ := hQ41
          have N41 := Fr.app N39 N41q
          have pre43 : ∀ t, Steps p.tables e below (T41.setTop (mkF m 82 #[.val (.long p0), .second, .val (.long p1), .second, .val (.int v4_6), .val (.int v5_14)] [(.int (f_2 p1 (2 : Int32))), (.int (f_2 p0 (2 : Int32)))])) t → Steps p.tables e below (s₁.setTop (entryFrame m #[(.long p0), (.long p1)] 6)) t := by
            intro t k
            refine pre42 t ?_
            show Steps p.tables e below (T39.setTop (mkF m 79 #[.val (.long p0), .second, .val (.long p1), .second, .val (.int v4_6), .val (.int v5_14)] [(.int (2 : Int32)), (.long p1), (.int (f_2 p0 (2 : Int32)))])) _
            refine st41 _ ?_
            exact k
          by_cases hc82 : (f_2 p0 (2 : Int32)) = (f_2 p1 (2 : Int32))
          · obtain ⟨fs, hr, hrun, hended, hW, hsame⟩ := X41.leave (v := some (.int (1 : Int32))) (fun h => by rw [Bd.returns] at h; cases h) (BodyLoose.notSynchronized Bd)
            refine ⟨_, _, pre43 _ ?_, hrun, hended, _, _, rfl, ?_, ⟨_, rfl⟩, hW, hsame.mono (by decide) (by decide)⟩
            · show Steps p.tables e below (T41.setTop (mkF m 82 #[.val (.long p0), .second, .val (.long p1), .second, .val (.int v4_6), .val (.int v5_14)] [(.int (f_2 p1 (2 : Int32))), (.int (f_2 p0 (2 : Int32)))])) _
              refine XS.icmpYes X41.here hx rfl (pc0 := 82) (pc' := 87) rfl (hb hby d11_82) rfl (teq hc82).1 (by decide) (by decide) ?_
              show Steps p.tables e below (T41.setTop (mkF m 87 #[.val (.long p0), .second, .val (.long p1), .second, .val (.int v4_6), .val (.int v5_14)] [])) _
              refine XS.iconst X41.here hx rfl (hb hby d11_87) ?_
              show Steps p.tables e below (T41.setTop (mkF m 88 #[.val (.long p0), .second, .val (.long p1), .second, .val (.int v4_6), .val (.int v5_14)] [(.int (1 : Int32))])) _
              exact retN X41 hx (t := .boolean) Bd.returns (by simp) (hb hby d11_88) hr
            · show Q_11 Z p0 p1 h0 n0 _ T41.heap _
              rw [e41]
              exact ⟨congrArg (fun z => some (Value.int z)) (by subst hv4_6 hv5_14; exact ((if_pos hc20).trans ((if_neg hc27).trans ((if_neg hc48).trans ((if_pos hc69).trans (if_pos hc82))))).symm : (1 : Int32) = f_11 p0 p1), N41, rfl⟩
          · obtain ⟨fs, hr, hrun, hended, hW, hsame⟩ := X41.leave (v := some (.int (0 : Int32))) (fun h => by rw [Bd.returns] at h; cases h) (BodyLoose.notSynchronized Bd)
            refine ⟨_, _, pre43 _ ?_, hrun, hended, _, _, rfl, ?_, ⟨_, rfl⟩, hW, hsame.mono (by decide) (by decide)⟩
            · show Steps p.tables e below (T41.setTop (mkF m 82 #[.val (.long p0), .second, .val (.long p1), .second, .val (.int v4_6), .val (.int v5_14)] [(.int (f_2 p1 (2 : Int32))), (.int (f_2 p0 (2 : Int32)))])) _
              refine XS.icmpNo X41.here hx rfl (hb hby d11_82) rfl (feq hc82).1 ?_
              show Steps p.tables e below (T41.setTop (mkF m 85 #[.val (.long p0), .second, .val (.long p1), .second, .val (.int v4_6), .val (.int v5_14)] [])) _
              refine XS.iconst X41.here hx rfl (hb hby d11_85) ?_
              show Steps p.tables e below (T41.setTop (mkF m 86 #[.val (.long p0), .second, .val (.long p1), .second, .val (.int v4_6), .val (.int v5_14)] [(.int (0 : Int32))])) _
              exact retN X41 hx (t := .boolean) Bd.returns (by simp) (hb hby d11_86) hr
            · show Q_11 Z p0 p1 h0 n0 _ T41.heap _
              rw [e41]
              exact ⟨congrArg (fun z => some (Value.int z)) (by subst hv4_6 hv5_14; exact ((if_pos hc20).trans ((if_neg hc27).trans ((if_neg hc48).trans ((if_pos hc69).trans (if_neg hc82))))).symm : (0 : Int32) = f_11 p0 p1), N41, rfl⟩
        · obtain ⟨fs, hr, hrun, hended, hW, hsame⟩ := X0.leave (v := some (.int (1 : Int32))) (fun h => by rw [Bd.returns] at h; cases h) (BodyLoose.notSynchronized Bd)
          refine ⟨_, _, pre38 _ ?_, hrun, hended, _, _, rfl, ?_, ⟨_, rfl⟩, hW, hsame.mono (by decide) (by decide)⟩
          · show Steps p.tables e below (s₁.setTop (mkF m 69 #[.val (.long p0), .second, .val (.long p1), .second, .val (.int v4_6), .val (.int v5_14)] [(.int (2 : Int32)), (.int v4_6)])) _
            refine XS.icmpYes X0.here hx rfl (pc0 := 69) (pc' := 87) rfl (hb hby d11_69) rfl (flt hc69).2.2.2 (by decide) (by decide) ?_
            show Steps p.tables e below (s₁.setTop (mkF m 87 #[.val (.long p0), .second, .val (.long p1), .second, .val (.int v4_6), .val (.int v5_14)] [])) _
            refine XS.iconst X0.here hx rfl (hb hby d11_87) ?_
            show Steps p.tables e below (s₁.setTop (mkF m 88 #[.val (.long p0), .second, .val (.long p1), .second, .val (.int v4_6), .val (.int v5_14)] [(.int (1 : Int32))])) _
            exact retN X0 hx (t := .boolean) Bd.returns (by simp) (hb hby d11_88) hr
          · show Q_11 Z p0 p1 h0 n0 _ s₁.heap _
            rw [e0]
            exact ⟨congrArg (fun z => some (Value.int z)) (by subst hv4_6 hv5_14; exact ((if_pos hc20).trans ((if_neg hc27).trans ((if_neg hc48).trans (if_neg hc69)))).symm : (1 : Int32) = f_11 p0 p1), N0, rfl⟩
  · obtain ⟨fs, hr, hrun, hended, hW, hsame⟩ := X0.leave (v := some (.int (0 : Int32))) (fun h => by rw [Bd.returns] at h; cases h) (BodyLoose.notSynchronized Bd)
    refine ⟨_, _, pre1 _ ?_, hrun, hended, _, _, rfl, ?_, ⟨_, rfl⟩, hW, hsame.mono (by decide) (by decide)⟩
    · show Steps p.tables e below (s₁.setTop (mkF m 20 #[.val (.long p0), .second, .val (.long p1), .second, .val (.int v4_6), .val (.int v5_14)] [(.int v5_14), (.int v4_6)])) _
      refine XS.icmpNo X0.here hx rfl (hb hby d11_20) rfl (feq hc20).1 ?_
      show Steps p.tables e below (s₁.setTop (mkF m 23 #[.val (.long p0), .second, .val (.long p1), .second, .val (.int v4_6), .val (.int v5_14)] [])) _
      refine XS.iconst X0.here hx rfl (hb hby d11_23) ?_
      show Steps p.tables e below (s₁.setTop (mkF m 24 #[.val (.long p0), .second, .val (.long p1), .second, .val (.int v4_6), .val (.int v5_14)] [(.int (0 : Int32))])) _
      exact retN X0 hx (t := .boolean) Bd.returns (by simp) (hb hby d11_24) hr
    · show Q_11 Z p0 p1 h0 n0 _ s₁.heap _
      rw [e0]
      exact ⟨congrArg (fun z => some (Value.int z)) (by subst hv4_6 hv5_14; exact (if_neg hc20).symm : (0 : Int32) = f_11 p0 p1), N0, rfl⟩
theorem pd_8 : parseMethodDescriptor "(Ljava/lang/Object;Ljava/lang/String;)Ljava/lang/Object;" = some ⟨[(.object "java/lang/Object"), (.object "java/lang/String")], some (.object "java/lang/Object")⟩ := by decide +kernel
theorem d9_0 : decode prog_36_method_1_code 0 = .ok (.aload_n 0, 1) := by decide +kernel
theorem d9_1 : decode prog_36_method_1_code 1 = .ok (.invokespecial 1, 3) := by decide +kernel
theorem d9_4 : decode prog_36_method_1_code 4 = .ok (.aload_n 0, 1) := by decide +kernel
theorem d9_5 : decode prog_36_method_1_code 5 = .ok (.aload_n 1, 1) := by decide +kernel
theorem d9_6 : decode prog_36_method_1_code 6 = .ok (.ldc 7, 2) := by decide +kernel
theorem d9_8 : decode prog_36_method_1_code 8 = .ok (.invokestatic 9, 3) := by decide +kernel
theorem d9_11 : decode prog_36_method_1_code 11 = .ok (.checkcast 15, 3) := by decide +kernel
theorem d9_14 : decode prog_36_method_1_code 14 = .ok (.putfield 17, 3) := by decide +kernel
theorem d9_17 : decode prog_36_method_1_code 17 = .ok (.aload_n 0, 1) := by decide +kernel
theorem d9_18 : decode prog_36_method_1_code 18 = .ok (.iload_n 2, 1) := by decide +kernel
theorem d9_19 : decode prog_36_method_1_code 19 = .ok (.putfield 22, 3) := by decide +kernel
theorem d9_22 : decode prog_36_method_1_code 22 = .ok (.return_, 1) := by decide +kernel
theorem pn_9 : plainName "com/example/sequeue/sequeue/route/MessageQueue" = true := by first | (simp [plainName, overriddenIn]; done) | decide +kernel
theorem ef_9 (m : MethodId) (p0 : Addr) (p1 : Addr) (p2 : Int32) : entryFrame m #[(.ref p0), (.ref p1), (.int p2)] 3 = mkF m 0 #[.val (.ref p0), .val (.ref p1), .val (.int p2)] [] := by first | (simp [entryFrame, mkF, argsToLocals, Value.category]; done) | rfl
def Q_9 (Z : State) (p0 : Addr) (p1 : Addr) (p2 : Int32)  (h0 : Heap) (n0 : Nat) (v : Option Value) (h : Heap) (L : List Loc) : Prop := v = none ∧ Fr n0 L ∧ Keep h0 h [p0] ∧ Exa Z h p0 "com/example/sequeue/sequeue/route/MessageQueue" ∧ Fld Z h p0 "com/example/sequeue/sequeue/route/MessageQueue" "brokerName" "Ljava/lang/String;" (.ref p1) ∧ Fld Z h p0 "com/example/sequeue/sequeue/route/MessageQueue" "queueId" "I" (.int p2)
set_option maxRecDepth 65536 in
set_option maxHeartbeats 40000000 in
theorem rm_9 (l : Launch) (Z : State) (a0 : Array Value) (hw : ∀ d ∈ tables_1, d.before a0 Z = true) (ws : List Jvm.Cond) (p0 : Addr) (p1 : Addr) (p2 : Int32)  (h0 : Heap) (n0 : Nat) (Z0 : n0 ≤ h0.size) (E_p0 : Exa Z h0 p0 "com/example/sequeue/sequeue/route/MessageQueue") (F_p0_brokerName : Fld Z h0 p0 "com/example/sequeue/sequeue/route/MessageQueue" "brokerName" "Ljava/lang/String;" .null) (F_p0_queueId : Fld Z h0 p0 "com/example/sequeue/sequeue/route/MessageQueue" "queueId" "I" (.int (0 : Int32))) (ge_p0 : n0 ≤ p0) (E_p1 : Exa Z h0 p1 "java/lang/String") :
    MetFree l (⟨"com/example/sequeue/sequeue/route/MessageQueue", "<init>", "(Ljava/lang/String;I)V"⟩ : MethodName) (head1 (Jvm.Cond.code (⟨"com/example/sequeue/sequeue/route/MessageQueue", "<init>", "(Ljava/lang/String;I)V"⟩ : MethodName) prog_36_method_1_code 3 none :: ws) ({ frames := 1, cells := 2, slots := 44, locals := 14 } : Room)) (fun a U => a = #[(.ref p0), (.ref p1), (.int p2)] ∧ Z.Warmed39 U.vm ∧ U.heap = h0 ∧ own_H own_cs Z U.vm h0) (fun _ _ _ _ _ => True) (fun _ U o U' => ∃ v L, o = .returned v ∧ Q_9 Z p0 p1 p2 h0 n0 v U'.heap L ∧ own_H own_cs Z U'.vm U'.heap ∧ ReturnedEndW U o U' L ({ frames := 1, cells := 2, slots := 44, locals := 14 } : Room).cells ({ frames := 1, cells := 2, slots := 44, locals := 14 } : Room).slots) := by
  refine MetFree.of_bodySF (plainFor_of_name pn_9) hisR ?_
  intro p e s m args below meth c s₁ Bd hml0 hP hK
  obtain ⟨rfl, hZ, hh, hH⟩ := hP
  have hx := Bd.exec
  have hby := Bd.bytes
  have hml : c.maxLocals = 3 := hml0
  have hown : s.vm.findClass "com/example/sequeue/sequeue/route/MessageQueue" = some m.cls := findClass_of_methodNamed Bd.named
  have hnm := (name_of_methodNamed Bd.named Bd.method).1
  have wl := own_wl hw
  have wS := own_wS hw
  have hS0 : s.Since s.vm h0.size := (State.WarmedH.refl s).since _
  have hZ : Z.Warmed39 (s.setVm s.vm).vm := hZ
  have hown : (s.setVm s.vm).vm.findClass "com/example/sequeue/sequeue/route/MessageQueue" = some m.cls := hown
  have hH : own_H own_cs Z (s.setVm s.vm).vm h0 := hH
  have X0 : Stand p l e ({ frames := 1, cells := 2, slots := 44, locals := 14 } : Room) (s.setVm s.vm) m #[(.ref p0), (.ref p1), (.int p2)] below meth c s₁ [] 0 0 := Stand.of_body Bd
  have e0 : s₁.heap = h0 := by rw [← hh, Bd.state]; rfl
  have N0 := Fr.nil n0
  have K0 : Keep h0 h0 [p0] := Keep.refl h0 _
  have pre0 : ∀ t, Steps p.tables e below (s₁.setTop (mkF m 0 #[.val (.ref p0), .val (.ref p1), .val (.int p2)] [])) t → Steps p.tables e below (s₁.setTop (entryFrame m #[(.ref p0), (.ref p1), (.int p2)] 3)) t := fun t k => castTop (ef_9 m p0 p1 p2) k
  have pre1 : ∀ t, Steps p.tables e below (s₁.setTop (mkF m 1 #[.val (.ref p0), .val (.ref p1), .val (.int p2)] [(.ref p0)])) t → Steps p.tables e below (s₁.setTop (entryFrame m #[(.ref p0), (.ref p1), (.int p2)] 3)) t := by
    intro t k
    refine pre0 t ?_
    show Steps p.tables e below (s₁.setTop (mkF m 0 #[.val (.ref p0), .val (.ref p1), .val (.int p2)] [])) _
    refine XS.aloadN X0.here hx rfl (hb hby d9_0) rfl rfl ?_
    exact k
  obtain ⟨T2, X2, e2, st2⟩ := initO X0 hx hZ hown (hw _ (List.mem_of_getElem? (i := 45) rfl)) (hw _ (List.mem_of_getElem? (i := 21) rfl)) (hw _ (List.mem_of_getElem? (i := 22) rfl)) e0 (g := (mkF m 1 #[.val (.ref p0), .val (.ref p1), .val (.int p2)] [(.ref p0)])) rfl (by rw [hml]; rfl) rfl (hb hby d9_1) (by decide) (W := 0) (by show 2 * 0 + _ ≤ _; exact Nat.le_of_eq rfl) (by decide)
  have pre3 : ∀ t, Steps p.tables e below (T2.setTop (mkF m 6 #[.val (.ref p0), .val (.ref p1), .val (.int p2)] [(.ref p1), (.ref p0)])) t → Steps p.tables e below (s₁.setTop (entryFrame m #[(.ref p0), (.ref p1), (.int p2)] 3)) t := by
    intro t k
    refine pre1 t ?_
    show Steps p.tables e below (s₁.setTop (mkF m 1 #[.val (.ref p0), .val (.ref p1), .val (.int p2)] [(.ref p0)])) _
    refine st2 _ ?_
    show Steps p.tables e below (T2.setTop (mkF m 4 #[.val (.ref p0), .val (.ref p1), .val (.int p2)] [])) _
    refine XS.aloadN X2.here hx rfl (hb hby d9_4) rfl rfl ?_
    show Steps p.tables e below (T2.setTop (mkF m 5 #[.val (.ref p0), .val (.ref p1), .val (.int p2)] [(.ref p0)])) _
    refine XS.aloadN X2.here hx rfl (hb hby d9_5) rfl rfl ?_
    exact k
  obtain ⟨a4, b4, T4, h4, X4, e4, E4, hS4, -, -, Ea4, Fc4, Fv4, Ab4, hH4, L4, st4⟩ := own_ld X2 hx hZ hown (List.mem_of_getElem? (i := 0) rfl) wl own_cs_0 wS e2 hh (Keep.refl h0 []) hH (by decide) (g := (mkF m 6 #[.val (.ref p0), .val (.ref p1), .val (.int p2)] [(.ref p1), (.ref p0)])) rfl (hb hby d9_6) (n := 40) (by decide) (by decide) (by decide) (by decide)
  have exa_p0_4 := E_p0.ext E4
  have fld_p0_brokerName_4 := F_p0_brokerName.ext E4
  have fld_p0_queueId_4 := F_p0_queueId.ext E4
  have exa_p1_4 := E_p1.ext E4
  have K4 := K0.ext E4
  have Z4 := Nat.le_trans Z0 E4.1
  obtain ⟨X4, hS4, hZ, hown⟩ := rebS (own := "com/example/sequeue/sequeue/route/MessageQueue") hS0 (Nat.le_trans (Keep.refl h0 []).1 (Nat.le_of_eq (congrArg Array.size (e2 : T2.heap = h0).symm))) X4 hS4 (Nat.le_trans (Nat.le_of_eq (congrArg Array.size (e2 : T2.heap = h0))) E4.1) hZ hown
  have pre6 : ∀ t, Steps p.tables e below (T4.setTop (mkF m 8 #[.val (.ref p0), .val (.ref p1), .val (.int p2)] [(.ref a4), (.ref p1), (.ref p0)])) t → Steps p.tables e below (s₁.setTop (entryFrame m #[(.ref p0), (.ref p1), (.int p2)] 3)) t := by
    intro t k
    refine pre3 t ?_
    show Steps p.tables e below (T2.setTop (mkF m 6 #[.val (.ref p0), .val (.ref p1), .val (.int p2)] [(.ref p1), (.ref p0)])) _
    refine st4 _ ?_
    exact k
  obtain ⟨_, _, ⟨T5, L5, k5, n5⟩, -, X5, ⟨Lc5, hQ5, l5, y5, z5⟩, st5⟩ := Jvm.LawKit.callS X4 hx (y := (⟨"java/util/Objects", "requireNonNull", "(Ljava/lang/Object;Ljava/lang/String;)Ljava/lang/Object;"⟩ : MethodName)) hown (mvT hZ (hw _ (List.mem_of_getElem? (i := 49) rfl))) (mvT hZ (hw _ (List.mem_of_getElem? (i := 50) rfl))) (mvT hZ (hw _ (List.mem_of_getElem? (i := 51) rfl))) (mvT hZ (hw _ (List.mem_of_getElem? (i := 52) rfl))) (by decide) (backOf (W := 1) (rm_10 l Z a0 hw [] p1 a4 h4 n0 Z4 ) hZ (hw _ (List.mem_of_getElem? (i := 52) rfl)) (hw _ (List.mem_of_getElem? (i := 51) rfl)) (by decide) (by decide)) (g := (mkF m 8 #[.val (.ref p0), .val (.ref p1), .val (.int p2)] [(.ref a4), (.ref p1), (.ref p0)])) rfl (by rw [hml]; rfl) (argsL := [(.ref p1), (.ref a4)]) (rest := [(.ref p0)]) (lenOf pd_8 rfl) rfl (by show 2 * 0 + _ ≤ _; exact Nat.le_of_eq rfl) (hb hby d9_8) (fun _ _ => ⟨rfl, e4, (by decide : 2 + 0 ≤ _), (by decide : 44 + 0 ≤ _)⟩)
  dsimp only [Pt.U, Pt.locs, Pt.cells, Pt.slots] at X5 l5 y5 z5 st5 hQ5
  rw [l5, y5, z5] at X5
  obtain ⟨rfl, N5q, e5⟩ := hQ5
  have N5 := Fr.app N0 N5q
  have pre7 : ∀ t, Steps p.tables e below (T5.setTop (mkF m 11 #[.val (.ref p0), .val (.ref p1), .val (.int p2)] [(.ref p1), (.ref p0)])) t → Steps p.tables e below (s₁.setTop (entryFrame m #[(.ref p0), (.ref p1), (.int p2)] 3)) t := by
    intro t k
    refine pre6 t ?_
    show Steps p.tables e below (T4.setTop (mkF m 8 #[.val (.ref p0), .val (.ref p1), .val (.int p2)] [(.ref a4), (.ref p1), (.ref p0)])) _
    refine st5 _ ?_
    exact k
  obtain ⟨T8, X8, e8, st8⟩ := castY X5 hx hZ hown (hw _ (List.mem_of_getElem? (i := 53) rfl)) e5 (Ins.self exa_p1_4) (g := (mkF m 11 #[.val (.ref p0), .val (.ref p1), .val (.int p2)] [(.ref p1), (.ref p0)])) rfl rfl (hb hby d9_11)
  have pre9 : ∀ t, Steps p.tables e below (T8.setTop (mkF m 14 #[.val (.ref p0), .val (.ref p1), .val (.int p2)] [(.ref p1), (.ref p0)])) t → Steps p.tables e below (s₁.setTop (entryFrame m #[(.ref p0), (.ref p1), (.int p2)] 3)) t := by
    intro t k
    refine pre7 t ?_
    show Steps p.tables e below (T5.setTop (mkF m 11 #[.val (.ref p0), .val (.ref p1), .val (.int p2)] [(.ref p1), (.ref p0)])) _
    refine st8 _ ?_
    exact k
  obtain ⟨T10, h10, X10, e10, W10, st10⟩ := putF X8 hx hZ hown (host := "") (Or.inl (hw _ (List.mem_of_getElem? (i := 54) rfl))) Via.refl e8 fld_p0_brokerName_4 exa_p0_4 (Or.inr ⟨(hw _ (List.mem_of_getElem? (i := 55) rfl)), rfl, hnm⟩) (hw _ (List.mem_of_getElem? (i := 40) rfl)) (ty := (.object "java/lang/String")) (by decide) rfl rfl (g := (mkF m 14 #[.val (.ref p0), .val (.ref p1), .val (.int p2)] [(.ref p1), (.ref p0)])) rfl rfl (hb hby d9_14)
  have Fw10 := fld_p0_brokerName_4.same W10
  have exa_p0_10 := exa_p0_4.wr W10
  have fld_p0_queueId_10 := fld_p0_queueId_4.other W10 (Or.inr (slot_ne (Or.inr (hw _ (List.mem_of_getElem? (i := 57) rfl))) (Or.inr (hw _ (List.mem_of_getElem? (i := 55) rfl))) (by decide) (t := .int) (t' := (.object "java/lang/String")) (by decide) (by decide)))
  have exa_p1_10 := exa_p1_4.wr W10
  have K10 := K4.wr W10 (Or.inl (List.mem_of_getElem? (i := 0) rfl))
  have Z10 := Nat.le_trans Z4 (Nat.le_of_eq W10.size.symm)
  have N10 := Fr.snoc X10 N5 ge_p0
  have KI10 : Keep h4 h4 [p0] := own_keep_mono (Keep.refl h4 []) (fun _ q => List.mem_cons_of_mem _ q)
  have KH10 := KI10.wr W10 (Or.inl (List.mem_of_getElem? (i := 0) rfl))
  have pre11 : ∀ t, Steps p.tables e below (T10.setTop (mkF m 19 #[.val (.ref p0), .val (.ref p1), .val (.int p2)] [(.int p2), (.ref p0)])) t → Steps p.tables e below (s₁.setTop (entryFrame m #[(.ref p0), (.ref p1), (.int p2)] 3)) t := by
    intro t k
    refine pre9 t ?_
    show Steps p.tables e below (T8.setTop (mkF m 14 #[.val (.ref p0), .val (.ref p1), .val (.int p2)] [(.ref p1), (.ref p0)])) _
    refine st10 _ ?_
    show Steps p.tables e below (T10.setTop (mkF m 17 #[.val (.ref p0), .val (.ref p1), .val (.int p2)] [])) _
    refine XS.aloadN X10.here hx rfl (hb hby d9_17) rfl rfl ?_
    show Steps p.tables e below (T10.setTop (mkF m 18 #[.val (.ref p0), .val (.ref p1), .val (.int p2)] [(.ref p0)])) _
    refine XS.iloadN X10.here hx rfl (hb hby d9_18) rfl  ?_
    exact k
  obtain ⟨T12, h12, X12, e12, W12, st12⟩ := putF X10 hx hZ hown (host := "") (Or.inl (hw _ (List.mem_of_getElem? (i := 56) rfl))) Via.refl e10 fld_p0_queueId_10 exa_p0_10 (Or.inr ⟨(hw _ (List.mem_of_getElem? (i := 57) rfl)), rfl, hnm⟩) (hw _ (List.mem_of_getElem? (i := 40) rfl)) (ty := .int) (by decide) rfl rfl (g := (mkF m 19 #[.val (.ref p0), .val (.ref p1), .val (.int p2)] [(.int p2), (.ref p0)])) rfl rfl (hb hby d9_19)
  have Fw12 := fld_p0_queueId_10.same W12
  have exa_p0_12 := exa_p0_10.wr W12
  have fld_p0_brokerName_12 := Fw10.other W12 (Or.inr (slot_ne (Or.inr (hw _ (List.mem_of_getElem? (i := 55) rfl))) (Or.inr (hw _ (List.mem_of_getElem? (i := 57) rfl))) (by decide) (t := (.object "java/lang/String")) (t' := .int) (by decide) (by decide)))
  have exa_p1_12 := exa_p1_10.wr W12
  have K12 := K10.wr W12 (Or.inl (List.mem_of_getElem? (i := 0) rfl))
  have Z12 := Nat.le_trans Z10 (Nat.le_of_eq W12.size.symm)
  have N12 := Fr.snoc X12 N10 ge_p0
  have KH12 := KH10.wr W12 (Or.inl (List.mem_of_getElem? (i := 0) rfl))
  obtain ⟨fs, hr, hrun, hended, hW1, hW2, hW3, hsame⟩ := X12.leaveW hS4 (Nat.le_trans KH12.1 (Nat.le_of_eq (congrArg Array.size (e12 : T12.heap = h12).symm))) (v := none) (fun _ => rfl) (BodyLoose.notSynchronized Bd)
  refine ⟨_, _, pre11 _ ?_, hrun, hended, _, _, rfl, ?_, ?_, hW1, hW2, hW3, hsame.mono (by decide) (by decide)⟩
  · show Steps p.tables e below (T10.setTop (mkF m 19 #[.val (.ref p0), .val (.ref p1), .val (.int p2)] [(.int p2), (.ref p0)])) _
    refine st12 _ ?_
    show Steps p.tables e below (T12.setTop (mkF m 22 #[.val (.ref p0), .val (.ref p1), .val (.int p2)] [])) _
    exact X12.returnOut hx Bd.returns (hb hby d9_22) hr
  · show Q_9 Z p0 p1 p2 h0 n0 _ T12.heap _
    rw [e12]
    exact ⟨rfl, N12, K12, exa_p0_12, fld_p0_brokerName_12, Fw12⟩
  · show own_H own_cs Z T12.vm T12.heap
    rw [e12]
    exact (hH4.go (B := (s.setVm T4.vm)) hZ wl X12.warmed KH12 (allS (own_apart_cls hZ.alike exa_p0_4 (by decide) (hw _ (List.mem_of_getElem? (i := 40) rfl))) all0))
theorem pd_9 : parseMethodDescriptor "(J)Ljava/lang/String;" = some ⟨[.long], some (.object "java/lang/String")⟩ := by decide +kernel
theorem pd_10 : parseMethodDescriptor "(Ljava/lang/String;I)V" = some ⟨[(.object "java/lang/String"), .int], none⟩ := by decide +kernel
theorem pd_11 : parseMethodDescriptor "(JJ)Z" = some ⟨[.long, .long], some .boolean⟩ := by decide +kernel
theorem pn_0 : plainName "com/example/sequeue/sequeue/route/MessageQueueEqualsPinLaw" = true := by first | (simp [plainName, overriddenIn]; done) | decide +kernel
theorem ef_0 (m : MethodId) (p0 : Int64) (p1 : Int64) (p2 : Int32) (p3 : Int32) (p4 : Int32) : entryFrame m #[(.long p0), (.long p1), (.int p2), (.int p3), (.int p4)] maxLocals = mkF m 0 #[.val (.long p0), .second, .val (.long p1), .second, .val (.int p2), .val (.int p3), .val (.int p4), .unset, .unset, .unset, .unset, .unset, .unset, .unset, .unset, .unset] [] := by first | (simp [entryFrame, mkF, argsToLocals, Value.category, maxLocals]; done) | rfl
def f_0 (p0 : Int64) (p1 : Int64) (p2 : Int32) (p3 : Int32) (p4 : Int32) (cs_ : Int32) : Int32 := let ms0_12 : Int64 := (if (p4 &&& (1 : Int32)) = (0 : Int32) then p1 else p0); let ms0_28 : Int32 := (if (p4 &&& (2 : Int32)) = (0 : Int32) then p3 else p2); let v10_36 : Int32 := (((p4.toUInt32 >>> ((2 : Int32) &&& 31).toUInt32).toInt32) &&& (3 : Int32)); (if v10_36 = (0 : Int32) then let ms0_103 : Int32 := (if (f_11 p0 ms0_12) = (0 : Int32) then (0 : Int32) else (if p2 = ms0_28 then (1 : Int32) else (0 : Int32))); (if (own_n p0) = (own_n ms0_12) then (if (own_n p0) = 0 then (if (f_12e0 p2 ms0_28 cs_ (own_g p0) (own_g ms0_12)) = ms0_103 then let ms0_134 : Int32 := (if (f_12e0 ms0_28 p2 cs_ (own_g ms0_12) (own_g p0)) = ms0_103 then (1 : Int32) else (0 : Int32)); ms0_134 else (0 : Int32)) else (if (own_n p0) = 1 then (if (f_12e1 p2 ms0_28 cs_ (own_g p0) (own_g ms0_12)) = ms0_103 then let ms0_134 : Int32 := (if (f_12e1 ms0_28 p2 cs_ (own_g ms0_12) (own_g p0)) = ms0_103 then (1 : Int32) else (0 : Int32)); ms0_134 else (0 : Int32)) else (if (own_n p0) = 2 then (if (f_12e2 p2 ms0_28 cs_ (own_g p0) (own_g ms0_12)) = ms0_103 then let ms0_134 : Int32 := (if (f_12e2 ms0_28 p2 cs_ (own_g ms0_12) (own_g p0)) = ms0_103 then (1 : Int32) else (0 : Int32)); ms0_134 else (0 : Int32)) else (if (f_12e3 p2 ms0_28 cs_ (own_g p0) (own_g ms0_12)) = ms0_103 then let ms0_134 : Int32 := (if (f_12e3 ms0_28 p2 cs_ (own_g ms0_12) (own_g p0)) = ms0_103 then (1 : Int32) else (0 : Int32)); ms0_134 else (0 : Int32))))) else (if (f_12ed p2 ms0_28 cs_ (own_n p0) (own_g p0) (own_n ms0_12) (own_g ms0_12)) = ms0_103 then let ms0_134 : Int32 := (if (f_12ed ms0_28 p2 cs_ (own_n ms0_12) (own_g ms0_12) (own_n p0) (own_g p0)) = ms0_103 then (1 : Int32) else (0 : Int32)); ms0_134 else (0 : Int32))) else (if v10_36 = (1 : Int32) then let ms0_155 : Int32 := (if f_12n = (0 : Int32) then (1 : Int32) else (0 : Int32)); ms0_155 else (if v10_36 = (2 : Int32) then let ms0_181 : Int32 := (if f_12l = (0 : Int32) then (1 : Int32) else (0 : Int32)); ms0_181 else (nar .boolean (f_12s p2)))))
def Q_0 (Z : State) (p0 : Int64) (p1 : Int64) (p2 : Int32) (p3 : Int32) (p4 : Int32) (cs_ : Int32) (h0 : Heap) (n0 : Nat) (v : Option Value) (h : Heap) (L : List Loc) : Prop := v = some (.int (f_0 p0 p1 p2 p3 p4 cs_)) ∧ Fr n0 L ∧ True
set_option maxRecDepth 65536 in
set_option maxHeartbeats 40000000 in
theorem rm_0 (l : Launch) (Z : State) (a0 : Array Value) (hw : ∀ d ∈ tables_1, d.before a0 Z = true) (ws : List Jvm.Cond) (p0 : Int64) (p1 : Int64) (p2 : Int32) (p3 : Int32) (p4 : Int32) (cs_ : Int32) (h0 : Heap) (n0 : Nat) (Z0 : n0 ≤ h0.size) (S_COMPACT_STRINGS : Sta Z h0 "java/lang/String" "COMPACT_STRINGS" "Z" (.int cs_)) (hcs : ¬ (cs_ = (0 : Int32))) :
    MetFree l x (head1 (Jvm.Cond.code x code maxLocals ret :: ws) room_1) (fun a U => a = #[(.long p0), (.long p1), (.int p2), (.int p3), (.int p4)] ∧ Z.Warmed39 U.vm ∧ U.heap = h0 ∧ own_H own_cs Z U.vm h0) (fun _ _ _ _ _ => True) (fun _ U o U' => ∃ v L, o = .returned v ∧ Q_0 Z p0 p1 p2 p3 p4 cs_ h0 n0 v U'.heap L ∧ own_H own_cs Z U'.vm U'.heap ∧ ReturnedEndW U o U' L 18 132) := by
  refine MetFree.of_bodySF (plainFor_of_name pn_0) hisR ?_
  intro p e s m args below meth c s₁ Bd hml0 hP hK
  obtain ⟨rfl, hZ, hh, hH⟩ := hP
  have hx := Bd.exec
  have hby := Bd.bytes
  have hml : c.maxLocals = 16 := hml0
  have hown : s.vm.findClass "com/example/sequeue/sequeue/route/MessageQueueEqualsPinLaw" = some m.cls := findClass_of_methodNamed Bd.named
  have hnm := (name_of_methodNamed Bd.named Bd.method).1
  have wl := own_wl hw
  have wS := own_wS hw
  have hS0 : s.Since s.vm h0.size := (State.WarmedH.refl s).since _
  have hZ : Z.Warmed39 (s.setVm s.vm).vm := hZ
  have hown : (s.setVm s.vm).vm.findClass "com/example/sequeue/sequeue/route/MessageQueueEqualsPinLaw" = some m.cls := hown
  have hH : own_H own_cs Z (s.setVm s.vm).vm h0 := hH
  have X0 : Stand p l e room_1 (s.setVm s.vm) m #[(.long p0), (.long p1), (.int p2), (.int p3), (.int p4)] below meth c s₁ [] 0 0 := Stand.of_body Bd
  have e0 : s₁.heap = h0 := by rw [← hh, Bd.state]; rfl
  have N0 := Fr.nil n0
  have K0 : Keep h0 h0 [] := Keep.refl h0 _
  have pre0 : ∀ t, Steps p.tables e below (s₁.setTop (mkF m 0 #[.val (.long p0), .second, .val (.long p1), .second, .val (.int p2), .val (.int p3), .val (.int p4), .unset, .unset, .unset, .unset, .unset, .unset, .unset, .unset, .unset] [])) t → Steps p.tables e below (s₁.setTop (entryFrame m #[(.long p0), (.long p1), (.int p2), (.int p3), (.int p4)] maxLocals)) t := fun t k => castTop (ef_0 m p0 p1 p2 p3 p4) k
  have pre1 : ∀ t, Steps p.tables e below (s₁.setTop (mkF m 4 #[.val (.long p0), .second, .val (.long p1), .second, .val (.int p2), .val (.int p3), .val (.int p4), .unset, .unset, .unset, .unset, .unset, .unset, .unset, .unset, .unset] [(.int (p4 &&& (1 : Int32)))])) t → Steps p.tables e below (s₁.setTop (entryFrame m #[(.long p0), (.long p1), (.int p2), (.int p3), (.int p4)] maxLocals)) t := by
    intro t k
    refine pre0 t ?_
    show Steps p.tables e below (s₁.setTop (mkF m 0 #[.val (.long p0), .second, .val (.long p1), .second, .val (.int p2), .val (.int p3), .val (.int p4), .unset, .unset, .unset, .unset, .unset, .unset, .unset, .unset, .unset] [])) _
    refine XS.iload X0.here hx rfl (hb hby at_0) rfl  ?_
    show Steps p.tables e below (s₁.setTop (mkF m 2 #[.val (.long p0), .second, .val (.long p1), .second, .val (.int p2), .val (.int p3), .val (.int p4), .unset, .unset, .unset, .unset, .unset, .unset, .unset, .unset, .unset] [(.int p4)])) _
    refine XS.iconst X0.here hx rfl (hb hby at_2) ?_
    show Steps p.tables e below (s₁.setTop (mkF m 3 #[.val (.long p0), .second, .val (.long p1), .second, .val (.int p2), .val (.int p3), .val (.int p4), .unset, .unset, .unset, .unset, .unset, .unset, .unset, .unset, .unset] [(.int (1 : Int32)), (.int p4)])) _
    refine XS.iand X0.here hx rfl (hb hby at_3) rfl ?_
    exact k
  obtain ⟨ms0_12, hms0_12⟩ : ∃ z : Int64, z = (if (p4 &&& (1 : Int32)) = (0 : Int32) then p1 else p0) := ⟨_, rfl⟩
  have pre2 : ∀ t, Steps p.tables e below (s₁.setTop (mkF m 12 #[.val (.long p0), .second, .val (.long p1), .second, .val (.int p2), .val (.int p3), .val (.int p4), .unset, .unset, .unset, .unset, .unset, .unset, .unset, .unset, .unset] [(.long ms0_12)])) t → Steps p.tables e below (s₁.setTop (entryFrame m #[(.long p0), (.long p1), (.int p2), (.int p3), (.int p4)] maxLocals)) t := by
    intro t k
    refine pre1 t ?_
    by_cases hc4 : (p4 &&& (1 : Int32)) = (0 : Int32)
    · show Steps p.tables e below (s₁.setTop (mkF m 4 #[.val (.long p0), .second, .val (.long p1), .second, .val (.int p2), .val (.int p3), .val (.int p4), .unset, .unset, .unset, .unset, .unset, .unset, .unset, .unset, .unset] [(.int (p4 &&& (1 : Int32)))])) _
      refine XS.ifYes X0.here hx rfl (pc0 := 4) (pc' := 11) rfl (hb hby at_4) rfl ((if0 _ _).trans (teq hc4).1) (by decide) (by decide) ?_
      show Steps p.tables e below (s₁.setTop (mkF m 11 #[.val (.long p0), .second, .val (.long p1), .second, .val (.int p2), .val (.int p3), .val (.int p4), .unset, .unset, .unset, .unset, .unset, .unset, .unset, .unset, .unset] [])) _
      refine XS.lloadN X0.here hx rfl (hb hby at_11) rfl  ?_
      have qms0_12 : ms0_12 = p1 := by rw [hms0_12, if_pos hc4]
      rw [qms0_12] at k
      exact k
    · show Steps p.tables e below (s₁.setTop (mkF m 4 #[.val (.long p0), .second, .val (.long p1), .second, .val (.int p2), .val (.int p3), .val (.int p4), .unset, .unset, .unset, .unset, .unset, .unset, .unset, .unset, .unset] [(.int (p4 &&& (1 : Int32)))])) _
      refine XS.ifNo X0.here hx rfl (hb hby at_4) rfl ((if0 _ _).trans (feq hc4).1) ?_
      show Steps p.tables e below (s₁.setTop (mkF m 7 #[.val (.long p0), .second, .val (.long p1), .second, .val (.int p2), .val (.int p3), .val (.int p4), .unset, .unset, .unset, .unset, .unset, .unset, .unset, .unset, .unset] [])) _
      refine XS.lloadN X0.here hx rfl (hb hby at_7) rfl  ?_
      show Steps p.tables e below (s₁.setTop (mkF m 8 #[.val (.long p0), .second, .val (.long p1), .second, .val (.int p2), .val (.int p3), .val (.int p4), .unset, .unset, .unset, .unset, .unset, .unset, .unset, .unset, .unset] [(.long p0)])) _
      refine XS.goto X0.here hx rfl (pc0 := 8) (pc' := 12) rfl (hb hby at_8) (by decide) (by decide) ?_
      have qms0_12 : ms0_12 = p0 := by rw [hms0_12, if_neg hc4]
      rw [qms0_12] at k
      exact k
  have pre3 : ∀ t, Steps p.tables e below (s₁.setTop (mkF m 18 #[.val (.long p0), .second, .val (.long p1), .second, .val (.int p2), .val (.int p3), .val (.int p4), .val (.long ms0_12), .second, .unset, .unset, .unset, .unset, .unset, .unset, .unset] [(.int (p4 &&& (2 : Int32)))])) t → Steps p.tables e below (s₁.setTop (entryFrame m #[(.long p0), (.long p1), (.int p2), (.int p3), (.int p4)] maxLocals)) t := by
    intro t k
    refine pre2 t ?_
    show Steps p.tables e below (s₁.setTop (mkF m 12 #[.val (.long p0), .second, .val (.long p1), .second, .val (.int p2), .val (.int p3), .val (.int p4), .unset, .unset, .unset, .unset, .unset, .unset, .unset, .unset, .unset] [(.long ms0_12)])) _
    refine XS.lstore X0.here hx rfl (hb hby at_12) rfl (l' := #[.val (.long p0), .second, .val (.long p1), .second, .val (.int p2), .val (.int p3), .val (.int p4), .val (.long ms0_12), .second, .unset, .unset, .unset, .unset, .unset, .unset, .unset]) rfl ?_
    show Steps p.tables e below (s₁.setTop (mkF m 14 #[.val (.long p0), .second, .val (.long p1), .second, .val (.int p2), .val (.int p3), .val (.int p4), .val (.long ms0_12), .second, .unset, .unset, .unset, .unset, .unset, .unset, .unset] [])) _
    refine XS.iload X0.here hx rfl (hb hby at_14) rfl  ?_
    show Steps p.tables e below (s₁.setTop (mkF m 16 #[.val (.long p0), .second, .val (.long p1), .second, .val (.int p2), .val (.int p3), .val (.int p4), .val (.long ms0_12), .second, .unset, .unset, .unset, .unset, .unset, .unset, .unset] [(.int p4)])) _
    refine XS.iconst X0.here hx rfl (hb hby at_16) ?_
    show Steps p.tables e below (s₁.setTop (mkF m 17 #[.val (.long p0), .second, .val (.long p1), .second, .val (.int p2), .val (.int p3), .val (.int p4), .val (.long ms0_12), .second, .unset, .unset, .unset, .unset, .unset, .unset, .unset] [(.int (2 : Int32)), (.int p4)])) _
    refine XS.iand X0.here hx rfl (hb hby at_17) rfl ?_
    exact k
  obtain ⟨ms0_28, hms0_28⟩ : ∃ z : Int32, z = (if (p4 &&& (2 : Int32)) = (0 : Int32) then p3 else p2) := ⟨_, rfl⟩
  have pre4 : ∀ t, Steps p.tables e below (s₁.setTop (mkF m 28 #[.val (.long p0), .second, .val (.long p1), .second, .val (.int p2), .val (.int p3), .val (.int p4), .val (.long ms0_12), .second, .unset, .unset, .unset, .unset, .unset, .unset, .unset] [(.int ms0_28)])) t → Steps p.tables e below (s₁.setTop (entryFrame m #[(.long p0), (.long p1), (.int p2), (.int p3), (.int p4)] maxLocals)) t := by
    intro t k
    refine pre3 t ?_
    by_cases hc18 : (p4 &&& (2 : Int32)) = (0 : Int32)
    · show Steps p.tables e below (s₁.setTop (mkF m 18 #[.val (.long p0), .second, .val (.long p1), .second, .val (.int p2), .val (.int p3), .val (.int p4), .val (.long ms0_12), .second, .unset, .unset, .unset, .unset, .unset, .unset, .unset] [(.int (p4 &&& (2 : Int32)))])) _
      refine XS.ifYes X0.here hx rfl (pc0 := 18) (pc' := 26) rfl (hb hby at_18) rfl ((if0 _ _).trans (teq hc18).1) (by decide) (by decide) ?_
      show Steps p.tables e below (s₁.setTop (mkF m 26 #[.val (.long p0), .second, .val (.long p1), .second, .val (.int p2), .val (.int p3), .val (.int p4), .val (.long ms0_12), .second, .unset, .unset, .unset, .unset, .unset, .unset, .unset] [])) _
      refine XS.iload X0.here hx rfl (hb hby at_26) rfl  ?_
      have qms0_28 : ms0_28 = p3 := by rw [hms0_28, if_pos hc18]
      rw [qms0_28] at k
      exact k
    · show Steps p.tables e below (s₁.setTop (mkF m 18 #[.val (.long p0), .second, .val (.long p1), .second, .val (.int p2), .val (.int p3), .val (.int p4), .val (.long ms0_12), .second, .unset, .unset, .unset, .unset, .unset, .unset, .unset] [(.int (p4 &&& (2 : Int32)))])) _
      refine XS.ifNo X0.here hx rfl (hb hby at_18) rfl ((if0 _ _).trans (feq hc18).1) ?_
      show Steps p.tables e below (s₁.setTop (mkF m 21 #[.val (.long p0), .second, .val (.long p1), .second, .val (.int p2), .val (.int p3), .val (.int p4), .val (.long ms0_12), .second, .unset, .unset, .unset, .unset, .unset, .unset, .unset] [])) _
      refine XS.iload X0.here hx rfl (hb hby at_21) rfl  ?_
      show Steps p.tables e below (s₁.setTop (mkF m 23 #[.val (.long p0), .second, .val (.long p1), .second, .val (.int p2), .val (.int p3), .val (.int p4), .val (.long ms0_12), .second, .unset, .unset, .unset, .unset, .unset, .unset, .unset] [(.int p2)])) _
      refine XS.goto X0.here hx rfl (pc0 := 23) (pc' := 28) rfl (hb hby at_23) (by decide) (by decide) ?_
      have qms0_28 : ms0_28 = p2 := by rw [hms0_28, if_neg hc18]
      rw [qms0_28] at k
      exact k
  obtain ⟨v10_36, hv10_36⟩ : ∃ z : Int32, z = (((p4.toUInt32 >>> ((2 : Int32) &&& 31).toUInt32).toInt32) &&& (3 : Int32)) := ⟨_, rfl⟩
  have pre6 : ∀ t, Steps p.tables e below (s₁.setTop (mkF m 39 #[.val (.long p0), .second, .val (.long p1), .second, .val (.int p2), .val (.int p3), .val (.int p4), .val (.long ms0_12), .second, .val (.int ms0_28), .val (.int v10_36), .unset, .unset, .unset, .unset, .unset] [(.long p0)])) t → Steps p.tables e below (s₁.setTop (entryFrame m #[(.long p0), (.long p1), (.int p2), (.int p3), (.int p4)] maxLocals)) t := by
    intro t k
    refine pre4 t ?_
    show Steps p.tables e below (s₁.setTop (mkF m 28 #[.val (.long p0), .second, .val (.long p1), .second, .val (.int p2), .val (.int p3), .val (.int p4), .val (.long ms0_12), .second, .unset, .unset, .unset, .unset, .unset, .unset, .unset] [(.int ms0_28)])) _
    refine XS.istore X0.here hx rfl (hb hby at_28) rfl (l' := #[.val (.long p0), .second, .val (.long p1), .second, .val (.int p2), .val (.int p3), .val (.int p4), .val (.long ms0_12), .second, .val (.int ms0_28), .unset, .unset, .unset, .unset, .unset, .unset]) rfl ?_
    show Steps p.tables e below (s₁.setTop (mkF m 30 #[.val (.long p0), .second, .val (.long p1), .second, .val (.int p2), .val (.int p3), .val (.int p4), .val (.long ms0_12), .second, .val (.int ms0_28), .unset, .unset, .unset, .unset, .unset, .unset] [])) _
    refine XS.iload X0.here hx rfl (hb hby at_30) rfl  ?_
    show Steps p.tables e below (s₁.setTop (mkF m 32 #[.val (.long p0), .second, .val (.long p1), .second, .val (.int p2), .val (.int p3), .val (.int p4), .val (.long ms0_12), .second, .val (.int ms0_28), .unset, .unset, .unset, .unset, .unset, .unset] [(.int p4)])) _
    refine XS.iconst X0.here hx rfl (hb hby at_32) ?_
    show Steps p.tables e below (s₁.setTop (mkF m 33 #[.val (.long p0), .second, .val (.long p1), .second, .val (.int p2), .val (.int p3), .val (.int p4), .val (.long ms0_12), .second, .val (.int ms0_28), .unset, .unset, .unset, .unset, .unset, .unset] [(.int (2 : Int32)), (.int p4)])) _
    refine XS.iushr X0.here hx rfl (hb hby at_33) rfl ?_
    show Steps p.tables e below (s₁.setTop (mkF m 34 #[.val (.long p0), .second, .val (.long p1), .second, .val (.int p2), .val (.int p3), .val (.int p4), .val (.long ms0_12), .second, .val (.int ms0_28), .unset, .unset, .unset, .unset, .unset, .unset] [(.int ((p4.toUInt32 >>> ((2 : Int32) &&& 31).toUInt32).toInt32))])) _
    refine XS.iconst X0.here hx rfl (hb hby at_34) ?_
    show Steps p.tables e below (s₁.setTop (mkF m 35 #[.val (.long p0), .second, .val (.long p1), .second, .val (.int p2), .val (.int p3), .val (.int p4), .val (.long ms0_12), .second, .val (.int ms0_28), .unset, .unset, .unset, .unset, .unset, .unset] [(.int (3 : Int32)), (.int ((p4.toUInt32 >>> ((2 : Int32) &&& 31).toUInt32).toInt32))])) _
    refine XS.iand X0.here hx rfl (hb hby at_35) rfl ?_
    show Steps p.tables e below (s₁.setTop (mkF m 36 #[.val (.long p0), .second, .val (.long p1), .second, .val (.int p2), .val (.int p3), .val (.int p4), .val (.long ms0_12), .second, .val (.int ms0_28), .unset, .unset, .unset, .unset, .unset, .unset] [(.int (((p4.toUInt32 >>> ((2 : Int32) &&& 31).toUInt32).toInt32) &&& (3 : Int32)))])) _
    refine XS.istore X0.here hx rfl (hb hby at_36) rfl (l' := #[.val (.long p0), .second, .val (.long p1), .second, .val (.int p2), .val (.int p3), .val (.int p4), .val (.long ms0_12), .second, .val (.int ms0_28), .val (.int v10_36), .unset, .unset, .unset, .unset, .unset]) (by rw [hv10_36]; rfl) ?_
    show Steps p.tables e below (s₁.setTop (mkF m 38 #[.val (.long p0), .second, .val (.long p1), .second, .val (.int p2), .val (.int p3), .val (.int p4), .val (.long ms0_12), .second, .val (.int ms0_28), .val (.int v10_36), .unset, .unset, .unset, .unset, .unset] [])) _
    refine XS.lloadN X0.here hx rfl (hb hby at_38) rfl  ?_
    exact k
  obtain ⟨_, _, ⟨T5, L5, k5, n5⟩, -, X5, hS5, gr5, ⟨Lc5, hQ5, hH5, l5, y5, z5⟩, st5⟩ := callSS X0 hx (y := (⟨"com/example/sequeue/sequeue/route/MessageQueueEqualsPinLaw", "name", "(J)Ljava/lang/String;"⟩ : MethodName)) hown (mvT hZ (hw _ (List.mem_of_getElem? (i := 0) rfl))) (mvT hZ (hw _ (List.mem_of_getElem? (i := 1) rfl))) (mvT hZ (hw _ (List.mem_of_getElem? (i := 2) rfl))) (mvT hZ (hw _ (List.mem_of_getElem? (i := 3) rfl))) (by decide) (own_backOfS (W := 0) (rm_1 l Z a0 hw [] p0 cs_ h0 n0 Z0 S_COMPACT_STRINGS hcs) hZ (hw _ (List.mem_of_getElem? (i := 3) rfl)) (hw _ (List.mem_of_getElem? (i := 2) rfl)) (by decide) (by decide)) (g := (mkF m 39 #[.val (.long p0), .second, .val (.long p1), .second, .val (.int p2), .val (.int p3), .val (.int p4), .val (.long ms0_12), .second, .val (.int ms0_28), .val (.int v10_36), .unset, .unset, .unset, .unset, .unset] [(.long p0)])) rfl (by rw [hml]; rfl) (argsL := [(.long p0)]) (rest := []) (lenOf pd_9 rfl) rfl (by show 2 * 0 + _ ≤ _; exact Nat.le_of_eq rfl) (hb hby at_39) (fun _ hwv => ⟨rfl, e0, (hH.go (B := (s.setVm s.vm)) hZ wl hwv (Keep.refl h0 []) all0), (by decide : 0 + 6 ≤ _), (by decide : 0 + 20 ≤ _)⟩)
  dsimp only [Pt.U, Pt.locs, Pt.cells, Pt.slots] at X5 l5 y5 z5 st5 hQ5 hS5 gr5 hH5
  rw [l5, y5, z5] at X5
  obtain ⟨X5, hS5, hZ, hown⟩ := rebS (own := "com/example/sequeue/sequeue/route/MessageQueueEqualsPinLaw") hS0 (Nat.le_trans (Keep.refl h0 []).1 (Nat.le_of_eq (congrArg Array.size (e0 : s₁.heap = h0).symm))) X5 hS5 gr5 hZ hown
  obtain ⟨r_5, w_5, rfl, N5q, sz0_r_5, Kc5, Q5_0, Q5_1, Q5_2, Q5_3⟩ := hQ5
  have Kd5 : Keep h0 T5.heap [] := Kc5
  have sz_r_5 : h0.size ≤ r_5 := Nat.le_trans K0.1 sz0_r_5
  have ge_r_5 : n0 ≤ r_5 := Nat.le_trans Z0 sz0_r_5
  have sta_java_lang_String_COMPACT_STRINGS_5 := own_sta_keep S_COMPACT_STRINGS Kd5 all0
  have K5 := K0.trans Kd5 all0
  have Z5 := Nat.le_trans Z0 Kd5.1
  have N5 := Fr.app N0 N5q
  have pre8 : ∀ t, Steps p.tables e below (T5.setTop (mkF m 46 #[.val (.long p0), .second, .val (.long p1), .second, .val (.int p2), .val (.int p3), .val (.int p4), .val (.long ms0_12), .second, .val (.int ms0_28), .val (.int v10_36), .val (.ref r_5), .unset, .unset, .unset, .unset] [(.long ms0_12)])) t → Steps p.tables e below (s₁.setTop (entryFrame m #[(.long p0), (.long p1), (.int p2), (.int p3), (.int p4)] maxLocals)) t := by
    intro t k
    refine pre6 t ?_
    show Steps p.tables e below (s₁.setTop (mkF m 39 #[.val (.long p0), .second, .val (.long p1), .second, .val (.int p2), .val (.int p3), .val (.int p4), .val (.long ms0_12), .second, .val (.int ms0_28), .val (.int v10_36), .unset, .unset, .unset, .unset, .unset] [(.long p0)])) _
    refine st5.trans ?_
    show Steps p.tables e below (T5.setTop (mkF m 42 #[.val (.long p0), .second, .val (.long p1), .second, .val (.int p2), .val (.int p3), .val (.int p4), .val (.long ms0_12), .second, .val (.int ms0_28), .val (.int v10_36), .unset, .unset, .unset, .unset, .unset] [(.ref r_5)])) _
    refine XS.astore X5.here hx rfl (hb hby at_42) rfl rfl (l' := #[.val (.long p0), .second, .val (.long p1), .second, .val (.int p2), .val (.int p3), .val (.int p4), .val (.long ms0_12), .second, .val (.int ms0_28), .val (.int v10_36), .val (.ref r_5), .unset, .unset, .unset, .unset]) rfl ?_
    show Steps p.tables e below (T5.setTop (mkF m 44 #[.val (.long p0), .second, .val (.long p1), .second, .val (.int p2), .val (.int p3), .val (.int p4), .val (.long ms0_12), .second, .val (.int ms0_28), .val (.int v10_36), .val (.ref r_5), .unset, .unset, .unset, .unset] [])) _
    refine XS.lload X5.here hx rfl (hb hby at_44) rfl  ?_
    exact k
  obtain ⟨_, _, ⟨T7, L7, k7, n7⟩, -, X7, hS7, gr7, ⟨Lc7, hQ7, hH7, l7, y7, z7⟩, st7⟩ := callSS X5 hx (y := (⟨"com/example/sequeue/sequeue/route/MessageQueueEqualsPinLaw", "name", "(J)Ljava/lang/String;"⟩ : MethodName)) hown (mvT hZ (hw _ (List.mem_of_getElem? (i := 0) rfl))) (mvT hZ (hw _ (List.mem_of_getElem? (i := 1) rfl))) (mvT hZ (hw _ (List.mem_of_getElem? (i := 2) rfl))) (mvT hZ (hw _ (List.mem_of_getElem? (i := 3) rfl))) (by decide) (own_backOfS (W := 0) (rm_1 l Z a0 hw [] ms0_12 cs_ T5.heap n0 Z5 sta_java_lang_String_COMPACT_STRINGS_5 hcs) hZ (hw _ (List.mem_of_getElem? (i := 3) rfl)) (hw _ (List.mem_of_getElem? (i := 2) rfl)) (by decide) (by decide)) (g := (mkF m 46 #[.val (.long p0), .second, .val (.long p1), .second, .val (.int p2), .val (.int p3), .val (.int p4), .val (.long ms0_12), .second, .val (.int ms0_28), .val (.int v10_36), .val (.ref r_5), .unset, .unset, .unset, .unset] [(.long ms0_12)])) rfl (by rw [hml]; rfl) (argsL := [(.long ms0_12)]) (rest := []) (lenOf pd_9 rfl) rfl (by show 2 * 0 + _ ≤ _; exact Nat.le_of_eq rfl) (hb hby at_46) (fun _ hwv => ⟨rfl, rfl, (hH5.go (B := (s.setVm T5.vm)) hZ wl hwv (Keep.refl T5.heap []) all0), (by decide : 6 + 6 ≤ _), (by decide : 20 + 20 ≤ _)⟩)
  dsimp only [Pt.U, Pt.locs, Pt.cells, Pt.slots] at X7 l7 y7 z7 st7 hQ7 hS7 gr7 hH7
  rw [l7, y7, z7] at X7
  obtain ⟨X7, hS7, hZ, hown⟩ := rebS (own := "com/example/sequeue/sequeue/route/MessageQueueEqualsPinLaw") hS5 (Nat.le_trans (Keep.refl T5.heap []).1 (Nat.le_of_eq (congrArg Array.size (rfl : T5.heap = T5.heap).symm))) X7 hS7 gr7 hZ hown
  obtain ⟨r_7, w_7, rfl, N7q, sz0_r_7, Kc7, Q7_0, Q7_1, Q7_2, Q7_3⟩ := hQ7
  have Kd7 : Keep T5.heap T7.heap [] := Kc7
  have ne_r_5_r_7 : r_5 ≠ r_7 := Nat.ne_of_lt (Nat.lt_of_lt_of_le Q5_0.lt sz0_r_7)
  have ne_w_5_r_7 : w_5 ≠ r_7 := Nat.ne_of_lt (Nat.lt_of_lt_of_le Q5_3.lt sz0_r_7)
  have sz_r_7 : h0.size ≤ r_7 := Nat.le_trans K5.1 sz0_r_7
  have ge_r_7 : n0 ≤ r_7 := Nat.le_trans Z5 sz0_r_7
  have sta_java_lang_String_COMPACT_STRINGS_7 := own_sta_keep sta_java_lang_String_COMPACT_STRINGS_5 Kd7 all0
  have exa_r_5_7 := Q5_0.keep Kd7
  have fld_r_5_value_7 := Q5_1.keep Kd7 nin0
  have fld_r_5_coder_7 := Q5_2.keep Kd7 nin0
  have arr_w_5_7 := Q5_3.keep Kd7 nin0
  have K7 := K5.trans Kd7 all0
  have Z7 := Nat.le_trans Z5 Kd7.1
  have N7 := Fr.app N5 N7q
  have pre9 : ∀ t, Steps p.tables e below (T7.setTop (mkF m 51 #[.val (.long p0), .second, .val (.long p1), .second, .val (.int p2), .val (.int p3), .val (.int p4), .val (.long ms0_12), .second, .val (.int ms0_28), .val (.int v10_36), .val (.ref r_5), .val (.ref r_7), .unset, .unset, .unset] [])) t → Steps p.tables e below (s₁.setTop (entryFrame m #[(.long p0), (.long p1), (.int p2), (.int p3), (.int p4)] maxLocals)) t := by
    intro t k
    refine pre8 t ?_
    show Steps p.tables e below (T5.setTop (mkF m 46 #[.val (.long p0), .second, .val (.long p1), .second, .val (.int p2), .val (.int p3), .val (.int p4), .val (.long ms0_12), .second, .val (.int ms0_28), .val (.int v10_36), .val (.ref r_5), .unset, .unset, .unset, .unset] [(.long ms0_12)])) _
    refine st7.trans ?_
    show Steps p.tables e below (T7.setTop (mkF m 49 #[.val (.long p0), .second, .val (.long p1), .second, .val (.int p2), .val (.int p3), .val (.int p4), .val (.long ms0_12), .second, .val (.int ms0_28), .val (.int v10_36), .val (.ref r_5), .unset, .unset, .unset, .unset] [(.ref r_7)])) _
    refine XS.astore X7.here hx rfl (hb hby at_49) rfl rfl (l' := #[.val (.long p0), .second, .val (.long p1), .second, .val (.int p2), .val (.int p3), .val (.int p4), .val (.long ms0_12), .second, .val (.int ms0_28), .val (.int v10_36), .val (.ref r_5), .val (.ref r_7), .unset, .unset, .unset]) rfl ?_
    exact k
  obtain ⟨T10, h10, X10, e10, E10, A10, D10, -, st10⟩ := newO X7 hx hZ hown (hw _ (List.mem_of_getElem? (i := 39) rfl)) (hw _ (List.mem_of_getElem? (i := 40) rfl)) (hw _ (List.mem_of_getElem? (i := 41) rfl)) rfl (g := (mkF m 51 #[.val (.long p0), .second, .val (.long p1), .second, .val (.int p2), .val (.int p3), .val (.int p4), .val (.long ms0_12), .second, .val (.int ms0_28), .val (.int v10_36), .val (.ref r_5), .val (.ref r_7), .unset, .unset, .unset] [])) rfl (hb hby at_51) (by decide) (by decide)
  obtain ⟨b10, gb10⟩ : ∃ z, z = T7.heap.size := ⟨_, rfl⟩
  rw [← gb10] at A10 D10 st10
  have ne_r_5_b10 : r_5 ≠ b10 := Nat.ne_of_lt (Nat.lt_of_lt_of_le exa_r_5_7.lt (Nat.le_of_eq gb10.symm))
  have ne_w_5_b10 : w_5 ≠ b10 := Nat.ne_of_lt (Nat.lt_of_lt_of_le arr_w_5_7.lt (Nat.le_of_eq gb10.symm))
  have ne_r_7_b10 : r_7 ≠ b10 := Nat.ne_of_lt (Nat.lt_of_lt_of_le Q7_0.lt (Nat.le_of_eq gb10.symm))
  have ne_w_7_b10 : w_7 ≠ b10 := Nat.ne_of_lt (Nat.lt_of_lt_of_le Q7_3.lt (Nat.le_of_eq gb10.symm))
  have sz_b10 : h0.size ≤ b10 := Nat.le_trans K7.1 (Nat.le_of_eq gb10.symm)
  have ge_b10 : n0 ≤ b10 := Nat.le_trans Z7 (Nat.le_of_eq gb10.symm)
  have sta_java_lang_String_COMPACT_STRINGS_10 := sta_java_lang_String_COMPACT_STRINGS_7.ext E10
  have exa_r_5_10 := exa_r_5_7.ext E10
  have fld_r_5_value_10 := fld_r_5_value_7.ext E10
  have fld_r_5_coder_10 := fld_r_5_coder_7.ext E10
  have arr_w_5_10 := arr_w_5_7.ext E10
  have exa_r_7_10 := Q7_0.ext E10
  have fld_r_7_value_10 := Q7_1.ext E10
  have fld_r_7_coder_10 := Q7_2.ext E10
  have arr_w_7_10 := Q7_3.ext E10
  have K10 := K7.ext E10
  have Z10 := Nat.le_trans Z7 E10.1
  have szH_b10 : T7.heap.size ≤ b10 := Nat.le_trans (Keep.refl T7.heap []).1 (Nat.le_of_eq gb10.symm)
  have KH10 := (Keep.refl T7.heap []).ext E10
  have F10_brokerName : Fld Z h10 b10 "com/example/sequeue/sequeue/route/MessageQueue" "brokerName" "Ljava/lang/String;" .null := D10 (Or.inr (hw _ (List.mem_of_getElem? (i := 55) rfl))) (ty := (.object "java/lang/String")) (by decide)
  have F10_queueId : Fld Z h10 b10 "com/example/sequeue/sequeue/route/MessageQueue" "queueId" "I" (.int (0 : Int32)) := D10 (Or.inr (hw _ (List.mem_of_getElem? (i := 57) rfl))) (ty := .int) (by decide)
  have pre12 : ∀ t, Steps p.tables e below (T10.setTop (mkF m 59 #[.val (.long p0), .second, .val (.long p1), .second, .val (.int p2), .val (.int p3), .val (.int p4), .val (.long ms0_12), .second, .val (.int ms0_28), .val (.int v10_36), .val (.ref r_5), .val (.ref r_7), .unset, .unset, .unset] [(.int p2), (.ref r_5), (.ref b10), (.ref b10)])) t → Steps p.tables e below (s₁.setTop (entryFrame m #[(.long p0), (.long p1), (.int p2), (.int p3), (.int p4)] maxLocals)) t := by
    intro t k
    refine pre9 t ?_
    show Steps p.tables e below (T7.setTop (mkF m 51 #[.val (.long p0), .second, .val (.long p1), .second, .val (.int p2), .val (.int p3), .val (.int p4), .val (.long ms0_12), .second, .val (.int ms0_28), .val (.int v10_36), .val (.ref r_5), .val (.ref r_7), .unset, .unset, .unset] [])) _
    refine st10 _ ?_
    show Steps p.tables e below (T10.setTop (mkF m 54 #[.val (.long p0), .second, .val (.long p1), .second, .val (.int p2), .val (.int p3), .val (.int p4), .val (.long ms0_12), .second, .val (.int ms0_28), .val (.int v10_36), .val (.ref r_5), .val (.ref r_7), .unset, .unset, .unset] [(.ref b10)])) _
    refine XS.dup X10.here hx rfl (hb hby at_54) rfl rfl ?_
    show Steps p.tables e below (T10.setTop (mkF m 55 #[.val (.long p0), .second, .val (.long p1), .second, .val (.int p2), .val (.int p3), .val (.int p4), .val (.long ms0_12), .second, .val (.int ms0_28), .val (.int v10_36), .val (.ref r_5), .val (.ref r_7), .unset, .unset, .unset] [(.ref b10), (.ref b10)])) _
    refine XS.aload X10.here hx rfl (hb hby at_55) rfl rfl ?_
    show Steps p.tables e below (T10.setTop (mkF m 57 #[.val (.long p0), .second, .val (.long p1), .second, .val (.int p2), .val (.int p3), .val (.int p4), .val (.long ms0_12), .second, .val (.int ms0_28), .val (.int v10_36), .val (.ref r_5), .val (.ref r_7), .unset, .unset, .unset] [(.ref r_5), (.ref b10), (.ref b10)])) _
    refine XS.iload X10.here hx rfl (hb hby at_57) rfl  ?_
    exact k
  obtain ⟨_, _, ⟨T11, L11, k11, n11⟩, -, X11, hS11, gr11, ⟨Lc11, hQ11, hH11, l11, y11, z11⟩, st11⟩ := X10.specialBackS hx (y := (⟨"com/example/sequeue/sequeue/route/MessageQueue", "<init>", "(Ljava/lang/String;I)V"⟩ : MethodName)) rfl hown (mvT hZ (hw _ (List.mem_of_getElem? (i := 42) rfl))) (mvT hZ (hw _ (List.mem_of_getElem? (i := 43) rfl))) (mvT hZ (hw _ (List.mem_of_getElem? (i := 44) rfl))) (by decide) (own_backOfS (W := 1) (rm_9 l Z a0 hw [] b10 r_5 p2 h10 n0 Z10 A10 F10_brokerName F10_queueId ge_b10 exa_r_5_10) hZ (hw _ (List.mem_of_getElem? (i := 44) rfl)) (hw _ (List.mem_of_getElem? (i := 41) rfl)) (by decide) (by decide)) (g := (mkF m 59 #[.val (.long p0), .second, .val (.long p1), .second, .val (.int p2), .val (.int p3), .val (.int p4), .val (.long ms0_12), .second, .val (.int ms0_28), .val (.int v10_36), .val (.ref r_5), .val (.ref r_7), .unset, .unset, .unset] [(.int p2), (.ref r_5), (.ref b10), (.ref b10)])) rfl (by rw [hml]; rfl) (Steps.refl _) (a := b10) (argsL := [(.ref r_5), (.int p2)]) (rest := [(.ref b10)]) (lenOf pd_10 rfl) rfl (by show 2 * 0 + _ ≤ _; exact Nat.le_of_eq rfl) (hb hby at_59) (fun _ hwv => ⟨rfl, e10, (hH7.go (B := (s.setVm T7.vm)) hZ wl hwv KH10 all0), (by decide : 13 + 2 ≤ _), (by decide : 42 + 44 ≤ _)⟩)
  dsimp only [Pt.U, Pt.locs, Pt.cells, Pt.slots] at X11 l11 y11 z11 st11 hQ11 hS11 gr11 hH11
  rw [l11, y11, z11] at X11
  obtain ⟨X11, hS11, hZ, hown⟩ := rebS (own := "com/example/sequeue/sequeue/route/MessageQueueEqualsPinLaw") hS7 (Nat.le_trans KH10.1 (Nat.le_of_eq (congrArg Array.size (e10 : T10.heap = h10).symm))) X11 hS11 gr11 hZ hown
  obtain ⟨rfl, N11q, Kc11, Q11_0, Q11_1, Q11_2⟩ := hQ11
  have Kd11 : Keep h10 T11.heap [b10] := Kc11
  have sta_java_lang_String_COMPACT_STRINGS_11 := own_sta_keep sta_java_lang_String_COMPACT_STRINGS_10 Kd11 (allS (own_E_plain A10) all0)
  have exa_r_5_11 := exa_r_5_10.keep Kd11
  have fld_r_5_value_11 := fld_r_5_value_10.keep Kd11 (ninS ne_r_5_b10 nin0)
  have fld_r_5_coder_11 := fld_r_5_coder_10.keep Kd11 (ninS ne_r_5_b10 nin0)
  have arr_w_5_11 := arr_w_5_10.keep Kd11 (ninS ne_w_5_b10 nin0)
  have exa_r_7_11 := exa_r_7_10.keep Kd11
  have fld_r_7_value_11 := fld_r_7_value_10.keep Kd11 (ninS ne_r_7_b10 nin0)
  have fld_r_7_coder_11 := fld_r_7_coder_10.keep Kd11 (ninS ne_r_7_b10 nin0)
  have arr_w_7_11 := arr_w_7_10.keep Kd11 (ninS ne_w_7_b10 nin0)
  have exa_b10_11 := A10.keep Kd11
  have K11 := K10.trans Kd11 (allS (Or.inr sz_b10) all0)
  have Z11 := Nat.le_trans Z10 Kd11.1
  have N11 := Fr.app N7 N11q
  have pre13 : ∀ t, Steps p.tables e below (T11.setTop (mkF m 66 #[.val (.long p0), .second, .val (.long p1), .second, .val (.int p2), .val (.int p3), .val (.int p4), .val (.long ms0_12), .second, .val (.int ms0_28), .val (.int v10_36), .val (.ref r_5), .val (.ref r_7), .val (.ref b10), .unset, .unset] [(.int v10_36)])) t → Steps p.tables e below (s₁.setTop (entryFrame m #[(.long p0), (.long p1), (.int p2), (.int p3), (.int p4)] maxLocals)) t := by
    intro t k
    refine pre12 t ?_
    show Steps p.tables e below (T10.setTop (mkF m 59 #[.val (.long p0), .second, .val (.long p1), .second, .val (.int p2), .val (.int p3), .val (.int p4), .val (.long ms0_12), .second, .val (.int ms0_28), .val (.int v10_36), .val (.ref r_5), .val (.ref r_7), .unset, .unset, .unset] [(.int p2), (.ref r_5), (.ref b10), (.ref b10)])) _
    refine st11.trans ?_
    show Steps p.tables e below (T11.setTop (mkF m 62 #[.val (.long p0), .second, .val (.long p1), .second, .val (.int p2), .val (.int p3), .val (.int p4), .val (.long ms0_12), .second, .val (.int ms0_28), .val (.int v10_36), .val (.ref r_5), .val (.ref r_7), .unset, .unset, .unset] [(.ref b10)])) _
    refine XS.astore X11.here hx rfl (hb hby at_62) rfl rfl (l' := #[.val (.long p0), .second, .val (.long p1), .second, .val (.int p2), .val (.int p3), .val (.int p4), .val (.long ms0_12), .second, .val (.int ms0_28), .val (.int v10_36), .val (.ref r_5), .val (.ref r_7), .val (.ref b10), .unset, .unset]) rfl ?_
    show Steps p.tables e below (T11.setTop (mkF m 64 #[.val (.long p0), .second, .val (.long p1), .second, .val (.int p2), .val (.int p3), .val (.int p4), .val (.long ms0_12), .second, .val (.int ms0_28), .val (.int v10_36), .val (.ref r_5), .val (.ref r_7), .val (.ref b10), .unset, .unset] [])) _
    refine XS.iload X11.here hx rfl (hb hby at_64) rfl  ?_
    exact k
  by_cases hc66 : v10_36 = (0 : Int32)
  · have pre14 : ∀ t, Steps p.tables e below (T11.setTop (mkF m 69 #[.val (.long p0), .second, .val (.long p1), .second, .val (.int p2), .val (.int p3), .val (.int p4), .val (.long ms0_12), .second, .val (.int ms0_28), .val (.int v10_36), .val (.ref r_5), .val (.ref r_7), .val (.ref b10), .unset, .unset] [])) t → Steps p.tables e below (s₁.setTop (entryFrame m #[(.long p0), (.long p1), (.int p2), (.int p3), (.int p4)] maxLocals)) t := by
      intro t k
      refine pre13 t ?_
      show Steps p.tables e below (T11.setTop (mkF m 66 #[.val (.long p0), .second, .val (.long p1), .second, .val (.int p2), .val (.int p3), .val (.int p4), .val (.long ms0_12), .second, .val (.int ms0_28), .val (.int v10_36), .val (.ref r_5), .val (.ref r_7), .val (.ref b10), .unset, .unset] [(.int v10_36)])) _
      refine XS.ifNo X11.here hx rfl (hb hby at_66) rfl ((if0 _ _).trans (teq hc66).2) ?_
      exact k
    obtain ⟨T15, h15, X15, e15, E15, A15, D15, -, st15⟩ := newO X11 hx hZ hown (hw _ (List.mem_of_getElem? (i := 39) rfl)) (hw _ (List.mem_of_getElem? (i := 40) rfl)) (hw _ (List.mem_of_getElem? (i := 41) rfl)) rfl (g := (mkF m 69 #[.val (.long p0), .second, .val (.long p1), .second, .val (.int p2), .val (.int p3), .val (.int p4), .val (.long ms0_12), .second, .val (.int ms0_28), .val (.int v10_36), .val (.ref r_5), .val (.ref r_7), .val (.ref b10), .unset, .unset] [])) rfl (hb hby at_69) (by decide) (by decide)
    obtain ⟨b15, gb15⟩ : ∃ z, z = T11.heap.size := ⟨_, rfl⟩
    rw [← gb15] at A15 D15 st15
    have ne_r_5_b15 : r_5 ≠ b15 := Nat.ne_of_lt (Nat.lt_of_lt_of_le exa_r_5_11.lt (Nat.le_of_eq gb15.symm))
    have ne_w_5_b15 : w_5 ≠ b15 := Nat.ne_of_lt (Nat.lt_of_lt_of_le arr_w_5_11.lt (Nat.le_of_eq gb15.symm))
    have ne_r_7_b15 : r_7 ≠ b15 := Nat.ne_of_lt (Nat.lt_of_lt_of_le exa_r_7_11.lt (Nat.le_of_eq gb15.symm))
    have ne_w_7_b15 : w_7 ≠ b15 := Nat.ne_of_lt (Nat.lt_of_lt_of_le arr_w_7_11.lt (Nat.le_of_eq gb15.symm))
    have ne_b10_b15 : b10 ≠ b15 := Nat.ne_of_lt (Nat.lt_of_lt_of_le Q11_0.lt (Nat.le_of_eq gb15.symm))
    have sz_b15 : h0.size ≤ b15 := Nat.le_trans K11.1 (Nat.le_of_eq gb15.symm)
    have ge_b15 : n0 ≤ b15 := Nat.le_trans Z11 (Nat.le_of_eq gb15.symm)
    have sta_java_lang_String_COMPACT_STRINGS_15 := sta_java_lang_String_COMPACT_STRINGS_11.ext E15
    have exa_r_5_15 := exa_r_5_11.ext E15
    have fld_r_5_value_15 := fld_r_5_value_11.ext E15
    have fld_r_5_coder_15 := fld_r_5_coder_11.ext E15
    have arr_w_5_15 := arr_w_5_11.ext E15
    have exa_r_7_15 := exa_r_7_11.ext E15
    have fld_r_7_value_15 := fld_r_7_value_11.ext E15
    have fld_r_7_coder_15 := fld_r_7_coder_11.ext E15
    have arr_w_7_15 := arr_w_7_11.ext E15
    have exa_b10_15 := Q11_0.ext E15
    have fld_b10_brokerName_15 := Q11_1.ext E15
    have fld_b10_queueId_15 := Q11_2.ext E15
    have K15 := K11.ext E15
    have Z15 := Nat.le_trans Z11 E15.1
    have szH_b15 : T11.heap.size ≤ b15 := Nat.le_trans (Keep.refl T11.heap []).1 (Nat.le_of_eq gb15.symm)
    have KH15 := (Keep.refl T11.heap []).ext E15
    have F15_brokerName : Fld Z h15 b15 "com/example/sequeue/sequeue/route/MessageQueue" "brokerName" "Ljava/lang/String;" .null := D15 (Or.inr (hw _ (List.mem_of_getElem? (i := 55) rfl))) (ty := (.object "java/lang/String")) (by decide)
    have F15_queueId : Fld Z h15 b15 "com/example/sequeue/sequeue/route/MessageQueue" "queueId" "I" (.int (0 : Int32)) := D15 (Or.inr (hw _ (List.mem_of_getElem? (i := 57) rfl))) (ty := .int) (by decide)
    have pre17 : ∀ t, Steps p.tables e below (T15.setTop (mkF m 77 #[.val (.long p0), .second, .val (.long p1), .second, .val (.int p2), .val (.int p3), .val (.int p4), .val (.long ms0_12), .second, .val (.int ms0_28), .val (.int v10_36), .val (.ref r_5), .val (.ref r_7), .val (.ref b10), .unset, .unset] [(.int ms0_28), (.ref r_7), (.ref b15), (.ref b15)])) t → Steps p.tables e below (s₁.setTop (entryFrame m #[(.long p0), (.long p1), (.int p2), (.int p3), (.int p4)] maxLocals)) t := by
      intro t k
      refine pre14 t ?_
      show Steps p.tables e below (T11.setTop (mkF m 69 #[.val (.long p0), .second, .val (.long p1), .second, .val (.int p2), .val (.int p3), .val (.int p4), .val (.long ms0_12), .second, .val (.int ms0_28), .val (.int v10_36), .val (.ref r_5), .val (.ref r_7), .val (.ref b10), .unset, .unset] [])) _
      refine st15 _ ?_
      show Steps p.tables e below (T15.setTop (mkF m 72 #[.val (.long p0), .second, .val (.long p1), .second, .val (.int p2), .val (.int p3), .val (.int p4), .val (.long ms0_12), .second, .val (.int ms0_28), .val (.int v10_36), .val (.ref r_5), .val (.ref r_7), .val (.ref b10), .unset, .unset] [(.ref b15)])) _
      refine XS.dup X15.here hx rfl (hb hby at_72) rfl rfl ?_
      show Steps p.tables e below (T15.setTop (mkF m 73 #[.val (.long p0), .second, .val (.long p1), .second, .val (.int p2), .val (.int p3), .val (.int p4), .val (.long ms0_12), .second, .val (.int ms0_28), .val (.int v10_36), .val (.ref r_5), .val (.ref r_7), .val (.ref b10), .unset, .unset] [(.ref b15), (.ref b15)])) _
      refine XS.aload X15.here hx rfl (hb hby at_73) rfl rfl ?_
      show Steps p.tables e below (T15.setTop (mkF m 75 #[.val (.long p0), .second, .val (.long p1), .second, .val (.int p2), .val (.int p3), .val (.int p4), .val (.long ms0_12), .second, .val (.int ms0_28), .val (.int v10_36), .val (.ref r_5), .val (.ref r_7), .val (.ref b10), .unset, .unset] [(.ref r_7), (.ref b15), (.ref b15)])) _
      refine XS.iload X15.here hx rfl (hb hby at_75) rfl  ?_
      exact k
    obtain ⟨_, _, ⟨T16, L16, k16, n16⟩, -, X16, hS16, gr16, ⟨Lc16, hQ16, hH16, l16, y16, z16⟩, st16⟩ := X15.specialBackS hx (y := (⟨"com/example/sequeue/sequeue/route/MessageQueue", "<init>", "(Ljava/lang/String;I)V"⟩ : MethodName)) rfl hown (mvT hZ (hw _ (List.mem_of_getElem? (i := 42) rfl))) (mvT hZ (hw _ (List.mem_of_getElem? (i := 43) rfl))) (mvT hZ (hw _ (List.mem_of_getElem? (i := 44) rfl))) (by decide) (own_backOfS (W := 1) (rm_9 l Z a0 hw [] b15 r_7 ms0_28 h15 n0 Z15 A15 F15_brokerName F15_queueId ge_b15 exa_r_7_15) hZ (hw _ (List.mem_of_getElem? (i := 44) rfl)) (hw _ (List.mem_of_getElem? (i := 41) rfl)) (by decide) (by decide)) (g := (mkF m 77 #[.val (.long p0), .second, .val (.long p1), .second, .val (.int p2), .val (.int p3), .val (.int p4), .val (.long ms0_12), .second, .val (.int ms0_28), .val (.int v10_36), .val (.ref r_5), .val (.ref r_7), .val (.ref b10), .unset, .unset] [(.int ms0_28), (.ref r_7), (.ref b15), (.ref b15)])) rfl (by rw [hml]; rfl) (Steps.refl _) (a := b15) (argsL := [(.ref r_7), (.int ms0_28)]) (rest := [(.ref b15)]) (lenOf pd_10 rfl) rfl (by show 2 * 0 + _ ≤ _; exact Nat.le_of_eq rfl) (hb hby at_77) (fun _ hwv => ⟨rfl, e15, (hH11.go (B := (s.setVm T11.vm)) hZ wl hwv KH15 all0), (by decide : 16 + 2 ≤ _), (by decide : 88 + 44 ≤ _)⟩)
    dsimp only [Pt.U, Pt.locs, Pt.cells, Pt.slots] at X16 l16 y16 z16 st16 hQ16 hS16 gr16 hH16
    rw [l16, y16, z16] at X16
    obtain ⟨X16, hS16, hZ, hown⟩ := rebS (own := "com/example/sequeue/sequeue/route/MessageQueueEqualsPinLaw") hS11 (Nat.le_trans KH15.1 (Nat.le_of_eq (congrArg Array.size (e15 : T15.heap = h15).symm))) X16 hS16 gr16 hZ hown
    obtain ⟨rfl, N16q, Kc16, Q16_0, Q16_1, Q16_2⟩ := hQ16
    have Kd16 : Keep h15 T16.heap [b15] := Kc16
    have sta_java_lang_String_COMPACT_STRINGS_16 := own_sta_keep sta_java_lang_String_COMPACT_STRINGS_15 Kd16 (allS (own_E_plain A15) all0)
    have exa_r_5_16 := exa_r_5_15.keep Kd16
    have fld_r_5_value_16 := fld_r_5_value_15.keep Kd16 (ninS ne_r_5_b15 nin0)
    have fld_r_5_coder_16 := fld_r_5_coder_15.keep Kd16 (ninS ne_r_5_b15 nin0)
    have arr_w_5_16 := arr_w_5_15.keep Kd16 (ninS ne_w_5_b15 nin0)
    have exa_r_7_16 := exa_r_7_15.keep Kd16
    have fld_r_7_value_16 := fld_r_7_value_15.keep Kd16 (ninS ne_r_7_b15 nin0)
    have fld_r_7_coder_16 := fld_r_7_coder_15.keep Kd16 (ninS ne_r_7_b15 nin0)
    have arr_w_7_16 := arr_w_7_15.keep Kd16 (ninS ne_w_7_b15 nin0)
    have exa_b10_16 := exa_b10_15.keep Kd16
    have fld_b10_brokerName_16 := fld_b10_brokerName_15.keep Kd16 (ninS ne_b10_b15 nin0)
    have fld_b10_queueId_16 := fld_b10_queueId_15.keep Kd16 (ninS ne_b10_b15 nin0)
    have exa_b15_16 := A15.keep Kd16
    have K16 := K15.trans Kd16 (allS (Or.inr sz_b15) all0)
    have Z16 := Nat.le_trans Z15 Kd16.1
    have N16 := Fr.app N11 N16q
    have pre19 : ∀ t, Steps p.tables e below (T16.setTop (mkF m 85 #[.val (.long p0), .second, .val (.long p1), .second, .val (.int p2), .val (.int p3), .val (.int p4), .val (.long ms0_12), .second, .val (.int ms0_28), .val (.int v10_36), .val (.ref r_5), .val (.ref r_7), .val (.ref b10), .val (.ref b15), .unset] [(.long ms0_12), (.long p0)])) t → Steps p.tables e below (s₁.setTop (entryFrame m #[(.long p0), (.long p1), (.int p2), (.int p3), (.int p4)] maxLocals)) t := by
      intro t k
      refine pre17 t ?_
      show Steps p.tables e below (T15.setTop (mkF m 77 #[.val (.long p0), .second, .val (.long p1), .second, .val (.int p2), .val (.int p3), .val (.int p4), .val (.long ms0_12), .second, .val (.int ms0_28), .val (.int v10_36), .val (.ref r_5), .val (.ref r_7), .val (.ref b10), .unset, .unset] [(.int ms0_28), (.ref r_7), (.ref b15), (.ref b15)])) _
      refine st16.trans ?_
      show Steps p.tables e below (T16.setTop (mkF m 80 #[.val (.long p0), .second, .val (.long p1), .second, .val (.int p2), .val (.int p3), .val (.int p4), .val (.long ms0_12), .second, .val (.int ms0_28), .val (.int v10_36), .val (.ref r_5), .val (.ref r_7), .val (.ref b10), .unset, .unset] [(.ref b15)])) _
      refine XS.astore X16.here hx rfl (hb hby at_80) rfl rfl (l' := #[.val (.long p0), .second, .val (.long p1), .second, .val (.int p2), .val (.int p3), .val (.int p4), .val (.long ms0_12), .second, .val (.int ms0_28), .val (.int v10_36), .val (.ref r_5), .val (.ref r_7), .val (.ref b10), .val (.ref b15), .unset]) rfl ?_
      show Steps p.tables e below (T16.setTop (mkF m 82 #[.val (.long p0), .second, .val (.long p1), .second, .val (.int p2), .val (.int p3), .val (.int p4), .val (.long ms0_12), .second, .val (.int ms0_28), .val (.int v10_36), .val (.ref r_5), .val (.ref r_7), .val (.ref b10), .val (.ref b15), .unset] [])) _
      refine XS.lloadN X16.here hx rfl (hb hby at_82) rfl  ?_
      show Steps p.tables e below (T16.setTop (mkF m 83 #[.val (.long p0), .second, .val (.long p1), .second, .val (.int p2), .val (.int p3), .val (.int p4), .val (.long ms0_12), .second, .val (.int ms0_28), .val (.int v10_36), .val (.ref r_5), .val (.ref r_7), .val (.ref b10), .val (.ref b15), .unset] [(.long p0)])) _
      refine XS.lload X16.here hx rfl (hb hby at_83) rfl  ?_
      exact k
    obtain ⟨_, _, ⟨T18, L18, k18, n18⟩, -, X18, ⟨Lc18, hQ18, l18, y18, z18⟩, st18⟩ := Jvm.LawKit.callS X16 hx (y := (⟨"com/example/sequeue/sequeue/route/MessageQueueEqualsPinLaw", "sameName", "(JJ)Z"⟩ : MethodName)) hown (mvT hZ (hw _ (List.mem_of_getElem? (i := 58) rfl))) (mvT hZ (hw _ (List.mem_of_getElem? (i := 59) rfl))) (mvT hZ (hw _ (List.mem_of_getElem? (i := 2) rfl))) (mvT hZ (hw _ (List.mem_of_getElem? (i := 60) rfl))) (by decide) (backOf (W := 0) (rm_11 l Z a0 hw [] p0 ms0_12 T16.heap n0 Z16 ) hZ (hw _ (List.mem_of_getElem? (i := 60) rfl)) (hw _ (List.mem_of_getElem? (i := 2) rfl)) (by decide) (by decide)) (g := (mkF m 85 #[.val (.long p0), .second, .val (.long p1), .second, .val (.int p2), .val (.int p3), .val (.int p4), .val (.long ms0_12), .second, .val (.int ms0_28), .val (.int v10_36), .val (.ref r_5), .val (.ref r_7), .val (.ref b10), .val (.ref b15), .unset] [(.long ms0_12), (.long p0)])) rfl (by rw [hml]; rfl) (argsL := [(.long p0), (.long ms0_12)]) (rest := []) (lenOf pd_11 rfl) rfl (by show 2 * 0 + _ ≤ _; exact Nat.le_of_eq rfl) (hb hby at_85) (fun _ _ => ⟨rfl, rfl, (by decide : 18 + 0 ≤ _), (by decide : 132 + 0 ≤ _)⟩)
    dsimp only [Pt.U, Pt.locs, Pt.cells, Pt.slots] at X18 l18 y18 z18 st18 hQ18
    rw [l18, y18, z18] at X18
    obtain ⟨rfl, N18q, e18⟩ := hQ18
    have N18 := Fr.app N16 N18q
    have pre20 : ∀ t, Steps p.tables e below (T18.setTop (mkF m 88 #[.val (.long p0), .second, .val (.long p1), .second, .val (.int p2), .val (.int p3), .val (.int p4), .val (.long ms0_12), .second, .val (.int ms0_28), .val (.int v10_36), .val (.ref r_5), .val (.ref r_7), .val (.ref b10), .val (.ref b15), .unset] [(.int (f_11 p0 ms0_12))])) t → Steps p.tables e below (s₁.setTop (entryFrame m #[(.long p0), (.long p1), (.int p2), (.int p3), (.int p4)] maxLocals)) t := by
      intro t k
      refine pre19 t ?_
      show Steps p.tables e below (T16.setTop (mkF m 85 #[.val (.long p0), .second, .val (.long p1), .second, .val (.int p2), .val (.int p3), .val (.int p4), .val (.long ms0_12), .second, .val (.int ms0_28), .val (.int v10_36), .val (.ref r_5), .val (.ref r_7), .val (.ref b10), .val (.ref b15), .unset] [(.long ms0_12), (.long p0)])) _
      refine st18 _ ?_
      exact k
    obtain ⟨ms0_103, hms0_103⟩ : ∃ z : Int32, z = (if (f_11 p0 ms0_12) = (0 : Int32) then (0 : Int32) else (if p2 = ms0_28 then (1 : Int32) else (0 : Int32))) := ⟨_, rfl⟩
    have pre21 : ∀ t, Steps p.tables e below (T18.setTop (mkF m 103 #[.val (.long p0), .second, .val (.long p1), .second, .val (.int p2), .val (.int p3), .val (.int p4), .val (.long ms0_12), .second, .val (.int ms0_28), .val (.int v10_36), .val (.ref r_5), .val (.ref r_7), .val (.ref b10), .val (.ref b15), .unset] [(.int ms0_103)])) t → Steps p.tables e below (s₁.setTop (entryFrame m #[(.long p0), (.long p1), (.int p2), (.int p3), (.int p4)] maxLocals)) t := by
      intro t k
      refine pre20 t ?_
      by_cases hc88 : (f_11 p0 ms0_12) = (0 : Int32)
      · show Steps p.tables e below (T18.setTop (mkF m 88 #[.val (.long p0), .second, .val (.long p1), .second, .val (.int p2), .val (.int p3), .val (.int p4), .val (.long ms0_12), .second, .val (.int ms0_28), .val (.int v10_36), .val (.ref r_5), .val (.ref r_7), .val (.ref b10), .val (.ref b15), .unset] [(.int (f_11 p0 ms0_12))])) _
        refine XS.ifYes X18.here hx rfl (pc0 := 88) (pc' := 102) rfl (hb hby at_88) rfl ((if0 _ _).trans (teq hc88).1) (by decide) (by decide) ?_
        show Steps p.tables e below (T18.setTop (mkF m 102 #[.val (.long p0), .second, .val (.long p1), .second, .val (.int p2), .val (.int p3), .val (.int p4), .val (.long ms0_12), .second, .val (.int ms0_28), .val (.int v10_36), .val (.ref r_5), .val (.ref r_7), .val (.ref b10), .val (.ref b15), .unset] [])) _
        refine XS.iconst X18.here hx rfl (hb hby at_102) ?_
        have qms0_103 : ms0_103 = (0 : Int32) := by rw [hms0_103, if_pos hc88]
        rw [qms0_103] at k
        exact k
      · show Steps p.tables e below (T18.setTop (mkF m 88 #[.val (.long p0), .second, .val (.long p1), .second, .val (.int p2), .val (.int p3), .val (.int p4), .val (.long ms0_12), .second, .val (.int ms0_28), .val (.int v10_36), .val (.ref r_5), .val (.ref r_7), .val (.ref b10), .val (.ref b15), .unset] [(.int (f_11 p0 ms0_12))])) _
        refine XS.ifNo X18.here hx rfl (hb hby at_88) rfl ((if0 _ _).trans (feq hc88).1) ?_
        show Steps p.tables e below (T18.setTop (mkF m 91 #[.val (.long p0), .second, .val (.long p1), .second, .val (.int p2), .val (.int p3), .val (.int p4), .val (.long ms0_12), .second, .val (.int ms0_28), .val (.int v10_36), .val (.ref r_5), .val (.ref r_7), .val (.ref b10), .val (.ref b15), .unset] [])) _
        refine XS.iload X18.here hx rfl (hb hby at_91) rfl  ?_
        show Steps p.tables e below (T18.setTop (mkF m 93 #[.val (.long p0), .second, .val (.long p1), .second, .val (.int p2), .val (.int p3), .val (.int p4), .val (.long ms0_12), .second, .val (.int ms0_28), .val (.int v10_36), .val (.ref r_5), .val (.ref r_7), .val (.ref b10), .val (.ref b15), .unset] [(.int p2)])) _
        refine XS.iload X18.here hx rfl (hb hby at_93) rfl  ?_
        by_cases hc95 : p2 = ms0_28
        · show Steps p.tables e below (T18.setTop (mkF m 95 #[.val (.long p0), .second, .val (.long p1), .second, .val (.int p2), .val (.int p3), .val (.int p4), .val (.long ms0_12), .second, .val (.int ms0_28), .val (.int v10_36), .val (.ref r_5), .val (.ref r_7), .val (.ref b10), .val (.ref b15), .unset] [(.int ms0_28), (.int p2)])) _
          refine XS.icmpNo X18.here hx rfl (hb hby at_95) rfl (teq hc95).2 ?_
          show Steps p.tables e below (T18.setTop (mkF m 98 #[.val (.long p0), .second, .val (.long p1), .second, .val (.int p2), .val (.int p3), .val (.int p4), .val (.long ms0_12), .second, .val (.int ms0_28), .val (.int v10_36), .val (.ref r_5), .val (.ref r_7), .val (.ref b10), .val (.ref b15), .unset] [])) _
          refine XS.iconst X18.here hx rfl (hb hby at_98) ?_
          show Steps p.tables e below (T18.setTop (mkF m 99 #[.val (.long p0), .second, .val (.long p1), .second, .val (.int p2), .val (.int p3), .val (.int p4), .val (.long ms0_12), .second, .val (.int ms0_28), .val (.int v10_36), .val (.ref r_5), .val (.ref r_7), .val (.ref b10), .val (.ref b15), .unset] [(.int (1 : Int32))])) _
          refine XS.goto X18.here hx rfl (pc0 := 99) (pc' := 103) rfl (hb hby at_99) (by decide) (by decide) ?_
          have qms0_103 : ms0_103 = (1 : Int32) := by rw [hms0_103, if_neg hc88, if_pos hc95]
          rw [qms0_103] at k
          exact k
        · show Steps p.tables e below (T18.setTop (mkF m 95 #[.val (.long p0), .second, .val (.long p1), .second, .val (.int p2), .val (.int p3), .val (.int p4), .val (.long ms0_12), .second, .val (.int ms0_28), .val (.int v10_36), .val (.ref r_5), .val (.ref r_7), .val (.ref b10), .val (.ref b15), .unset] [(.int ms0_28), (.int p2)])) _
          refine XS.icmpYes X18.here hx rfl (pc0 := 95) (pc' := 102) rfl (hb hby at_95) rfl (feq hc95).2 (by decide) (by decide) ?_
          show Steps p.tables e below (T18.setTop (mkF m 102 #[.val (.long p0), .second, .val (.long p1), .second, .val (.int p2), .val (.int p3), .val (.int p4), .val (.long ms0_12), .second, .val (.int ms0_28), .val (.int v10_36), .val (.ref r_5), .val (.ref r_7), .val (.ref b10), .val (.ref b15), .unset] [])) _
          refine XS.iconst X18.here hx rfl (hb hby at_102) ?_
          have qms0_103 : ms0_103 = (0 : Int32) := by rw [hms0_103, if_neg hc88, if_neg hc95]
          rw [qms0_103] at k
          exact k
    have pre22 : ∀ t, Steps p.tables e below (T18.setTop (mkF m 109 #[.val (.long p0), .second, .val (.long p1), .second, .val (.int p2), .val (.int p3), .val (.int p4), .val (.long ms0_12), .second, .val (.int ms0_28), .val (.int v10_36), .val (.ref r_5), .val (.ref r_7), .val (.ref b10), .val (.ref b15), .val (.int ms0_103)] [(.ref b15), (.ref b10)])) t → Steps p.tables e below (s₁.setTop (entryFrame m #[(.long p0), (.long p1), (.int p2), (.int p3), (.int p4)] maxLocals)) t := by
      intro t k
      refine pre21 t ?_
      show Steps p.tables e below (T18.setTop (mkF m 103 #[.val (.long p0), .second, .val (.long p1), .second, .val (.int p2), .val (.int p3), .val (.int p4), .val (.long ms0_12), .second, .val (.int ms0_28), .val (.int v10_36), .val (.ref r_5), .val (.ref r_7), .val (.ref b10), .val (.ref b15), .unset] [(.int ms0_103)])) _
      refine XS.istore X18.here hx rfl (hb hby at_103) rfl (l' := #[.val (.long p0), .second, .val (.long p1), .second, .val (.int p2), .val (.int p3), .val (.int p4), .val (.long ms0_12), .second, .val (.int ms0_28), .val (.int v10_36), .val (.ref r_5), .val (.ref r_7), .val (.ref b10), .val (.ref b15), .val (.int ms0_103)]) rfl ?_
      show Steps p.tables e below (T18.setTop (mkF m 105 #[.val (.long p0), .second, .val (.long p1), .second, .val (.int p2), .val (.int p3), .val (.int p4), .val (.long ms0_12), .second, .val (.int ms0_28), .val (.int v10_36), .val (.ref r_5), .val (.ref r_7), .val (.ref b10), .val (.ref b15), .val (.int ms0_103)] [])) _
      refine XS.aload X18.here hx rfl (hb hby at_105) rfl rfl ?_
      show Steps p.tables e below (T18.setTop (mkF m 107 #[.val (.long p0), .second, .val (.long p1), .second, .val (.int p2), .val (.int p3), .val (.int p4), .val (.long ms0_12), .second, .val (.int ms0_28), .val (.int v10_36), .val (.ref r_5), .val (.ref r_7), .val (.ref b10), .val (.ref b15), .val (.int ms0_103)] [(.ref b10)])) _
      refine XS.aload X18.here hx rfl (hb hby at_107) rfl rfl ?_
      exact k
    by_cases hnn : (own_n p0) = (own_n ms0_12)
    · by_cases hn0 : (own_n p0) = 0
      · have Al23 := arr_w_5_16
        rw [hn0] at Al23
        have Am23 := arr_w_7_16
        rw [← hnn, hn0] at Am23
        obtain ⟨cq24, kq24, q24a, q24b, q24c⟩ := isOf hZ e18 exa_b10_16
        obtain ⟨_, _, ⟨T24, L24, k24, n24⟩, -, X24, ⟨Lc24, hQ24, l24, y24, z24⟩, st24⟩ := X18.virtualBack hx (y := (⟨"com/example/sequeue/sequeue/route/MessageQueue", "equals", "(Ljava/lang/Object;)Z"⟩ : MethodName)) (z := (⟨"com/example/sequeue/sequeue/route/MessageQueue", "equals", "(Ljava/lang/Object;)Z"⟩ : MethodName)) hown (mvT hZ (hw _ (List.mem_of_getElem? (i := 61) rfl))) (mvT hZ (hw _ (List.mem_of_getElem? (i := 62) rfl))) (notFace_of_selects (args := #[]) (mvT hZ (hw _ (List.mem_of_getElem? (i := 64) rfl)))) (mvT hZ (hw _ (List.mem_of_getElem? (i := 64) rfl))) (mvT hZ (hw _ (List.mem_of_getElem? (i := 63) rfl))) (by decide) (backOf (W := 0) (rm_12e0 l Z a0 hw [] b10 b15 r_5 p2 r_7 ms0_28 cs_ w_5 w_7 (own_g p0) (own_g ms0_12) T16.heap n0 Z16 ne_b10_b15 Q16_0 fld_b10_brokerName_16 fld_b10_queueId_16 Q16_1 Q16_2 ne_r_5_r_7 exa_r_5_16 exa_r_7_16 sta_java_lang_String_COMPACT_STRINGS_16 hcs fld_r_5_value_16 fld_r_5_coder_16 fld_r_7_value_16 fld_r_7_coder_16 Al23 Am23) hZ (hw _ (List.mem_of_getElem? (i := 65) rfl)) (hw _ (List.mem_of_getElem? (i := 41) rfl)) (by decide) (by decide)) q24a q24c (g := (mkF m 109 #[.val (.long p0), .second, .val (.long p1), .second, .val (.int p2), .val (.int p3), .val (.int p4), .val (.long ms0_12), .second, .val (.int ms0_28), .val (.int v10_36), .val (.ref r_5), .val (.ref r_7), .val (.ref b10), .val (.ref b15), .val (.int ms0_103)] [(.ref b15), (.ref b10)])) rfl (by rw [hml]; rfl) (Steps.refl _) (argsL := [(.ref b15)]) (rest := []) (lenOf pd_7 rfl) rfl (by show 2 * 0 + _ ≤ _; exact Nat.le_of_eq rfl) (hb hby at_109) (fun _ _ => ⟨rfl, e18, (by decide : 18 + 0 ≤ _), (by decide : 132 + 0 ≤ _)⟩)
        dsimp only [Pt.U, Pt.locs, Pt.cells, Pt.slots] at X24 l24 y24 z24 st24 hQ24
        rw [l24, y24, z24] at X24
        obtain ⟨rfl, N24q, e24⟩ := hQ24
        have N24 := Fr.app N18 N24q
        have pre25 : ∀ t, Steps p.tables e below (T24.setTop (mkF m 114 #[.val (.long p0), .second, .val (.long p1), .second, .val (.int p2), .val (.int p3), .val (.int p4), .val (.long ms0_12), .second, .val (.int ms0_28), .val (.int v10_36), .val (.ref r_5), .val (.ref r_7), .val (.ref b10), .val (.ref b15), .val (.int ms0_103)] [(.int ms0_103), (.int (f_12e0 p2 ms0_28 cs_ (own_g p0) (own_g ms0_12)))])) t → Steps p.tables e below (s₁.setTop (entryFrame m #[(.long p0), (.long p1), (.int p2), (.int p3), (.int p4)] maxLocals)) t := by
          intro t k
          refine pre22 t ?_
          show Steps p.tables e below (T18.setTop (mkF m 109 #[.val (.long p0), .second, .val (.long p1), .second, .val (.int p2), .val (.int p3), .val (.int p4), .val (.long ms0_12), .second, .val (.int ms0_28), .val (.int v10_36), .val (.ref r_5), .val (.ref r_7), .val (.ref b10), .val (.ref b15), .val (.int ms0_103)] [(.ref b15), (.ref b10)])) _
          refine st24.trans ?_
          show Steps p.tables e below (T24.setTop (mkF m 112 #[.val (.long p0), .second, .val (.long p1), .second, .val (.int p2), .val (.int p3), .val (.int p4), .val (.long ms0_12), .second, .val (.int ms0_28), .val (.int v10_36), .val (.ref r_5), .val (.ref r_7), .val (.ref b10), .val (.ref b15), .val (.int ms0_103)] [(.int (f_12e0 p2 ms0_28 cs_ (own_g p0) (own_g ms0_12)))])) _
          refine XS.iload X24.here hx rfl (hb hby at_112) rfl  ?_
          exact k
        by_cases hc114 : (f_12e0 p2 ms0_28 cs_ (own_g p0) (own_g ms0_12)) = ms0_103
        · have pre27 : ∀ t, Steps p.tables e below (T24.setTop (mkF m 121 #[.val (.long p0), .second, .val (.long p1), .second, .val (.int p2), .val (.int p3), .val (.int p4), .val (.long ms0_12), .second, .val (.int ms0_28), .val (.int v10_36), .val (.ref r_5), .val (.ref r_7), .val (.ref b10), .val (.ref b15), .val (.int ms0_103)] [(.ref b10), (.ref b15)])) t → Steps p.tables e below (s₁.setTop (entryFrame m #[(.long p0), (.long p1), (.int p2), (.int p3), (.int p4)] maxLocals)) t := by
            intro t k
            refine pre25 t ?_
            show Steps p.tables e below (T24.setTop (mkF m 114 #[.val (.long p0), .second, .val (.long p1), .second, .val (.int p2), .val (.int p3), .val (.int p4), .val (.long ms0_12), .second, .val (.int ms0_28), .val (.int v10_36), .val (.ref r_5), .val (.ref r_7), .val (.ref b10), .val (.ref b15), .val (.int ms0_103)] [(.int ms0_103), (.int (f_12e0 p2 ms0_28 cs_ (own_g p0) (own_g ms0_12)))])) _
            refine XS.icmpNo X24.here hx rfl (hb hby at_114) rfl (teq hc114).2 ?_
            show Steps p.tables e below (T24.setTop (mkF m 117 #[.val (.long p0), .second, .val (.long p1), .second, .val (.int p2), .val (.int p3), .val (.int p4), .val (.long ms0_12), .second, .val (.int ms0_28), .val (.int v10_36), .val (.ref r_5), .val (.ref r_7), .val (.ref b10), .val (.ref b15), .val (.int ms0_103)] [])) _
            refine XS.aload X24.here hx rfl (hb hby at_117) rfl rfl ?_
            show Steps p.tables e below (T24.setTop (mkF m 119 #[.val (.long p0), .second, .val (.long p1), .second, .val (.int p2), .val (.int p3), .val (.int p4), .val (.long ms0_12), .second, .val (.int ms0_28), .val (.int v10_36), .val (.ref r_5), .val (.ref r_7), .val (.ref b10), .val (.ref b15), .val (.int ms0_103)] [(.ref b15)])) _
            refine XS.aload X24.here hx rfl (hb hby at_119) rfl rfl ?_
            exact k
          obtain ⟨cq26, kq26, q26a, q26b, q26c⟩ := isOf hZ e24 Q16_0
          obtain ⟨_, _, ⟨T26, L26, k26, n26⟩, -, X26, ⟨Lc26, hQ26, l26, y26, z26⟩, st26⟩ := X24.virtualBack hx (y := (⟨"com/example/sequeue/sequeue/route/MessageQueue", "equals", "(Ljava/lang/Object;)Z"⟩ : MethodName)) (z := (⟨"com/example/sequeue/sequeue/route/MessageQueue", "equals", "(Ljava/lang/Object;)Z"⟩ : MethodName)) hown (mvT hZ (hw _ (List.mem_of_getElem? (i := 61) rfl))) (mvT hZ (hw _ (List.mem_of_getElem? (i := 62) rfl))) (notFace_of_selects (args := #[]) (mvT hZ (hw _ (List.mem_of_getElem? (i := 64) rfl)))) (mvT hZ (hw _ (List.mem_of_getElem? (i := 64) rfl))) (mvT hZ (hw _ (List.mem_of_getElem? (i := 63) rfl))) (by decide) (backOf (W := 0) (rm_12e0 l Z a0 hw [] b15 b10 r_7 ms0_28 r_5 p2 cs_ w_7 w_5 (own_g ms0_12) (own_g p0) T16.heap n0 Z16 ne_b10_b15.symm exa_b10_16 Q16_1 Q16_2 fld_b10_brokerName_16 fld_b10_queueId_16 ne_r_5_r_7.symm exa_r_7_16 exa_r_5_16 sta_java_lang_String_COMPACT_STRINGS_16 hcs fld_r_7_value_16 fld_r_7_coder_16 fld_r_5_value_16 fld_r_5_coder_16 Am23 Al23) hZ (hw _ (List.mem_of_getElem? (i := 65) rfl)) (hw _ (List.mem_of_getElem? (i := 41) rfl)) (by decide) (by decide)) q26a q26c (g := (mkF m 121 #[.val (.long p0), .second, .val (.long p1), .second, .val (.int p2), .val (.int p3), .val (.int p4), .val (.long ms0_12), .second, .val (.int ms0_28), .val (.int v10_36), .val (.ref r_5), .val (.ref r_7), .val (.ref b10), .val (.ref b15), .val (.int ms0_103)] [(.ref b10), (.ref b15)])) rfl (by rw [hml]; rfl) (Steps.refl _) (argsL := [(.ref b10)]) (rest := []) (lenOf pd_7 rfl) rfl (by show 2 * 0 + _ ≤ _; exact Nat.le_of_eq rfl) (hb hby at_121) (fun _ _ => ⟨rfl, e24, (by decide : 18 + 0 ≤ _), (by decide : 132 + 0 ≤ _)⟩)
          dsimp only [Pt.U, Pt.locs, Pt.cells, Pt.slots] at X26 l26 y26 z26 st26 hQ26
          rw [l26, y26, z26] at X26
          obtain ⟨rfl, N26q, e26⟩ := hQ26
          have N26 := Fr.app N24 N26q
          have pre28 : ∀ t, Steps p.tables e below (T26.setTop (mkF m 126 #[.val (.long p0), .second, .val (.long p1), .second, .val (.int p2), .val (.int p3), .val (.int p4), .val (.long ms0_12), .second, .val (.int ms0_28), .val (.int v10_36), .val (.ref r_5), .val (.ref r_7), .val (.ref b10), .val (.ref b15), .val (.int ms0_103)] [(.int ms0_103), (.int (f_12e0 ms0_28 p2 cs_ (own_g ms0_12) (own_g p0)))])) t → Steps p.tables e below (s₁.setTop (entryFrame m #[(.long p0), (.long p1), (.int p2), (.int p3), (.int p4)] maxLocals)) t := by
            intro t k
            refine pre27 t ?_
            show Steps p.tables e below (T24.setTop (mkF m 121 #[.val (.long p0), .second, .val (.long p1), .second, .val (.int p2), .val (.int p3), .val (.int p4), .val (.long ms0_12), .second, .val (.int ms0_28), .val (.int v10_36), .val (.ref r_5), .val (.ref r_7), .val (.ref b10), .val (.ref b15), .val (.int ms0_103)] [(.ref b10), (.ref b15)])) _
            refine st26.trans ?_
            show Steps p.tables e below (T26.setTop (mkF m 124 #[.val (.long p0), .second, .val (.long p1), .second, .val (.int p2), .val (.int p3), .val (.int p4), .val (.long ms0_12), .second, .val (.int ms0_28), .val (.int v10_36), .val (.ref r_5), .val (.ref r_7), .val (.ref b10), .val (.ref b15), .val (.int ms0_103)] [(.int (f_12e0 ms0_28 p2 cs_ (own_g ms0_12) (own_g p0)))])) _
            refine XS.iload X26.here hx rfl (hb hby at_124) rfl  ?_
            exact k
          obtain ⟨ms0_134, hms0_134⟩ : ∃ z : Int32, z = (if (f_12e0 ms0_28 p2 cs_ (own_g ms0_12) (own_g p0)) = ms0_103 then (1 : Int32) else (0 : Int32)) := ⟨_, rfl⟩
          have pre29 : ∀ t, Steps p.tables e below (T26.setTop (mkF m 134 #[.val (.long p0), .second, .val (.long p1), .second, .val (.int p2), .val (.int p3), .val (.int p4), .val (.long ms0_12), .second, .val (.int ms0_28), .val (.int v10_36), .val (.ref r_5), .val (.ref r_7), .val (.ref b10), .val (.ref b15), .val (.int ms0_103)] [(.int ms0_134)])) t → Steps p.tables e below (s₁.setTop (entryFrame m #[(.long p0), (.long p1), (.int p2), (.int p3), (.int p4)] maxLocals)) t := by
            intro t k
            refine pre28 t ?_
            by_cases hc126 : (f_12e0 ms0_28 p2 cs_ (own_g ms0_12) (own_g p0)) = ms0_103
            · show Steps p.tables e below (T26.setTop (mkF m 126 #[.val (.long p0), .second, .val (.long p1), .second, .val (.int p2), .val (.int p3), .val (.int p4), .val (.long ms0_12), .second, .val (.int ms0_28), .val (.int v10_36), .val (.ref r_5), .val (.ref r_7), .val (.ref b10), .val (.ref b15), .val (.int ms0_103)] [(.int ms0_103), (.int (f_12e0 ms0_28 p2 cs_ (own_g ms0_12) (own_g p0)))])) _
              refine XS.icmpNo X26.here hx rfl (hb hby at_126) rfl (teq hc126).2 ?_
              show Steps p.tables e below (T26.setTop (mkF m 129 #[.val (.long p0), .second, .val (.long p1), .second, .val (.int p2), .val (.int p3), .val (.int p4), .val (.long ms0_12), .second, .val (.int ms0_28), .val (.int v10_36), .val (.ref r_5), .val (.ref r_7), .val (.ref b10), .val (.ref b15), .val (.int ms0_103)] [])) _
              refine XS.iconst X26.here hx rfl (hb hby at_129) ?_
              show Steps p.tables e below (T26.setTop (mkF m 130 #[.val (.long p0), .second, .val (.long p1), .second, .val (.int p2), .val (.int p3), .val (.int p4), .val (.long ms0_12), .second, .val (.int ms0_28), .val (.int v10_36), .val (.ref r_5), .val (.ref r_7), .val (.ref b10), .val (.ref b15), .val (.int ms0_103)] [(.int (1 : Int32))])) _
              refine XS.goto X26.here hx rfl (pc0 := 130) (pc' := 134) rfl (hb hby at_130) (by decide) (by decide) ?_
              have qms0_134 : ms0_134 = (1 : Int32) := by rw [hms0_134, if_pos hc126]
              rw [qms0_134] at k
              exact k
            · show Steps p.tables e below (T26.setTop (mkF m 126 #[.val (.long p0), .second, .val (.long p1), .second, .val (.int p2), .val (.int p3), .val (.int p4), .val (.long ms0_12), .second, .val (.int ms0_28), .val (.int v10_36), .val (.ref r_5), .val (.ref r_7), .val (.ref b10), .val (.ref b15), .val (.int ms0_103)] [(.int ms0_103), (.int (f_12e0 ms0_28 p2 cs_ (own_g ms0_12) (own_g p0)))])) _
              refine XS.icmpYes X26.here hx rfl (pc0 := 126) (pc' := 133) rfl (hb hby at_126) rfl (feq hc126).2 (by decide) (by decide) ?_
              show Steps p.tables e below (T26.setTop (mkF m 133 #[.val (.long p0), .second, .val (.long p1), .second, .val (.int p2), .val (.int p3), .val (.int p4), .val (.long ms0_12), .second, .val (.int ms0_28), .val (.int v10_36), .val (.ref r_5), .val (.ref r_7), .val (.ref b10), .val (.ref b15), .val (.int ms0_103)] [])) _
              refine XS.iconst X26.here hx rfl (hb hby at_133) ?_
              have qms0_134 : ms0_134 = (0 : Int32) := by rw [hms0_134, if_neg hc126]
              rw [qms0_134] at k
              exact k
          have hnar : nar .boolean ms0_134 = ms0_134 := by rw [hms0_134]; (repeat' split) <;> rfl
          obtain ⟨fs, hr, hrun, hended, hW1, hW2, hW3, hsame⟩ := X26.leaveW hS16 (Nat.le_trans (Keep.refl T16.heap []).1 (Nat.le_of_eq (congrArg Array.size (e26 : T26.heap = T16.heap).symm))) (v := some (.int ms0_134)) (fun h => by rw [Bd.returns] at h; cases h) (BodyLoose.notSynchronized Bd)
          refine ⟨_, _, pre29 _ ?_, hrun, hended, _, _, rfl, ?_, ?_, hW1, hW2, hW3, hsame.mono (by decide) (by decide)⟩
          · show Steps p.tables e below (T26.setTop (mkF m 134 #[.val (.long p0), .second, .val (.long p1), .second, .val (.int p2), .val (.int p3), .val (.int p4), .val (.long ms0_12), .second, .val (.int ms0_28), .val (.int v10_36), .val (.ref r_5), .val (.ref r_7), .val (.ref b10), .val (.ref b15), .val (.int ms0_103)] [(.int ms0_134)])) _
            exact retN X26 hx (t := .boolean) Bd.returns (by simp) (hb hby at_134) (by rw [hnar]; exact hr)
          · show Q_0 Z p0 p1 p2 p3 p4 cs_ h0 n0 _ T26.heap _
            rw [e26]
            exact ⟨congrArg (fun z => some (Value.int z)) (by unfold f_0; dsimp only; (try rw [← hms0_12]); (try rw [← hms0_28]); (try rw [← hv10_36]); (try rw [← hms0_103]); (try rw [← hms0_134]); rw [if_pos hc66, if_pos hnn, if_pos hn0, if_pos hc114] : ms0_134 = f_0 p0 p1 p2 p3 p4 cs_), N26, trivial⟩
          · show own_H own_cs Z T26.vm T26.heap
            rw [e26]
            exact (hH16.go (B := (s.setVm T16.vm)) hZ wl X26.warmed (Keep.refl T16.heap []) all0)
        · obtain ⟨fs, hr, hrun, hended, hW1, hW2, hW3, hsame⟩ := X24.leaveW hS16 (Nat.le_trans (Keep.refl T16.heap []).1 (Nat.le_of_eq (congrArg Array.size (e24 : T24.heap = T16.heap).symm))) (v := some (.int (0 : Int32))) (fun h => by rw [Bd.returns] at h; cases h) (BodyLoose.notSynchronized Bd)
          refine ⟨_, _, pre25 _ ?_, hrun, hended, _, _, rfl, ?_, ?_, hW1, hW2, hW3, hsame.mono (by decide) (by decide)⟩
          · show Steps p.tables e below (T24.setTop (mkF m 114 #[.val (.long p0), .second, .val (.long p1), .second, .val (.int p2), .val (.int p3), .val (.int p4), .val (.long ms0_12), .second, .val (.int ms0_28), .val (.int v10_36), .val (.ref r_5), .val (.ref r_7), .val (.ref b10), .val (.ref b15), .val (.int ms0_103)] [(.int ms0_103), (.int (f_12e0 p2 ms0_28 cs_ (own_g p0) (own_g ms0_12)))])) _
            refine XS.icmpYes X24.here hx rfl (pc0 := 114) (pc' := 133) rfl (hb hby at_114) rfl (feq hc114).2 (by decide) (by decide) ?_
            show Steps p.tables e below (T24.setTop (mkF m 133 #[.val (.long p0), .second, .val (.long p1), .second, .val (.int p2), .val (.int p3), .val (.int p4), .val (.long ms0_12), .second, .val (.int ms0_28), .val (.int v10_36), .val (.ref r_5), .val (.ref r_7), .val (.ref b10), .val (.ref b15), .val (.int ms0_103)] [])) _
            refine XS.iconst X24.here hx rfl (hb hby at_133) ?_
            show Steps p.tables e below (T24.setTop (mkF m 134 #[.val (.long p0), .second, .val (.long p1), .second, .val (.int p2), .val (.int p3), .val (.int p4), .val (.long ms0_12), .second, .val (.int ms0_28), .val (.int v10_36), .val (.ref r_5), .val (.ref r_7), .val (.ref b10), .val (.ref b15), .val (.int ms0_103)] [(.int (0 : Int32))])) _
            exact retN X24 hx (t := .boolean) Bd.returns (by simp) (hb hby at_134) hr
          · show Q_0 Z p0 p1 p2 p3 p4 cs_ h0 n0 _ T24.heap _
            rw [e24]
            exact ⟨congrArg (fun z => some (Value.int z)) (by unfold f_0; dsimp only; (try rw [← hms0_12]); (try rw [← hms0_28]); (try rw [← hv10_36]); (try rw [← hms0_103]); rw [if_pos hc66, if_pos hnn, if_pos hn0, if_neg hc114] : (0 : Int32) = f_0 p0 p1 p2 p3 p4 cs_), N24, trivial⟩
          · show own_H own_cs Z T24.vm T24.heap
            rw [e24]
            exact (hH16.go (B := (s.setVm T16.vm)) hZ wl X24.warmed (Keep.refl T16.heap []) all0)
      · by_cases hn1 : (own_n p0) = 1
        · have Al30 := arr_w_5_16
          rw [hn1] at Al30
          have Am30 := arr_w_7_16
          rw [← hnn, hn1] at Am30
          obtain ⟨cq31, kq31, q31a, q31b, q31c⟩ := isOf hZ e18 exa_b10_16
          obtain ⟨_, _, ⟨T31, L31, k31, n31⟩, -, X31, ⟨Lc31, hQ31, l31, y31, z31⟩, st31⟩ := X18.virtualBack hx (y := (⟨"com/example/sequeue/sequeue/route/MessageQueue", "equals", "(Ljava/lang/Object;)Z"⟩ : MethodName)) (z := (⟨"com/example/sequeue/sequeue/route/MessageQueue", "equals", "(Ljava/lang/Object;)Z"⟩ : MethodName)) hown (mvT hZ (hw _ (List.mem_of_getElem? (i := 61) rfl))) (mvT hZ (hw _ (List.mem_of_getElem? (i := 62) rfl))) (notFace_of_selects (args := #[]) (mvT hZ (hw _ (List.mem_of_getElem? (i := 64) rfl)))) (mvT hZ (hw _ (List.mem_of_getElem? (i := 64) rfl))) (mvT hZ (hw _ (List.mem_of_getElem? (i := 63) rfl))) (by decide) (backOf (W := 0) (rm_12e1 l Z a0 hw [] b10 b15 r_5 p2 r_7 ms0_28 cs_ w_5 w_7 (own_g p0) (own_g ms0_12) T16.heap n0 Z16 ne_b10_b15 Q16_0 fld_b10_brokerName_16 fld_b10_queueId_16 Q16_1 Q16_2 ne_r_5_r_7 exa_r_5_16 exa_r_7_16 sta_java_lang_String_COMPACT_STRINGS_16 hcs fld_r_5_value_16 fld_r_5_coder_16 fld_r_7_value_16 fld_r_7_coder_16 Al30 Am30) hZ (hw _ (List.mem_of_getElem? (i := 65) rfl)) (hw _ (List.mem_of_getElem? (i := 41) rfl)) (by decide) (by decide)) q31a q31c (g := (mkF m 109 #[.val (.long p0), .second, .val (.long p1), .second, .val (.int p2), .val (.int p3), .val (.int p4), .val (.long ms0_12), .second, .val (.int ms0_28), .val (.int v10_36), .val (.ref r_5), .val (.ref r_7), .val (.ref b10), .val (.ref b15), .val (.int ms0_103)] [(.ref b15), (.ref b10)])) rfl (by rw [hml]; rfl) (Steps.refl _) (argsL := [(.ref b15)]) (rest := []) (lenOf pd_7 rfl) rfl (by show 2 * 0 + _ ≤ _; exact Nat.le_of_eq rfl) (hb hby at_109) (fun _ _ => ⟨rfl, e18, (by decide : 18 + 0 ≤ _), (by decide : 132 + 0 ≤ _)⟩)
          dsimp only [Pt.U, Pt.locs, Pt.cells, Pt.slots] at X31 l31 y31 z31 st31 hQ31
          rw [l31, y31, z31] at X31
          obtain ⟨rfl, N31q, e31⟩ := hQ31
          have N31 := Fr.app N18 N31q
          have pre32 : ∀ t, Steps p.tables e below (T31.setTop (mkF m 114 #[.val (.long p0), .second, .val (.long p1), .second, .val (.int p2), .val (.int p3), .val (.int p4), .val (.long ms0_12), .second, .val (.int ms0_28), .val (.int v10_36), .val (.ref r_5), .val (.ref r_7), .val (.ref b10), .val (.ref b15), .val (.int ms0_103)] [(.int ms0_103), (.int (f_12e1 p2 ms0_28 cs_ (own_g p0) (own_g ms0_12)))])) t → Steps p.tables e below (s₁.setTop (entryFrame m #[(.long p0), (.long p1), (.int p2), (.int p3), (.int p4)] maxLocals)) t := by
            intro t k
            refine pre22 t ?_
            show Steps p.tables e below (T18.setTop (mkF m 109 #[.val (.long p0), .second, .val (.long p1), .second, .val (.int p2), .val (.int p3), .val (.int p4), .val (.long ms0_12), .second, .val (.int ms0_28), .val (.int v10_36), .val (.ref r_5), .val (.ref r_7), .val (.ref b10), .val (.ref b15), .val (.int ms0_103)] [(.ref b15), (.ref b10)])) _
            refine st31.trans ?_
            show Steps p.tables e below (T31.setTop (mkF m 112 #[.val (.long p0), .second, .val (.long p1), .second, .val (.int p2), .val (.int p3), .val (.int p4), .val (.long ms0_12), .second, .val (.int ms0_28), .val (.int v10_36), .val (.ref r_5), .val (.ref r_7), .val (.ref b10), .val (.ref b15), .val (.int ms0_103)] [(.int (f_12e1 p2 ms0_28 cs_ (own_g p0) (own_g ms0_12)))])) _
            refine XS.iload X31.here hx rfl (hb hby at_112) rfl  ?_
            exact k
          by_cases hc114 : (f_12e1 p2 ms0_28 cs_ (own_g p0) (own_g ms0_12)) = ms0_103
          · have pre34 : ∀ t, Steps p.tables e below (T31.setTop (mkF m 121 #[.val (.long p0), .second, .val (.long p1), .second, .val (.int p2), .val (.int p3), .val (.int p4), .val (.long ms0_12), .second, .val (.int ms0_28), .val (.int v10_36), .val (.ref r_5), .val (.ref r_7), .val (.ref b10), .val (.ref b15), .val (.int ms0_103)] [(.ref b10), (.ref b15)])) t → Steps p.tables e below (s₁.setTop (entryFrame m #[(.long p0), (.long p1), (.int p2), (.int p3), (.int p4)] maxLocals)) t := by
              intro t k
              refine pre32 t ?_
              show Steps p.tables e below (T31.setTop (mkF m 114 #[.val (.long p0), .second, .val (.long p1), .second, .val (.int p2), .val (.int p3), .val (.int p4), .val (.long ms0_12), .second, .val (.int ms0_28), .val (.int v10_36), .val (.ref r_5), .val (.ref r_7), .val (.ref b10), .val (.ref b15), .val (.int ms0_103)] [(.int ms0_103), (.int (f_12e1 p2 ms0_28 cs_ (own_g p0) (own_g ms0_12)))])) _
              refine XS.icmpNo X31.here hx rfl (hb hby at_114) rfl (teq hc114).2 ?_
              show Steps p.tables e below (T31.setTop (mkF m 117 #[.val (.long p0), .second, .val (.long p1), .second, .val (.int p2), .val (.int p3), .val (.int p4), .val (.long ms0_12), .second, .val (.int ms0_28), .val (.int v10_36), .val (.ref r_5), .val (.ref r_7), .val (.ref b10), .val (.ref b15), .val (.int ms0_103)] [])) _
              refine XS.aload X31.here hx rfl (hb hby at_117) rfl rfl ?_
              show Steps p.tables e below (T31.setTop (mkF m 119 #[.val (.long p0), .second, .val (.long p1), .second, .val (.int p2), .val (.int p3), .val (.int p4), .val (.long ms0_12), .second, .val (.int ms0_28), .val (.int v10_36), .val (.ref r_5), .val (.ref r_7), .val (.ref b10), .val (.ref b15), .val (.int ms0_103)] [(.ref b15)])) _
              refine XS.aload X31.here hx rfl (hb hby at_119) rfl rfl ?_
              exact k
            obtain ⟨cq33, kq33, q33a, q33b, q33c⟩ := isOf hZ e31 Q16_0
            obtain ⟨_, _, ⟨T33, L33, k33, n33⟩, -, X33, ⟨Lc33, hQ33, l33, y33, z33⟩, st33⟩ := X31.virtualBack hx (y := (⟨"com/example/sequeue/sequeue/route/MessageQueue", "equals", "(Ljava/lang/Object;)Z"⟩ : MethodName)) (z := (⟨"com/example/sequeue/sequeue/route/MessageQueue", "equals", "(Ljava/lang/Object;)Z"⟩ : MethodName)) hown (mvT hZ (hw _ (List.mem_of_getElem? (i := 61) rfl))) (mvT hZ (hw _ (List.mem_of_getElem? (i := 62) rfl))) (notFace_of_selects (args := #[]) (mvT hZ (hw _ (List.mem_of_getElem? (i := 64) rfl)))) (mvT hZ (hw _ (List.mem_of_getElem? (i := 64) rfl))) (mvT hZ (hw _ (List.mem_of_getElem? (i := 63) rfl))) (by decide) (backOf (W := 0) (rm_12e1 l Z a0 hw [] b15 b10 r_7 ms0_28 r_5 p2 cs_ w_7 w_5 (own_g ms0_12) (own_g p0) T16.heap n0 Z16 ne_b10_b15.symm exa_b10_16 Q16_1 Q16_2 fld_b10_brokerName_16 fld_b10_queueId_16 ne_r_5_r_7.symm exa_r_7_16 exa_r_5_16 sta_java_lang_String_COMPACT_STRINGS_16 hcs fld_r_7_value_16 fld_r_7_coder_16 fld_r_5_value_16 fld_r_5_coder_16 Am30 Al30) hZ (hw _ (List.mem_of_getElem? (i := 65) rfl)) (hw _ (List.mem_of_getElem? (i := 41) rfl)) (by decide) (by decide)) q33a q33c (g := (mkF m 121 #[.val (.long p0), .second, .val (.long p1), .second, .val (.int p2), .val (.int p3), .val (.int p4), .val (.long ms0_12), .second, .val (.int ms0_28), .val (.int v10_36), .val (.ref r_5), .val (.ref r_7), .val (.ref b10), .val (.ref b15), .val (.int ms0_103)] [(.ref b10), (.ref b15)])) rfl (by rw [hml]; rfl) (Steps.refl _) (argsL := [(.ref b10)]) (rest := []) (lenOf pd_7 rfl) rfl (by show 2 * 0 + _ ≤ _; exact Nat.le_of_eq rfl) (hb hby at_121) (fun _ _ => ⟨rfl, e31, (by decide : 18 + 0 ≤ _), (by decide : 132 + 0 ≤ _)⟩)
            dsimp only [Pt.U, Pt.locs, Pt.cells, Pt.slots] at X33 l33 y33 z33 st33 hQ33
            rw [l33, y33, z33] at X33
            obtain ⟨rfl, N33q, e33⟩ := hQ33
            have N33 := Fr.app N31 N33q
            have pre35 : ∀ t, Steps p.tables e below (T33.setTop (mkF m 126 #[.val (.long p0), .second, .val (.long p1), .second, .val (.int p2), .val (.int p3), .val (.int p4), .val (.long ms0_12), .second, .val (.int ms0_28), .val (.int v10_36), .val (.ref r_5), .val (.ref r_7), .val (.ref b10), .val (.ref b15), .val (.int ms0_103)] [(.int ms0_103), (.int (f_12e1 ms0_28 p2 cs_ (own_g ms0_12) (own_g p0)))])) t → Steps p.tables e below (s₁.setTop (entryFrame m #[(.long p0), (.long p1), (.int p2), (.int p3), (.int p4)] maxLocals)) t := by
              intro t k
              refine pre34 t ?_
              show Steps p.tables e below (T31.setTop (mkF m 121 #[.val (.long p0), .second, .val (.long p1), .second, .val (.int p2), .val (.int p3), .val (.int p4), .val (.long ms0_12), .second, .val (.int ms0_28), .val (.int v10_36), .val (.ref r_5), .val (.ref r_7), .val (.ref b10), .val (.ref b15), .val (.int ms0_103)] [(.ref b10), (.ref b15)])) _
              refine st33.trans ?_
              show Steps p.tables e below (T33.setTop (mkF m 124 #[.val (.long p0), .second, .val (.long p1), .second, .val (.int p2), .val (.int p3), .val (.int p4), .val (.long ms0_12), .second, .val (.int ms0_28), .val (.int v10_36), .val (.ref r_5), .val (.ref r_7), .val (.ref b10), .val (.ref b15), .val (.int ms0_103)] [(.int (f_12e1 ms0_28 p2 cs_ (own_g ms0_12) (own_g p0)))])) _
              refine XS.iload X33.here hx rfl (hb hby at_124) rfl  ?_
              exact k
            obtain ⟨ms0_134, hms0_134⟩ : ∃ z : Int32, z = (if (f_12e1 ms0_28 p2 cs_ (own_g ms0_12) (own_g p0)) = ms0_103 then (1 : Int32) else (0 : Int32)) := ⟨_, rfl⟩
            have pre36 : ∀ t, Steps p.tables e below (T33.setTop (mkF m 134 #[.val (.long p0), .second, .val (.long p1), .second, .val (.int p2), .val (.int p3), .val (.int p4), .val (.long ms0_12), .second, .val (.int ms0_28), .val (.int v10_36), .val (.ref r_5), .val (.ref r_7), .val (.ref b10), .val (.ref b15), .val (.int ms0_103)] [(.int ms0_134)])) t → Steps p.tables e below (s₁.setTop (entryFrame m #[(.long p0), (.long p1), (.int p2), (.int p3), (.int p4)] maxLocals)) t := by
              intro t k
              refine pre35 t ?_
              by_cases hc126 : (f_12e1 ms0_28 p2 cs_ (own_g ms0_12) (own_g p0)) = ms0_103
              · show Steps p.tables e below (T33.setTop (mkF m 126 #[.val (.long p0), .second, .val (.long p1), .second, .val (.int p2), .val (.int p3), .val (.int p4), .val (.long ms0_12), .second, .val (.int ms0_28), .val (.int v10_36), .val (.ref r_5), .val (.ref r_7), .val (.ref b10), .val (.ref b15), .val (.int ms0_103)] [(.int ms0_103), (.int (f_12e1 ms0_28 p2 cs_ (own_g ms0_12) (own_g p0)))])) _
                refine XS.icmpNo X33.here hx rfl (hb hby at_126) rfl (teq hc126).2 ?_
                show Steps p.tables e below (T33.setTop (mkF m 129 #[.val (.long p0), .second, .val (.long p1), .second, .val (.int p2), .val (.int p3), .val (.int p4), .val (.long ms0_12), .second, .val (.int ms0_28), .val (.int v10_36), .val (.ref r_5), .val (.ref r_7), .val (.ref b10), .val (.ref b15), .val (.int ms0_103)] [])) _
                refine XS.iconst X33.here hx rfl (hb hby at_129) ?_
                show Steps p.tables e below (T33.setTop (mkF m 130 #[.val (.long p0), .second, .val (.long p1), .second, .val (.int p2), .val (.int p3), .val (.int p4), .val (.long ms0_12), .second, .val (.int ms0_28), .val (.int v10_36), .val (.ref r_5), .val (.ref r_7), .val (.ref b10), .val (.ref b15), .val (.int ms0_103)] [(.int (1 : Int32))])) _
                refine XS.goto X33.here hx rfl (pc0 := 130) (pc' := 134) rfl (hb hby at_130) (by decide) (by decide) ?_
                have qms0_134 : ms0_134 = (1 : Int32) := by rw [hms0_134, if_pos hc126]
                rw [qms0_134] at k
                exact k
              · show Steps p.tables e below (T33.setTop (mkF m 126 #[.val (.long p0), .second, .val (.long p1), .second, .val (.int p2), .val (.int p3), .val (.int p4), .val (.long ms0_12), .second, .val (.int ms0_28), .val (.int v10_36), .val (.ref r_5), .val (.ref r_7), .val (.ref b10), .val (.ref b15), .val (.int ms0_103)] [(.int ms0_103), (.int (f_12e1 ms0_28 p2 cs_ (own_g ms0_12) (own_g p0)))])) _
                refine XS.icmpYes X33.here hx rfl (pc0 := 126) (pc' := 133) rfl (hb hby at_126) rfl (feq hc126).2 (by decide) (by decide) ?_
                show Steps p.tables e below (T33.setTop (mkF m 133 #[.val (.long p0), .second, .val (.long p1), .second, .val (.int p2), .val (.int p3), .val (.int p4), .val (.long ms0_12), .second, .val (.int ms0_28), .val (.int v10_36), .val (.ref r_5), .val (.ref r_7), .val (.ref b10), .val (.ref b15), .val (.int ms0_103)] [])) _
                refine XS.iconst X33.here hx rfl (hb hby at_133) ?_
                have qms0_134 : ms0_134 = (0 : Int32) := by rw [hms0_134, if_neg hc126]
                rw [qms0_134] at k
                exact k
            have hnar : nar .boolean ms0_134 = ms0_134 := by rw [hms0_134]; (repeat' split) <;> rfl
            obtain ⟨fs, hr, hrun, hended, hW1, hW2, hW3, hsame⟩ := X33.leaveW hS16 (Nat.le_trans (Keep.refl T16.heap []).1 (Nat.le_of_eq (congrArg Array.size (e33 : T33.heap = T16.heap).symm))) (v := some (.int ms0_134)) (fun h => by rw [Bd.returns] at h; cases h) (BodyLoose.notSynchronized Bd)
            refine ⟨_, _, pre36 _ ?_, hrun, hended, _, _, rfl, ?_, ?_, hW1, hW2, hW3, hsame.mono (by decide) (by decide)⟩
            · show Steps p.tables e below (T33.setTop (mkF m 134 #[.val (.long p0), .second, .val (.long p1), .second, .val (.int p2), .val (.int p3), .val (.int p4), .val (.long ms0_12), .second, .val (.int ms0_28), .val (.int v10_36), .val (.ref r_5), .val (.ref r_7), .val (.ref b10), .val (.ref b15), .val (.int ms0_103)] [(.int ms0_134)])) _
              exact retN X33 hx (t := .boolean) Bd.returns (by simp) (hb hby at_134) (by rw [hnar]; exact hr)
            · show Q_0 Z p0 p1 p2 p3 p4 cs_ h0 n0 _ T33.heap _
              rw [e33]
              exact ⟨congrArg (fun z => some (Value.int z)) (by unfold f_0; dsimp only; (try rw [← hms0_12]); (try rw [← hms0_28]); (try rw [← hv10_36]); (try rw [← hms0_103]); (try rw [← hms0_134]); rw [if_pos hc66, if_pos hnn, if_neg hn0, if_pos hn1, if_pos hc114] : ms0_134 = f_0 p0 p1 p2 p3 p4 cs_), N33, trivial⟩
            · show own_H own_cs Z T33.vm T33.heap
              rw [e33]
              exact (hH16.go (B := (s.setVm T16.vm)) hZ wl X33.warmed (Keep.refl T16.heap []) all0)
          · obtain ⟨fs, hr, hrun, hended, hW1, hW2, hW3, hsame⟩ := X31.leaveW hS16 (Nat.le_trans (Keep.refl T16.heap []).1 (Nat.le_of_eq (congrArg Array.size (e31 : T31.heap = T16.heap).symm))) (v := some (.int (0 : Int32))) (fun h => by rw [Bd.returns] at h; cases h) (BodyLoose.notSynchronized Bd)
            refine ⟨_, _, pre32 _ ?_, hrun, hended, _, _, rfl, ?_, ?_, hW1, hW2, hW3, hsame.mono (by decide) (by decide)⟩
            · show Steps p.tables e below (T31.setTop (mkF m 114 #[.val (.long p0), .second, .val (.long p1), .second, .val (.int p2), .val (.int p3), .val (.int p4), .val (.long ms0_12), .second, .val (.int ms0_28), .val (.int v10_36), .val (.ref r_5), .val (.ref r_7), .val (.ref b10), .val (.ref b15), .val (.int ms0_103)] [(.int ms0_103), (.int (f_12e1 p2 ms0_28 cs_ (own_g p0) (own_g ms0_12)))])) _
              refine XS.icmpYes X31.here hx rfl (pc0 := 114) (pc' := 133) rfl (hb hby at_114) rfl (feq hc114).2 (by decide) (by decide) ?_
              show Steps p.tables e below (T31.setTop (mkF m 133 #[.val (.long p0), .second, .val (.long p1), .second, .val (.int p2), .val (.int p3), .val (.int p4), .val (.long ms0_12), .second, .val (.int ms0_28), .val (.int v10_36), .val (.ref r_5), .val (.ref r_7), .val (.ref b10), .val (.ref b15), .val (.int ms0_103)] [])) _
              refine XS.iconst X31.here hx rfl (hb hby at_133) ?_
              show Steps p.tables e below (T31.setTop (mkF m 134 #[.val (.long p0), .second, .val (.long p1), .second, .val (.int p2), .val (.int p3), .val (.int p4), .val (.long ms0_12), .second, .val (.int ms0_28), .val (.int v10_36), .val (.ref r_5), .val (.ref r_7), .val (.ref b10), .val (.ref b15), .val (.int ms0_103)] [(.int (0 : Int32))])) _
              exact retN X31 hx (t := .boolean) Bd.returns (by simp) (hb hby at_134) hr
            · show Q_0 Z p0 p1 p2 p3 p4 cs_ h0 n0 _ T31.heap _
              rw [e31]
              exact ⟨congrArg (fun z => some (Value.int z)) (by unfold f_0; dsimp only; (try rw [← hms0_12]); (try rw [← hms0_28]); (try rw [← hv10_36]); (try rw [← hms0_103]); rw [if_pos hc66, if_pos hnn, if_neg hn0, if_pos hn1, if_neg hc114] : (0 : Int32) = f_0 p0 p1 p2 p3 p4 cs_), N31, trivial⟩
            · show own_H own_cs Z T31.vm T31.heap
              rw [e31]
              exact (hH16.go (B := (s.setVm T16.vm)) hZ wl X31.warmed (Keep.refl T16.heap []) all0)
        · by_cases hn2 : (own_n p0) = 2
          · have Al37 := arr_w_5_16
            rw [hn2] at Al37
            have Am37 := arr_w_7_16
            rw [← hnn, hn2] at Am37
            obtain ⟨cq38, kq38, q38a, q38b, q38c⟩ := isOf hZ e18 exa_b10_16
            obtain ⟨_, _, ⟨T38, L38, k38, n38⟩, -, X38, ⟨Lc38, hQ38, l38, y38, z38⟩, st38⟩ := X18.virtualBack hx (y := (⟨"com/example/sequeue/sequeue/route/MessageQueue", "equals", "(Ljava/lang/Object;)Z"⟩ : MethodName)) (z := (⟨"com/example/sequeue/sequeue/route/MessageQueue", "equals", "(Ljava/lang/Object;)Z"⟩ : MethodName)) hown (mvT hZ (hw _ (List.mem_of_getElem? (i := 61) rfl))) (mvT hZ (hw _ (List.mem_of_getElem? (i := 62) rfl))) (notFace_of_selects (args := #[]) (mvT hZ (hw _ (List.mem_of_getElem? (i := 64) rfl)))) (mvT hZ (hw _ (List.mem_of_getElem? (i := 64) rfl))) (mvT hZ (hw _ (List.mem_of_getElem? (i := 63) rfl))) (by decide) (backOf (W := 0) (rm_12e2 l Z a0 hw [] b10 b15 r_5 p2 r_7 ms0_28 cs_ w_5 w_7 (own_g p0) (own_g ms0_12) T16.heap n0 Z16 ne_b10_b15 Q16_0 fld_b10_brokerName_16 fld_b10_queueId_16 Q16_1 Q16_2 ne_r_5_r_7 exa_r_5_16 exa_r_7_16 sta_java_lang_String_COMPACT_STRINGS_16 hcs fld_r_5_value_16 fld_r_5_coder_16 fld_r_7_value_16 fld_r_7_coder_16 Al37 Am37) hZ (hw _ (List.mem_of_getElem? (i := 65) rfl)) (hw _ (List.mem_of_getElem? (i := 41) rfl)) (by decide) (by decide)) q38a q38c (g := (mkF m 109 #[.val (.long p0), .second, .val (.long p1), .second, .val (.int p2), .val (.int p3), .val (.int p4), .val (.long ms0_12), .second, .val (.int ms0_28), .val (.int v10_36), .val (.ref r_5), .val (.ref r_7), .val (.ref b10), .val (.ref b15), .val (.int ms0_103)] [(.ref b15), (.ref b10)])) rfl (by rw [hml]; rfl) (Steps.refl _) (argsL := [(.ref b15)]) (rest := []) (lenOf pd_7 rfl) rfl (by show 2 * 0 + _ ≤ _; exact Nat.le_of_eq rfl) (hb hby at_109) (fun _ _ => ⟨rfl, e18, (by decide : 18 + 0 ≤ _), (by decide : 132 + 0 ≤ _)⟩)
            dsimp only [Pt.U, Pt.locs, Pt.cells, Pt.slots] at X38 l38 y38 z38 st38 hQ38
            rw [l38, y38, z38] at X38
            obtain ⟨rfl, N38q, e38⟩ := hQ38
            have N38 := Fr.app N18 N38q
            have pre39 : ∀ t, Steps p.tables e below (T38.setTop (mkF m 114 #[.val (.long p0), .second, .val (.long p1), .second, .val (.int p2), .val (.int p3), .val (.int p4), .val (.long ms0_12), .second, .val (.int ms0_28), .val (.int v10_36), .val (.ref r_5), .val (.ref r_7), .val (.ref b10), .val (.ref b15), .val (.int ms0_103)] [(.int ms0_103), (.int (f_12e2 p2 ms0_28 cs_ (own_g p0) (own_g ms0_12)))])) t → Steps p.tables e below (s₁.setTop (entryFrame m #[(.long p0), (.long p1), (.int p2), (.int p3), (.int p4)] maxLocals)) t := by
              intro t k
              refine pre22 t ?_
              show Steps p.tables e below (T18.setTop (mkF m 109 #[.val (.long p0), .second, .val (.long p1), .second, .val (.int p2), .val (.int p3), .val (.int p4), .val (.long ms0_12), .second, .val (.int ms0_28), .val (.int v10_36), .val (.ref r_5), .val (.ref r_7), .val (.ref b10), .val (.ref b15), .val (.int ms0_103)] [(.ref b15), (.ref b10)])) _
              refine st38.trans ?_
              show Steps p.tables e below (T38.setTop (mkF m 112 #[.val (.long p0), .second, .val (.long p1), .second, .val (.int p2), .val (.int p3), .val (.int p4), .val (.long ms0_12), .second, .val (.int ms0_28), .val (.int v10_36), .val (.ref r_5), .val (.ref r_7), .val (.ref b10), .val (.ref b15), .val (.int ms0_103)] [(.int (f_12e2 p2 ms0_28 cs_ (own_g p0) (own_g ms0_12)))])) _
              refine XS.iload X38.here hx rfl (hb hby at_112) rfl  ?_
              exact k
            by_cases hc114 : (f_12e2 p2 ms0_28 cs_ (own_g p0) (own_g ms0_12)) = ms0_103
            · have pre41 : ∀ t, Steps p.tables e below (T38.setTop (mkF m 121 #[.val (.long p0), .second, .val (.long p1), .second, .val (.int p2), .val (.int p3), .val (.int p4), .val (.long ms0_12), .second, .val (.int ms0_28), .val (.int v10_36), .val (.ref r_5), .val (.ref r_7), .val (.ref b10), .val (.ref b15), .val (.int ms0_103)] [(.ref b10), (.ref b15)])) t → Steps p.tables e below (s₁.setTop (entryFrame m #[(.long p0), (.long p1), (.int p2), (.int p3), (.int p4)] maxLocals)) t := by
                intro t k
                refine pre39 t ?_
                show Steps p.tables e below (T38.setTop (mkF m 114 #[.val (.long p0), .second, .val (.long p1), .second, .val (.int p2), .val (.int p3), .val (.int p4), .val (.long ms0_12), .second, .val (.int ms0_28), .val (.int v10_36), .val (.ref r_5), .val (.ref r_7), .val (.ref b10), .val (.ref b15), .val (.int ms0_103)] [(.int ms0_103), (.int (f_12e2 p2 ms0_28 cs_ (own_g p0) (own_g ms0_12)))])) _
                refine XS.icmpNo X38.here hx rfl (hb hby at_114) rfl (teq hc114).2 ?_
                show Steps p.tables e below (T38.setTop (mkF m 117 #[.val (.long p0), .second, .val (.long p1), .second, .val (.int p2), .val (.int p3), .val (.int p4), .val (.long ms0_12), .second, .val (.int ms0_28), .val (.int v10_36), .val (.ref r_5), .val (.ref r_7), .val (.ref b10), .val (.ref b15), .val (.int ms0_103)] [])) _
                refine XS.aload X38.here hx rfl (hb hby at_117) rfl rfl ?_
                show Steps p.tables e below (T38.setTop (mkF m 119 #[.val (.long p0), .second, .val (.long p1), .second, .val (.int p2), .val (.int p3), .val (.int p4), .val (.long ms0_12), .second, .val (.int ms0_28), .val (.int v10_36), .val (.ref r_5), .val (.ref r_7), .val (.ref b10), .val (.ref b15), .val (.int ms0_103)] [(.ref b15)])) _
                refine XS.aload X38.here hx rfl (hb hby at_119) rfl rfl ?_
                exact k
              obtain ⟨cq40, kq40, q40a, q40b, q40c⟩ := isOf hZ e38 Q16_0
              obtain ⟨_, _, ⟨T40, L40, k40, n40⟩, -, X40, ⟨Lc40, hQ40, l40, y40, z40⟩, st40⟩ := X38.virtualBack hx (y := (⟨"com/example/sequeue/sequeue/route/MessageQueue", "equals", "(Ljava/lang/Object;)Z"⟩ : MethodName)) (z := (⟨"com/example/sequeue/sequeue/route/MessageQueue", "equals", "(Ljava/lang/Object;)Z"⟩ : MethodName)) hown (mvT hZ (hw _ (List.mem_of_getElem? (i := 61) rfl))) (mvT hZ (hw _ (List.mem_of_getElem? (i := 62) rfl))) (notFace_of_selects (args := #[]) (mvT hZ (hw _ (List.mem_of_getElem? (i := 64) rfl)))) (mvT hZ (hw _ (List.mem_of_getElem? (i := 64) rfl))) (mvT hZ (hw _ (List.mem_of_getElem? (i := 63) rfl))) (by decide) (backOf (W := 0) (rm_12e2 l Z a0 hw [] b15 b10 r_7 ms0_28 r_5 p2 cs_ w_7 w_5 (own_g ms0_12) (own_g p0) T16.heap n0 Z16 ne_b10_b15.symm exa_b10_16 Q16_1 Q16_2 fld_b10_brokerName_16 fld_b10_queueId_16 ne_r_5_r_7.symm exa_r_7_16 exa_r_5_16 sta_java_lang_String_COMPACT_STRINGS_16 hcs fld_r_7_value_16 fld_r_7_coder_16 fld_r_5_value_16 fld_r_5_coder_16 Am37 Al37) hZ (hw _ (List.mem_of_getElem? (i := 65) rfl)) (hw _ (List.mem_of_getElem? (i := 41) rfl)) (by decide) (by decide)) q40a q40c (g := (mkF m 121 #[.val (.long p0), .second, .val (.long p1), .second, .val (.int p2), .val (.int p3), .val (.int p4), .val (.long ms0_12), .second, .val (.int ms0_28), .val (.int v10_36), .val (.ref r_5), .val (.ref r_7), .val (.ref b10), .val (.ref b15), .val (.int ms0_103)] [(.ref b10), (.ref b15)])) rfl (by rw [hml]; rfl) (Steps.refl _) (argsL := [(.ref b10)]) (rest := []) (lenOf pd_7 rfl) rfl (by show 2 * 0 + _ ≤ _; exact Nat.le_of_eq rfl) (hb hby at_121) (fun _ _ => ⟨rfl, e38, (by decide : 18 + 0 ≤ _), (by decide : 132 + 0 ≤ _)⟩)
              dsimp only [Pt.U, Pt.locs, Pt.cells, Pt.slots] at X40 l40 y40 z40 st40 hQ40
              rw [l40, y40, z40] at X40
              obtain ⟨rfl, N40q, e40⟩ := hQ40
              have N40 := Fr.app N38 N40q
              have pre42 : ∀ t, Steps p.tables e below (T40.setTop (mkF m 126 #[.val (.long p0), .second, .val (.long p1), .second, .val (.int p2), .val (.int p3), .val (.int p4), .val (.long ms0_12), .second, .val (.int ms0_28), .val (.int v10_36), .val (.ref r_5), .val (.ref r_7), .val (.ref b10), .val (.ref b15), .val (.int ms0_103)] [(.int ms0_103), (.int (f_12e2 ms0_28 p2 cs_ (own_g ms0_12) (own_g p0)))])) t → Steps p.tables e below (s₁.setTop (entryFrame m #[(.long p0), (.long p1), (.int p2), (.int p3), (.int p4)] maxLocals)) t := by
                intro t k
                refine pre41 t ?_
                show Steps p.tables e below (T38.setTop (mkF m 121 #[.val (.long p0), .second, .val (.long p1), .second, .val (.int p2), .val (.int p3), .val (.int p4), .val (.long ms0_12), .second, .val (.int ms0_28), .val (.int v10_36), .val (.ref r_5), .val (.ref r_7), .val (.ref b10), .val (.ref b15), .val (.int ms0_103)] [(.ref b10), (.ref b15)])) _
                refine st40.trans ?_
                show Steps p.tables e below (T40.setTop (mkF m 124 #[.val (.long p0), .second, .val (.long p1), .second, .val (.int p2), .val (.int p3), .val (.int p4), .val (.long ms0_12), .second, .val (.int ms0_28), .val (.int v10_36), .val (.ref r_5), .val (.ref r_7), .val (.ref b10), .val (.ref b15), .val (.int ms0_103)] [(.int (f_12e2 ms0_28 p2 cs_ (own_g ms0_12) (own_g p0)))])) _
                refine XS.iload X40.here hx rfl (hb hby at_124) rfl  ?_
                exact k
              obtain ⟨ms0_134, hms0_134⟩ : ∃ z : Int32, z = (if (f_12e2 ms0_28 p2 cs_ (own_g ms0_12) (own_g p0)) = ms0_103 then (1 : Int32) else (0 : Int32)) := ⟨_, rfl⟩
              have pre43 : ∀ t, Steps p.tables e below (T40.setTop (mkF m 134 #[.val (.long p0), .second, .val (.long p1), .second, .val (.int p2), .val (.int p3), .val (.int p4), .val (.long ms0_12), .second, .val (.int ms0_28), .val (.int v10_36), .val (.ref r_5), .val (.ref r_7), .val (.ref b10), .val (.ref b15), .val (.int ms0_103)] [(.int ms0_134)])) t → Steps p.tables e below (s₁.setTop (entryFrame m #[(.long p0), (.long p1), (.int p2), (.int p3), (.int p4)] maxLocals)) t := by
                intro t k
                refine pre42 t ?_
                by_cases hc126 : (f_12e2 ms0_28 p2 cs_ (own_g ms0_12) (own_g p0)) = ms0_103
                · show Steps p.tables e below (T40.setTop (mkF m 126 #[.val (.long p0), .second, .val (.long p1), .second, .val (.int p2), .val (.int p3), .val (.int p4), .val (.long ms0_12), .second, .val (.int ms0_28), .val (.int v10_36), .val (.ref r_5), .val (.ref r_7), .val (.ref b10), .val (.ref b15), .val (.int ms0_103)] [(.int ms0_103), (.int (f_12e2 ms0_28 p2 cs_ (own_g ms0_12) (own_g p0)))])) _
                  refine XS.icmpNo X40.here hx rfl (hb hby at_126) rfl (teq hc126).2 ?_
                  show Steps p.tables e below (T40.setTop (mkF m 129 #[.val (.long p0), .second, .val (.long p1), .second, .val (.int p2), .val (.int p3), .val (.int p4), .val (.long ms0_12), .second, .val (.int ms0_28), .val (.int v10_36), .val (.ref r_5), .val (.ref r_7), .val (.ref b10), .val (.ref b15), .val (.int ms0_103)] [])) _
                  refine XS.iconst X40.here hx rfl (hb hby at_129) ?_
                  show Steps p.tables e below (T40.setTop (mkF m 130 #[.val (.long p0), .second, .val (.long p1), .second, .val (.int p2), .val (.int p3), .val (.int p4), .val (.long ms0_12), .second, .val (.int ms0_28), .val (.int v10_36), .val (.ref r_5), .val (.ref r_7), .val (.ref b10), .val (.ref b15), .val (.int ms0_103)] [(.int (1 : Int32))])) _
                  refine XS.goto X40.here hx rfl (pc0 := 130) (pc' := 134) rfl (hb hby at_130) (by decide) (by decide) ?_
                  have qms0_134 : ms0_134 = (1 : Int32) := by rw [hms0_134, if_pos hc126]
                  rw [qms0_134] at k
                  exact k
                · show Steps p.tables e below (T40.setTop (mkF m 126 #[.val (.long p0), .second, .val (.long p1), .second, .val (.int p2), .val (.int p3), .val (.int p4), .val (.long ms0_12), .second, .val (.int ms0_28), .val (.int v10_36), .val (.ref r_5), .val (.ref r_7), .val (.ref b10), .val (.ref b15), .val (.int ms0_103)] [(.int ms0_103), (.int (f_12e2 ms0_28 p2 cs_ (own_g ms0_12) (own_g p0)))])) _
                  refine XS.icmpYes X40.here hx rfl (pc0 := 126) (pc' := 133) rfl (hb hby at_126) rfl (feq hc126).2 (by decide) (by decide) ?_
                  show Steps p.tables e below (T40.setTop (mkF m 133 #[.val (.long p0), .second, .val (.long p1), .second, .val (.int p2), .val (.int p3), .val (.int p4), .val (.long ms0_12), .second, .val (.int ms0_28), .val (.int v10_36), .val (.ref r_5), .val (.ref r_7), .val (.ref b10), .val (.ref b15), .val (.int ms0_103)] [])) _
                  refine XS.iconst X40.here hx rfl (hb hby at_133) ?_
                  have qms0_134 : ms0_134 = (0 : Int32) := by rw [hms0_134, if_neg hc126]
                  rw [qms0_134] at k
                  exact k
              have hnar : nar .boolean ms0_134 = ms0_134 := by rw [hms0_134]; (repeat' split) <;> rfl
              obtain ⟨fs, hr, hrun, hended, hW1, hW2, hW3, hsame⟩ := X40.leaveW hS16 (Nat.le_trans (Keep.refl T16.heap []).1 (Nat.le_of_eq (congrArg Array.size (e40 : T40.heap = T16.heap).symm))) (v := some (.int ms0_134)) (fun h => by rw [Bd.returns] at h; cases h) (BodyLoose.notSynchronized Bd)
              refine ⟨_, _, pre43 _ ?_, hrun, hended, _, _, rfl, ?_, ?_, hW1, hW2, hW3, hsame.mono (by decide) (by decide)⟩
              · show Steps p.tables e below (T40.setTop (mkF m 134 #[.val (.long p0), .second, .val (.long p1), .second, .val (.int p2), .val (.int p3), .val (.int p4), .val (.long ms0_12), .second, .val (.int ms0_28), .val (.int v10_36), .val (.ref r_5), .val (.ref r_7), .val (.ref b10), .val (.ref b15), .val (.int ms0_103)] [(.int ms0_134)])) _
                exact retN X40 hx (t := .boolean) Bd.returns (by simp) (hb hby at_134) (by rw [hnar]; exact hr)
              · show Q_0 Z p0 p1 p2 p3 p4 cs_ h0 n0 _ T40.heap _
                rw [e40]
                exact ⟨congrArg (fun z => some (Value.int z)) (by unfold f_0; dsimp only; (try rw [← hms0_12]); (try rw [← hms0_28]); (try rw [← hv10_36]); (try rw [← hms0_103]); (try rw [← hms0_134]); rw [if_pos hc66, if_pos hnn, if_neg hn0, if_neg hn1, if_pos hn2, if_pos hc114] : ms0_134 = f_0 p0 p1 p2 p3 p4 cs_), N40, trivial⟩
              · show own_H own_cs Z T40.vm T40.heap
                rw [e40]
                exact (hH16.go (B := (s.setVm T16.vm)) hZ wl X40.warmed (Keep.refl T16.heap []) all0)
            · obtain ⟨fs, hr, hrun, hended, hW1, hW2, hW3, hsame⟩ := X38.leaveW hS16 (Nat.le_trans (Keep.refl T16.heap []).1 (Nat.le_of_eq (congrArg Array.size (e38 : T38.heap = T16.heap).symm))) (v := some (.int (0 : Int32))) (fun h => by rw [Bd.returns] at h; cases h) (BodyLoose.notSynchronized Bd)
              refine ⟨_, _, pre39 _ ?_, hrun, hended, _, _, rfl, ?_, ?_, hW1, hW2, hW3, hsame.mono (by decide) (by decide)⟩
              · show Steps p.tables e below (T38.setTop (mkF m 114 #[.val (.long p0), .second, .val (.long p1), .second, .val (.int p2), .val (.int p3), .val (.int p4), .val (.long ms0_12), .second, .val (.int ms0_28), .val (.int v10_36), .val (.ref r_5), .val (.ref r_7), .val (.ref b10), .val (.ref b15), .val (.int ms0_103)] [(.int ms0_103), (.int (f_12e2 p2 ms0_28 cs_ (own_g p0) (own_g ms0_12)))])) _
                refine XS.icmpYes X38.here hx rfl (pc0 := 114) (pc' := 133) rfl (hb hby at_114) rfl (feq hc114).2 (by decide) (by decide) ?_
                show Steps p.tables e below (T38.setTop (mkF m 133 #[.val (.long p0), .second, .val (.long p1), .second, .val (.int p2), .val (.int p3), .val (.int p4), .val (.long ms0_12), .second, .val (.int ms0_28), .val (.int v10_36), .val (.ref r_5), .val (.ref r_7), .val (.ref b10), .val (.ref b15), .val (.int ms0_103)] [])) _
                refine XS.iconst X38.here hx rfl (hb hby at_133) ?_
                show Steps p.tables e below (T38.setTop (mkF m 134 #[.val (.long p0), .second, .val (.long p1), .second, .val (.int p2), .val (.int p3), .val (.int p4), .val (.long ms0_12), .second, .val (.int ms0_28), .val (.int v10_36), .val (.ref r_5), .val (.ref r_7), .val (.ref b10), .val (.ref b15), .val (.int ms0_103)] [(.int (0 : Int32))])) _
                exact retN X38 hx (t := .boolean) Bd.returns (by simp) (hb hby at_134) hr
              · show Q_0 Z p0 p1 p2 p3 p4 cs_ h0 n0 _ T38.heap _
                rw [e38]
                exact ⟨congrArg (fun z => some (Value.int z)) (by unfold f_0; dsimp only; (try rw [← hms0_12]); (try rw [← hms0_28]); (try rw [← hv10_36]); (try rw [← hms0_103]); rw [if_pos hc66, if_pos hnn, if_neg hn0, if_neg hn1, if_pos hn2, if_neg hc114] : (0 : Int32) = f_0 p0 p1 p2 p3 p4 cs_), N38, trivial⟩
              · show own_H own_cs Z T38.vm T38.heap
                rw [e38]
                exact (hH16.go (B := (s.setVm T16.vm)) hZ wl X38.warmed (Keep.refl T16.heap []) all0)
          · have hn3 : (own_n p0) = 3 := own_n3 hn0 hn1 hn2
            have Al44 := arr_w_5_16
            rw [hn3] at Al44
            have Am44 := arr_w_7_16
            rw [← hnn, hn3] at Am44
            obtain ⟨cq45, kq45, q45a, q45b, q45c⟩ := isOf hZ e18 exa_b10_16
            obtain ⟨_, _, ⟨T45, L45, k45, n45⟩, -, X45, ⟨Lc45, hQ45, l45, y45, z45⟩, st45⟩ := X18.virtualBack hx (y := (⟨"com/example/sequeue/sequeue/route/MessageQueue", "equals", "(Ljava/lang/Object;)Z"⟩ : MethodName)) (z := (⟨"com/example/sequeue/sequeue/route/MessageQueue", "equals", "(Ljava/lang/Object;)Z"⟩ : MethodName)) hown (mvT hZ (hw _ (List.mem_of_getElem? (i := 61) rfl))) (mvT hZ (hw _ (List.mem_of_getElem? (i := 62) rfl))) (notFace_of_selects (args := #[]) (mvT hZ (hw _ (List.mem_of_getElem? (i := 64) rfl)))) (mvT hZ (hw _ (List.mem_of_getElem? (i := 64) rfl))) (mvT hZ (hw _ (List.mem_of_getElem? (i := 63) rfl))) (by decide) (backOf (W := 0) (rm_12e3 l Z a0 hw [] b10 b15 r_5 p2 r_7 ms0_28 cs_ w_5 w_7 (own_g p0) (own_g ms0_12) T16.heap n0 Z16 ne_b10_b15 Q16_0 fld_b10_brokerName_16 fld_b10_queueId_16 Q16_1 Q16_2 ne_r_5_r_7 exa_r_5_16 exa_r_7_16 sta_java_lang_String_COMPACT_STRINGS_16 hcs fld_r_5_value_16 fld_r_5_coder_16 fld_r_7_value_16 fld_r_7_coder_16 Al44 Am44) hZ (hw _ (List.mem_of_getElem? (i := 65) rfl)) (hw _ (List.mem_of_getElem? (i := 41) rfl)) (by decide) (by decide)) q45a q45c (g := (mkF m 109 #[.val (.long p0), .second, .val (.long p1), .second, .val (.int p2), .val (.int p3), .val (.int p4), .val (.long ms0_12), .second, .val (.int ms0_28), .val (.int v10_36), .val (.ref r_5), .val (.ref r_7), .val (.ref b10), .val (.ref b15), .val (.int ms0_103)] [(.ref b15), (.ref b10)])) rfl (by rw [hml]; rfl) (Steps.refl _) (argsL := [(.ref b15)]) (rest := []) (lenOf pd_7 rfl) rfl (by show 2 * 0 + _ ≤ _; exact Nat.le_of_eq rfl) (hb hby at_109) (fun _ _ => ⟨rfl, e18, (by decide : 18 + 0 ≤ _), (by decide : 132 + 0 ≤ _)⟩)
            dsimp only [Pt.U, Pt.locs, Pt.cells, Pt.slots] at X45 l45 y45 z45 st45 hQ45
            rw [l45, y45, z45] at X45
            obtain ⟨rfl, N45q, e45⟩ := hQ45
            have N45 := Fr.app N18 N45q
            have pre46 : ∀ t, Steps p.tables e below (T45.setTop (mkF m 114 #[.val (.long p0), .second, .val (.long p1), .second, .val (.int p2), .val (.int p3), .val (.int p4), .val (.long ms0_12), .second, .val (.int ms0_28), .val (.int v10_36), .val (.ref r_5), .val (.ref r_7), .val (.ref b10), .val (.ref b15), .val (.int ms0_103)] [(.int ms0_103), (.int (f_12e3 p2 ms0_28 cs_ (own_g p0) (own_g ms0_12)))])) t → Steps p.tables e below (s₁.setTop (entryFrame m #[(.long p0), (.long p1), (.int p2), (.int p3), (.int p4)] maxLocals)) t := by
              intro t k
              refine pre22 t ?_
              show Steps p.tables e below (T18.setTop (mkF m 109 #[.val (.long p0), .second, .val (.long p1), .second, .val (.int p2), .val (.int p3), .val (.int p4), .val (.long ms0_12), .second, .val (.int ms0_28), .val (.int v10_36), .val (.ref r_5), .val (.ref r_7), .val (.ref b10), .val (.ref b15), .val (.int ms0_103)] [(.ref b15), (.ref b10)])) _
              refine st45.trans ?_
              show Steps p.tables e below (T45.setTop (mkF m 112 #[.val (.long p0), .second, .val (.long p1), .second, .val (.int p2), .val (.int p3), .val (.int p4), .val (.long ms0_12), .second, .val (.int ms0_28), .val (.int v10_36), .val (.ref r_5), .val (.ref r_7), .val (.ref b10), .val (.ref b15), .val (.int ms0_103)] [(.int (f_12e3 p2 ms0_28 cs_ (own_g p0) (own_g ms0_12)))])) _
              refine XS.iload X45.here hx rfl (hb hby at_112) rfl  ?_
              exact k
            by_cases hc114 : (f_12e3 p2 ms0_28 cs_ (own_g p0) (own_g ms0_12)) = ms0_103
            · have pre48 : ∀ t, Steps p.tables e below (T45.setTop (mkF m 121 #[.val (.long p0), .second, .val (.long p1), .second, .val (.int p2), .val (.int p3), .val (.int p4), .val (.long ms0_12), .second, .val (.int ms0_28), .val (.int v10_36), .val (.ref r_5), .val (.ref r_7), .val (.ref b10), .val (.ref b15), .val (.int ms0_103)] [(.ref b10), (.ref b15)])) t → Steps p.tables e below (s₁.setTop (entryFrame m #[(.long p0), (.long p1), (.int p2), (.int p3), (.int p4)] maxLocals)) t := by
                intro t k
                refine pre46 t ?_
                show Steps p.tables e below (T45.setTop (mkF m 114 #[.val (.long p0), .second, .val (.long p1), .second, .val (.int p2), .val (.int p3), .val (.int p4), .val (.long ms0_12), .second, .val (.int ms0_28), .val (.int v10_36), .val (.ref r_5), .val (.ref r_7), .val (.ref b10), .val (.ref b15), .val (.int ms0_103)] [(.int ms0_103), (.int (f_12e3 p2 ms0_28 cs_ (own_g p0) (own_g ms0_12)))])) _
                refine XS.icmpNo X45.here hx rfl (hb hby at_114) rfl (teq hc114).2 ?_
                show Steps p.tables e below (T45.setTop (mkF m 117 #[.val (.long p0), .second, .val (.long p1), .second, .val (.int p2), .val (.int p3), .val (.int p4), .val (.long ms0_12), .second, .val (.int ms0_28), .val (.int v10_36), .val (.ref r_5), .val (.ref r_7), .val (.ref b10), .val (.ref b15), .val (.int ms0_103)] [])) _
                refine XS.aload X45.here hx rfl (hb hby at_117) rfl rfl ?_
                show Steps p.tables e below (T45.setTop (mkF m 119 #[.val (.long p0), .second, .val (.long p1), .second, .val (.int p2), .val (.int p3), .val (.int p4), .val (.long ms0_12), .second, .val (.int ms0_28), .val (.int v10_36), .val (.ref r_5), .val (.ref r_7), .val (.ref b10), .val (.ref b15), .val (.int ms0_103)] [(.ref b15)])) _
                refine XS.aload X45.here hx rfl (hb hby at_119) rfl rfl ?_
                exact k
              obtain ⟨cq47, kq47, q47a, q47b, q47c⟩ := isOf hZ e45 Q16_0
              obtain ⟨_, _, ⟨T47, L47, k47, n47⟩, -, X47, ⟨Lc47, hQ47, l47, y47, z47⟩, st47⟩ := X45.virtualBack hx (y := (⟨"com/example/sequeue/sequeue/route/MessageQueue", "equals", "(Ljava/lang/Object;)Z"⟩ : MethodName)) (z := (⟨"com/example/sequeue/sequeue/route/MessageQueue", "equals", "(Ljava/lang/Object;)Z"⟩ : MethodName)) hown (mvT hZ (hw _ (List.mem_of_getElem? (i := 61) rfl))) (mvT hZ (hw _ (List.mem_of_getElem? (i := 62) rfl))) (notFace_of_selects (args := #[]) (mvT hZ (hw _ (List.mem_of_getElem? (i := 64) rfl)))) (mvT hZ (hw _ (List.mem_of_getElem? (i := 64) rfl))) (mvT hZ (hw _ (List.mem_of_getElem? (i := 63) rfl))) (by decide) (backOf (W := 0) (rm_12e3 l Z a0 hw [] b15 b10 r_7 ms0_28 r_5 p2 cs_ w_7 w_5 (own_g ms0_12) (own_g p0) T16.heap n0 Z16 ne_b10_b15.symm exa_b10_16 Q16_1 Q16_2 fld_b10_brokerName_16 fld_b10_queueId_16 ne_r_5_r_7.symm exa_r_7_16 exa_r_5_16 sta_java_lang_String_COMPACT_STRINGS_16 hcs fld_r_7_value_16 fld_r_7_coder_16 fld_r_5_value_16 fld_r_5_coder_16 Am44 Al44) hZ (hw _ (List.mem_of_getElem? (i := 65) rfl)) (hw _ (List.mem_of_getElem? (i := 41) rfl)) (by decide) (by decide)) q47a q47c (g := (mkF m 121 #[.val (.long p0), .second, .val (.long p1), .second, .val (.int p2), .val (.int p3), .val (.int p4), .val (.long ms0_12), .second, .val (.int ms0_28), .val (.int v10_36), .val (.ref r_5), .val (.ref r_7), .val (.ref b10), .val (.ref b15), .val (.int ms0_103)] [(.ref b10), (.ref b15)])) rfl (by rw [hml]; rfl) (Steps.refl _) (argsL := [(.ref b10)]) (rest := []) (lenOf pd_7 rfl) rfl (by show 2 * 0 + _ ≤ _; exact Nat.le_of_eq rfl) (hb hby at_121) (fun _ _ => ⟨rfl, e45, (by decide : 18 + 0 ≤ _), (by decide : 132 + 0 ≤ _)⟩)
              dsimp only [Pt.U, Pt.locs, Pt.cells, Pt.slots] at X47 l47 y47 z47 st47 hQ47
              rw [l47, y47, z47] at X47
              obtain ⟨rfl, N47q, e47⟩ := hQ47
              have N47 := Fr.app N45 N47q
              have pre49 : ∀ t, Steps p.tables e below (T47.setTop (mkF m 126 #[.val (.long p0), .second, .val (.long p1), .second, .val (.int p2), .val (.int p3), .val (.int p4), .val (.long ms0_12), .second, .val (.int ms0_28), .val (.int v10_36), .val (.ref r_5), .val (.ref r_7), .val (.ref b10), .val (.ref b15), .val (.int ms0_103)] [(.int ms0_103), (.int (f_12e3 ms0_28 p2 cs_ (own_g ms0_12) (own_g p0)))])) t → Steps p.tables e below (s₁.setTop (entryFrame m #[(.long p0), (.long p1), (.int p2), (.int p3), (.int p4)] maxLocals)) t := by
                intro t k
                refine pre48 t ?_
                show Steps p.tables e below (T45.setTop (mkF m 121 #[.val (.long p0), .second, .val (.long p1), .second, .val (.int p2), .val (.int p3), .val (.int p4), .val (.long ms0_12), .second, .val (.int ms0_28), .val (.int v10_36), .val (.ref r_5), .val (.ref r_7), .val (.ref b10), .val (.ref b15), .val (.int ms0_103)] [(.ref b10), (.ref b15)])) _
                refine st47.trans ?_
                show Steps p.tables e below (T47.setTop (mkF m 124 #[.val (.long p0), .second, .val (.long p1), .second, .val (.int p2), .val (.int p3), .val (.int p4), .val (.long ms0_12), .second, .val (.int ms0_28), .val (.int v10_36), .val (.ref r_5), .val (.ref r_7), .val (.ref b10), .val (.ref b15), .val (.int ms0_103)] [(.int (f_12e3 ms0_28 p2 cs_ (own_g ms0_12) (own_g p0)))])) _
                refine XS.iload X47.here hx rfl (hb hby at_124) rfl  ?_
                exact k
              obtain ⟨ms0_134, hms0_134⟩ : ∃ z : Int32, z = (if (f_12e3 ms0_28 p2 cs_ (own_g ms0_12) (own_g p0)) = ms0_103 then (1 : Int32) else (0 : Int32)) := ⟨_, rfl⟩
              have pre50 : ∀ t, Steps p.tables e below (T47.setTop (mkF m 134 #[.val (.long p0), .second, .val (.long p1), .second, .val (.int p2), .val (.int p3), .val (.int p4), .val (.long ms0_12), .second, .val (.int ms0_28), .val (.int v10_36), .val (.ref r_5), .val (.ref r_7), .val (.ref b10), .val (.ref b15), .val (.int ms0_103)] [(.int ms0_134)])) t → Steps p.tables e below (s₁.setTop (entryFrame m #[(.long p0), (.long p1), (.int p2), (.int p3), (.int p4)] maxLocals)) t := by
                intro t k
                refine pre49 t ?_
                by_cases hc126 : (f_12e3 ms0_28 p2 cs_ (own_g ms0_12) (own_g p0)) = ms0_103
                · show Steps p.tables e below (T47.setTop (mkF m 126 #[.val (.long p0), .second, .val (.long p1), .second, .val (.int p2), .val (.int p3), .val (.int p4), .val (.long ms0_12), .second, .val (.int ms0_28), .val (.int v10_36), .val (.ref r_5), .val (.ref r_7), .val (.ref b10), .val (.ref b15), .val (.int ms0_103)] [(.int ms0_103), (.int (f_12e3 ms0_28 p2 cs_ (own_g ms0_12) (own_g p0)))])) _
                  refine XS.icmpNo X47.here hx rfl (hb hby at_126) rfl (teq hc126).2 ?_
                  show Steps p.tables e below (T47.setTop (mkF m 129 #[.val (.long p0), .second, .val (.long p1), .second, .val (.int p2), .val (.int p3), .val (.int p4), .val (.long ms0_12), .second, .val (.int ms0_28), .val (.int v10_36), .val (.ref r_5), .val (.ref r_7), .val (.ref b10), .val (.ref b15), .val (.int ms0_103)] [])) _
                  refine XS.iconst X47.here hx rfl (hb hby at_129) ?_
                  show Steps p.tables e below (T47.setTop (mkF m 130 #[.val (.long p0), .second, .val (.long p1), .second, .val (.int p2), .val (.int p3), .val (.int p4), .val (.long ms0_12), .second, .val (.int ms0_28), .val (.int v10_36), .val (.ref r_5), .val (.ref r_7), .val (.ref b10), .val (.ref b15), .val (.int ms0_103)] [(.int (1 : Int32))])) _
                  refine XS.goto X47.here hx rfl (pc0 := 130) (pc' := 134) rfl (hb hby at_130) (by decide) (by decide) ?_
                  have qms0_134 : ms0_134 = (1 : Int32) := by rw [hms0_134, if_pos hc126]
                  rw [qms0_134] at k
                  exact k
                · show Steps p.tables e below (T47.setTop (mkF m 126 #[.val (.long p0), .second, .val (.long p1), .second, .val (.int p2), .val (.int p3), .val (.int p4), .val (.long ms0_12), .second, .val (.int ms0_28), .val (.int v10_36), .val (.ref r_5), .val (.ref r_7), .val (.ref b10), .val (.ref b15), .val (.int ms0_103)] [(.int ms0_103), (.int (f_12e3 ms0_28 p2 cs_ (own_g ms0_12) (own_g p0)))])) _
                  refine XS.icmpYes X47.here hx rfl (pc0 := 126) (pc' := 133) rfl (hb hby at_126) rfl (feq hc126).2 (by decide) (by decide) ?_
                  show Steps p.tables e below (T47.setTop (mkF m 133 #[.val (.long p0), .second, .val (.long p1), .second, .val (.int p2), .val (.int p3), .val (.int p4), .val (.long ms0_12), .second, .val (.int ms0_28), .val (.int v10_36), .val (.ref r_5), .val (.ref r_7), .val (.ref b10), .val (.ref b15), .val (.int ms0_103)] [])) _
                  refine XS.iconst X47.here hx rfl (hb hby at_133) ?_
                  have qms0_134 : ms0_134 = (0 : Int32) := by rw [hms0_134, if_neg hc126]
                  rw [qms0_134] at k
                  exact k
              have hnar : nar .boolean ms0_134 = ms0_134 := by rw [hms0_134]; (repeat' split) <;> rfl
              obtain ⟨fs, hr, hrun, hended, hW1, hW2, hW3, hsame⟩ := X47.leaveW hS16 (Nat.le_trans (Keep.refl T16.heap []).1 (Nat.le_of_eq (congrArg Array.size (e47 : T47.heap = T16.heap).symm))) (v := some (.int ms0_134)) (fun h => by rw [Bd.returns] at h; cases h) (BodyLoose.notSynchronized Bd)
              refine ⟨_, _, pre50 _ ?_, hrun, hended, _, _, rfl, ?_, ?_, hW1, hW2, hW3, hsame.mono (by decide) (by decide)⟩
              · show Steps p.tables e below (T47.setTop (mkF m 134 #[.val (.long p0), .second, .val (.long p1), .second, .val (.int p2), .val (.int p3), .val (.int p4), .val (.long ms0_12), .second, .val (.int ms0_28), .val (.int v10_36), .val (.ref r_5), .val (.ref r_7), .val (.ref b10), .val (.ref b15), .val (.int ms0_103)] [(.int ms0_134)])) _
                exact retN X47 hx (t := .boolean) Bd.returns (by simp) (hb hby at_134) (by rw [hnar]; exact hr)
              · show Q_0 Z p0 p1 p2 p3 p4 cs_ h0 n0 _ T47.heap _
                rw [e47]
                exact ⟨congrArg (fun z => some (Value.int z)) (by unfold f_0; dsimp only; (try rw [← hms0_12]); (try rw [← hms0_28]); (try rw [← hv10_36]); (try rw [← hms0_103]); (try rw [← hms0_134]); rw [if_pos hc66, if_pos hnn, if_neg hn0, if_neg hn1, if_neg hn2, if_pos hc114] : ms0_134 = f_0 p0 p1 p2 p3 p4 cs_), N47, trivial⟩
              · show own_H own_cs Z T47.vm T47.heap
                rw [e47]
                exact (hH16.go (B := (s.setVm T16.vm)) hZ wl X47.warmed (Keep.refl T16.heap []) all0)
            · obtain ⟨fs, hr, hrun, hended, hW1, hW2, hW3, hsame⟩ := X45.leaveW hS16 (Nat.le_trans (Keep.refl T16.heap []).1 (Nat.le_of_eq (congrArg Array.size (e45 : T45.heap = T16.heap).symm))) (v := some (.int (0 : Int32))) (fun h => by rw [Bd.returns] at h; cases h) (BodyLoose.notSynchronized Bd)
              refine ⟨_, _, pre46 _ ?_, hrun, hended, _, _, rfl, ?_, ?_, hW1, hW2, hW3, hsame.mono (by decide) (by decide)⟩
              · show Steps p.tables e below (T45.setTop (mkF m 114 #[.val (.long p0), .second, .val (.long p1), .second, .val (.int p2), .val (.int p3), .val (.int p4), .val (.long ms0_12), .second, .val (.int ms0_28), .val (.int v10_36), .val (.ref r_5), .val (.ref r_7), .val (.ref b10), .val (.ref b15), .val (.int ms0_103)] [(.int ms0_103), (.int (f_12e3 p2 ms0_28 cs_ (own_g p0) (own_g ms0_12)))])) _
                refine XS.icmpYes X45.here hx rfl (pc0 := 114) (pc' := 133) rfl (hb hby at_114) rfl (feq hc114).2 (by decide) (by decide) ?_
                show Steps p.tables e below (T45.setTop (mkF m 133 #[.val (.long p0), .second, .val (.long p1), .second, .val (.int p2), .val (.int p3), .val (.int p4), .val (.long ms0_12), .second, .val (.int ms0_28), .val (.int v10_36), .val (.ref r_5), .val (.ref r_7), .val (.ref b10), .val (.ref b15), .val (.int ms0_103)] [])) _
                refine XS.iconst X45.here hx rfl (hb hby at_133) ?_
                show Steps p.tables e below (T45.setTop (mkF m 134 #[.val (.long p0), .second, .val (.long p1), .second, .val (.int p2), .val (.int p3), .val (.int p4), .val (.long ms0_12), .second, .val (.int ms0_28), .val (.int v10_36), .val (.ref r_5), .val (.ref r_7), .val (.ref b10), .val (.ref b15), .val (.int ms0_103)] [(.int (0 : Int32))])) _
                exact retN X45 hx (t := .boolean) Bd.returns (by simp) (hb hby at_134) hr
              · show Q_0 Z p0 p1 p2 p3 p4 cs_ h0 n0 _ T45.heap _
                rw [e45]
                exact ⟨congrArg (fun z => some (Value.int z)) (by unfold f_0; dsimp only; (try rw [← hms0_12]); (try rw [← hms0_28]); (try rw [← hv10_36]); (try rw [← hms0_103]); rw [if_pos hc66, if_pos hnn, if_neg hn0, if_neg hn1, if_neg hn2, if_neg hc114] : (0 : Int32) = f_0 p0 p1 p2 p3 p4 cs_), N45, trivial⟩
              · show own_H own_cs Z T45.vm T45.heap
                rw [e45]
                exact (hH16.go (B := (s.setVm T16.vm)) hZ wl X45.warmed (Keep.refl T16.heap []) all0)
    · obtain ⟨cq51, kq51, q51a, q51b, q51c⟩ := isOf hZ e18 exa_b10_16
      obtain ⟨_, _, ⟨T51, L51, k51, n51⟩, -, X51, ⟨Lc51, hQ51, l51, y51, z51⟩, st51⟩ := X18.virtualBack hx (y := (⟨"com/example/sequeue/sequeue/route/MessageQueue", "equals", "(Ljava/lang/Object;)Z"⟩ : MethodName)) (z := (⟨"com/example/sequeue/sequeue/route/MessageQueue", "equals", "(Ljava/lang/Object;)Z"⟩ : MethodName)) hown (mvT hZ (hw _ (List.mem_of_getElem? (i := 61) rfl))) (mvT hZ (hw _ (List.mem_of_getElem? (i := 62) rfl))) (notFace_of_selects (args := #[]) (mvT hZ (hw _ (List.mem_of_getElem? (i := 64) rfl)))) (mvT hZ (hw _ (List.mem_of_getElem? (i := 64) rfl))) (mvT hZ (hw _ (List.mem_of_getElem? (i := 63) rfl))) (by decide) (backOf (W := 0) (rm_12ed l Z a0 hw [] b10 b15 r_5 p2 r_7 ms0_28 cs_ w_5 w_7 (own_n p0) (own_g p0) (own_n ms0_12) (own_g ms0_12) T16.heap n0 Z16 ne_b10_b15 Q16_0 fld_b10_brokerName_16 fld_b10_queueId_16 Q16_1 Q16_2 ne_r_5_r_7 exa_r_5_16 exa_r_7_16 sta_java_lang_String_COMPACT_STRINGS_16 hcs fld_r_5_value_16 fld_r_5_coder_16 fld_r_7_value_16 fld_r_7_coder_16 arr_w_5_16 arr_w_7_16 (own_nne hnn)) hZ (hw _ (List.mem_of_getElem? (i := 65) rfl)) (hw _ (List.mem_of_getElem? (i := 41) rfl)) (by decide) (by decide)) q51a q51c (g := (mkF m 109 #[.val (.long p0), .second, .val (.long p1), .second, .val (.int p2), .val (.int p3), .val (.int p4), .val (.long ms0_12), .second, .val (.int ms0_28), .val (.int v10_36), .val (.ref r_5), .val (.ref r_7), .val (.ref b10), .val (.ref b15), .val (.int ms0_103)] [(.ref b15), (.ref b10)])) rfl (by rw [hml]; rfl) (Steps.refl _) (argsL := [(.ref b15)]) (rest := []) (lenOf pd_7 rfl) rfl (by show 2 * 0 + _ ≤ _; exact Nat.le_of_eq rfl) (hb hby at_109) (fun _ _ => ⟨rfl, e18, (by decide : 18 + 0 ≤ _), (by decide : 132 + 0 ≤ _)⟩)
      dsimp only [Pt.U, Pt.locs, Pt.cells, Pt.slots] at X51 l51 y51 z51 st51 hQ51
      rw [l51, y51, z51] at X51
      obtain ⟨rfl, N51q, e51⟩ := hQ51
      have N51 := Fr.app N18 N51q
      have pre52 : ∀ t, Steps p.tables e below (T51.setTop (mkF m 114 #[.val (.long p0), .second, .val (.long p1), .second, .val (.int p2), .val (.int p3), .val (.int p4), .val (.long ms0_12), .second, .val (.int ms0_28), .val (.int v10_36), .val (.ref r_5), .val (.ref r_7), .val (.ref b10), .val (.ref b15), .val (.int ms0_103)] [(.int ms0_103), (.int (f_12ed p2 ms0_28 cs_ (own_n p0) (own_g p0) (own_n ms0_12) (own_g ms0_12)))])) t → Steps p.tables e below (s₁.setTop (entryFrame m #[(.long p0), (.long p1), (.int p2), (.int p3), (.int p4)] maxLocals)) t := by
        intro t k
        refine pre22 t ?_
        show Steps p.tables e below (T18.setTop (mkF m 109 #[.val (.long p0), .second, .val (.long p1), .second, .val (.int p2), .val (.int p3), .val (.int p4), .val (.long ms0_12), .second, .val (.int ms0_28), .val (.int v10_36), .val (.ref r_5), .val (.ref r_7), .val (.ref b10), .val (.ref b15), .val (.int ms0_103)] [(.ref b15), (.ref b10)])) _
        refine st51.trans ?_
        show Steps p.tables e below (T51.setTop (mkF m 112 #[.val (.long p0), .second, .val (.long p1), .second, .val (.int p2), .val (.int p3), .val (.int p4), .val (.long ms0_12), .second, .val (.int ms0_28), .val (.int v10_36), .val (.ref r_5), .val (.ref r_7), .val (.ref b10), .val (.ref b15), .val (.int ms0_103)] [(.int (f_12ed p2 ms0_28 cs_ (own_n p0) (own_g p0) (own_n ms0_12) (own_g ms0_12)))])) _
        refine XS.iload X51.here hx rfl (hb hby at_112) rfl  ?_
        exact k
      by_cases hc114 : (f_12ed p2 ms0_28 cs_ (own_n p0) (own_g p0) (own_n ms0_12) (own_g ms0_12)) = ms0_103
      · have pre54 : ∀ t, Steps p.tables e below (T51.setTop (mkF m 121 #[.val (.long p0), .second, .val (.long p1), .second, .val (.int p2), .val (.int p3), .val (.int p4), .val (.long ms0_12), .second, .val (.int ms0_28), .val (.int v10_36), .val (.ref r_5), .val (.ref r_7), .val (.ref b10), .val (.ref b15), .val (.int ms0_103)] [(.ref b10), (.ref b15)])) t → Steps p.tables e below (s₁.setTop (entryFrame m #[(.long p0), (.long p1), (.int p2), (.int p3), (.int p4)] maxLocals)) t := by
          intro t k
          refine pre52 t ?_
          show Steps p.tables e below (T51.setTop (mkF m 114 #[.val (.long p0), .second, .val (.long p1), .second, .val (.int p2), .val (.int p3), .val (.int p4), .val (.long ms0_12), .second, .val (.int ms0_28), .val (.int v10_36), .val (.ref r_5), .val (.ref r_7), .val (.ref b10), .val (.ref b15), .val (.int ms0_103)] [(.int ms0_103), (.int (f_12ed p2 ms0_28 cs_ (own_n p0) (own_g p0) (own_n ms0_12) (own_g ms0_12)))])) _
          refine XS.icmpNo X51.here hx rfl (hb hby at_114) rfl (teq hc114).2 ?_
          show Steps p.tables e below (T51.setTop (mkF m 117 #[.val (.long p0), .second, .val (.long p1), .second, .val (.int p2), .val (.int p3), .val (.int p4), .val (.long ms0_12), .second, .val (.int ms0_28), .val (.int v10_36), .val (.ref r_5), .val (.ref r_7), .val (.ref b10), .val (.ref b15), .val (.int ms0_103)] [])) _
          refine XS.aload X51.here hx rfl (hb hby at_117) rfl rfl ?_
          show Steps p.tables e below (T51.setTop (mkF m 119 #[.val (.long p0), .second, .val (.long p1), .second, .val (.int p2), .val (.int p3), .val (.int p4), .val (.long ms0_12), .second, .val (.int ms0_28), .val (.int v10_36), .val (.ref r_5), .val (.ref r_7), .val (.ref b10), .val (.ref b15), .val (.int ms0_103)] [(.ref b15)])) _
          refine XS.aload X51.here hx rfl (hb hby at_119) rfl rfl ?_
          exact k
        obtain ⟨cq53, kq53, q53a, q53b, q53c⟩ := isOf hZ e51 Q16_0
        obtain ⟨_, _, ⟨T53, L53, k53, n53⟩, -, X53, ⟨Lc53, hQ53, l53, y53, z53⟩, st53⟩ := X51.virtualBack hx (y := (⟨"com/example/sequeue/sequeue/route/MessageQueue", "equals", "(Ljava/lang/Object;)Z"⟩ : MethodName)) (z := (⟨"com/example/sequeue/sequeue/route/MessageQueue", "equals", "(Ljava/lang/Object;)Z"⟩ : MethodName)) hown (mvT hZ (hw _ (List.mem_of_getElem? (i := 61) rfl))) (mvT hZ (hw _ (List.mem_of_getElem? (i := 62) rfl))) (notFace_of_selects (args := #[]) (mvT hZ (hw _ (List.mem_of_getElem? (i := 64) rfl)))) (mvT hZ (hw _ (List.mem_of_getElem? (i := 64) rfl))) (mvT hZ (hw _ (List.mem_of_getElem? (i := 63) rfl))) (by decide) (backOf (W := 0) (rm_12ed l Z a0 hw [] b15 b10 r_7 ms0_28 r_5 p2 cs_ w_7 w_5 (own_n ms0_12) (own_g ms0_12) (own_n p0) (own_g p0) T16.heap n0 Z16 ne_b10_b15.symm exa_b10_16 Q16_1 Q16_2 fld_b10_brokerName_16 fld_b10_queueId_16 ne_r_5_r_7.symm exa_r_7_16 exa_r_5_16 sta_java_lang_String_COMPACT_STRINGS_16 hcs fld_r_7_value_16 fld_r_7_coder_16 fld_r_5_value_16 fld_r_5_coder_16 arr_w_7_16 arr_w_5_16 (own_nne (fun q => hnn q.symm))) hZ (hw _ (List.mem_of_getElem? (i := 65) rfl)) (hw _ (List.mem_of_getElem? (i := 41) rfl)) (by decide) (by decide)) q53a q53c (g := (mkF m 121 #[.val (.long p0), .second, .val (.long p1), .second, .val (.int p2), .val (.int p3), .val (.int p4), .val (.long ms0_12), .second, .val (.int ms0_28), .val (.int v10_36), .val (.ref r_5), .val (.ref r_7), .val (.ref b10), .val (.ref b15), .val (.int ms0_103)] [(.ref b10), (.ref b15)])) rfl (by rw [hml]; rfl) (Steps.refl _) (argsL := [(.ref b10)]) (rest := []) (lenOf pd_7 rfl) rfl (by show 2 * 0 + _ ≤ _; exact Nat.le_of_eq rfl) (hb hby at_121) (fun _ _ => ⟨rfl, e51, (by decide : 18 + 0 ≤ _), (by decide : 132 + 0 ≤ _)⟩)
        dsimp only [Pt.U, Pt.locs, Pt.cells, Pt.slots] at X53 l53 y53 z53 st53 hQ53
        rw [l53, y53, z53] at X53
        obtain ⟨rfl, N53q, e53⟩ := hQ53
        have N53 := Fr.app N51 N53q
        have pre55 : ∀ t, Steps p.tables e below (T53.setTop (mkF m 126 #[.val (.long p0), .second, .val (.long p1), .second, .val (.int p2), .val (.int p3), .val (.int p4), .val (.long ms0_12), .second, .val (.int ms0_28), .val (.int v10_36), .val (.ref r_5), .val (.ref r_7), .val (.ref b10), .val (.ref b15), .val (.int ms0_103)] [(.int ms0_103), (.int (f_12ed ms0_28 p2 cs_ (own_n ms0_12) (own_g ms0_12) (own_n p0) (own_g p0)))])) t → Steps p.tables e below (s₁.setTop (entryFrame m #[(.long p0), (.long p1), (.int p2), (.int p3), (.int p4)] maxLocals)) t := by
          intro t k
          refine pre54 t ?_
          show Steps p.tables e below (T51.setTop (mkF m 121 #[.val (.long p0), .second, .val (.long p1), .second, .val (.int p2), .val (.int p3), .val (.int p4), .val (.long ms0_12), .second, .val (.int ms0_28), .val (.int v10_36), .val (.ref r_5), .val (.ref r_7), .val (.ref b10), .val (.ref b15), .val (.int ms0_103)] [(.ref b10), (.ref b15)])) _
          refine st53.trans ?_
          show Steps p.tables e below (T53.setTop (mkF m 124 #[.val (.long p0), .second, .val (.long p1), .second, .val (.int p2), .val (.int p3), .val (.int p4), .val (.long ms0_12), .second, .val (.int ms0_28), .val (.int v10_36), .val (.ref r_5), .val (.ref r_7), .val (.ref b10), .val (.ref b15), .val (.int ms0_103)] [(.int (f_12ed ms0_28 p2 cs_ (own_n ms0_12) (own_g ms0_12) (own_n p0) (own_g p0)))])) _
          refine XS.iload X53.here hx rfl (hb hby at_124) rfl  ?_
          exact k
        obtain ⟨ms0_134, hms0_134⟩ : ∃ z : Int32, z = (if (f_12ed ms0_28 p2 cs_ (own_n ms0_12) (own_g ms0_12) (own_n p0) (own_g p0)) = ms0_103 then (1 : Int32) else (0 : Int32)) := ⟨_, rfl⟩
        have pre56 : ∀ t, Steps p.tables e below (T53.setTop (mkF m 134 #[.val (.long p0), .second, .val (.long p1), .second, .val (.int p2), .val (.int p3), .val (.int p4), .val (.long ms0_12), .second, .val (.int ms0_28), .val (.int v10_36), .val (.ref r_5), .val (.ref r_7), .val (.ref b10), .val (.ref b15), .val (.int ms0_103)] [(.int ms0_134)])) t → Steps p.tables e below (s₁.setTop (entryFrame m #[(.long p0), (.long p1), (.int p2), (.int p3), (.int p4)] maxLocals)) t := by
          intro t k
          refine pre55 t ?_
          by_cases hc126 : (f_12ed ms0_28 p2 cs_ (own_n ms0_12) (own_g ms0_12) (own_n p0) (own_g p0)) = ms0_103
          · show Steps p.tables e below (T53.setTop (mkF m 126 #[.val (.long p0), .second, .val (.long p1), .second, .val (.int p2), .val (.int p3), .val (.int p4), .val (.long ms0_12), .second, .val (.int ms0_28), .val (.int v10_36), .val (.ref r_5), .val (.ref r_7), .val (.ref b10), .val (.ref b15), .val (.int ms0_103)] [(.int ms0_103), (.int (f_12ed ms0_28 p2 cs_ (own_n ms0_12) (own_g ms0_12) (own_n p0) (own_g p0)))])) _
            refine XS.icmpNo X53.here hx rfl (hb hby at_126) rfl (teq hc126).2 ?_
            show Steps p.tables e below (T53.setTop (mkF m 129 #[.val (.long p0), .second, .val (.long p1), .second, .val (.int p2), .val (.int p3), .val (.int p4), .val (.long ms0_12), .second, .val (.int ms0_28), .val (.int v10_36), .val (.ref r_5), .val (.ref r_7), .val (.ref b10), .val (.ref b15), .val (.int ms0_103)] [])) _
            refine XS.iconst X53.here hx rfl (hb hby at_129) ?_
            show Steps p.tables e below (T53.setTop (mkF m 130 #[.val (.long p0), .second, .val (.long p1), .second, .val (.int p2), .val (.int p3), .val (.int p4), .val (.long ms0_12), .second, .val (.int ms0_28), .val (.int v10_36), .val (.ref r_5), .val (.ref r_7), .val (.ref b10), .val (.ref b15), .val (.int ms0_103)] [(.int (1 : Int32))])) _
            refine XS.goto X53.here hx rfl (pc0 := 130) (pc' := 134) rfl (hb hby at_130) (by decide) (by decide) ?_
            have qms0_134 : ms0_134 = (1 : Int32) := by rw [hms0_134, if_pos hc126]
            rw [qms0_134] at k
            exact k
          · show Steps p.tables e below (T53.setTop (mkF m 126 #[.val (.long p0), .second, .val (.long p1), .second, .val (.int p2), .val (.int p3), .val (.int p4), .val (.long ms0_12), .second, .val (.int ms0_28), .val (.int v10_36), .val (.ref r_5), .val (.ref r_7), .val (.ref b10), .val (.ref b15), .val (.int ms0_103)] [(.int ms0_103), (.int (f_12ed ms0_28 p2 cs_ (own_n ms0_12) (own_g ms0_12) (own_n p0) (own_g p0)))])) _
            refine XS.icmpYes X53.here hx rfl (pc0 := 126) (pc' := 133) rfl (hb hby at_126) rfl (feq hc126).2 (by decide) (by decide) ?_
            show Steps p.tables e below (T53.setTop (mkF m 133 #[.val (.long p0), .second, .val (.long p1), .second, .val (.int p2), .val (.int p3), .val (.int p4), .val (.long ms0_12), .second, .val (.int ms0_28), .val (.int v10_36), .val (.ref r_5), .val (.ref r_7), .val (.ref b10), .val (.ref b15), .val (.int ms0_103)] [])) _
            refine XS.iconst X53.here hx rfl (hb hby at_133) ?_
            have qms0_134 : ms0_134 = (0 : Int32) := by rw [hms0_134, if_neg hc126]
            rw [qms0_134] at k
            exact k
        have hnar : nar .boolean ms0_134 = ms0_134 := by rw [hms0_134]; (repeat' split) <;> rfl
        obtain ⟨fs, hr, hrun, hended, hW1, hW2, hW3, hsame⟩ := X53.leaveW hS16 (Nat.le_trans (Keep.refl T16.heap []).1 (Nat.le_of_eq (congrArg Array.size (e53 : T53.heap = T16.heap).symm))) (v := some (.int ms0_134)) (fun h => by rw [Bd.returns] at h; cases h) (BodyLoose.notSynchronized Bd)
        refine ⟨_, _, pre56 _ ?_, hrun, hended, _, _, rfl, ?_, ?_, hW1, hW2, hW3, hsame.mono (by decide) (by decide)⟩
        · show Steps p.tables e below (T53.setTop (mkF m 134 #[.val (.long p0), .second, .val (.long p1), .second, .val (.int p2), .val (.int p3), .val (.int p4), .val (.long ms0_12), .second, .val (.int ms0_28), .val (.int v10_36), .val (.ref r_5), .val (.ref r_7), .val (.ref b10), .val (.ref b15), .val (.int ms0_103)] [(.int ms0_134)])) _
          exact retN X53 hx (t := .boolean) Bd.returns (by simp) (hb hby at_134) (by rw [hnar]; exact hr)
        · show Q_0 Z p0 p1 p2 p3 p4 cs_ h0 n0 _ T53.heap _
          rw [e53]
          exact ⟨congrArg (fun z => some (Value.int z)) (by unfold f_0; dsimp only; (try rw [← hms0_12]); (try rw [← hms0_28]); (try rw [← hv10_36]); (try rw [← hms0_103]); (try rw [← hms0_134]); rw [if_pos hc66, if_neg hnn, if_pos hc114] : ms0_134 = f_0 p0 p1 p2 p3 p4 cs_), N53, trivial⟩
        · show own_H own_cs Z T53.vm T53.heap
          rw [e53]
          exact (hH16.go (B := (s.setVm T16.vm)) hZ wl X53.warmed (Keep.refl T16.heap []) all0)
      · obtain ⟨fs, hr, hrun, hended, hW1, hW2, hW3, hsame⟩ := X51.leaveW hS16 (Nat.le_trans (Keep.refl T16.heap []).1 (Nat.le_of_eq (congrArg Array.size (e51 : T51.heap = T16.heap).symm))) (v := some (.int (0 : Int32))) (fun h => by rw [Bd.returns] at h; cases h) (BodyLoose.notSynchronized Bd)
        refine ⟨_, _, pre52 _ ?_, hrun, hended, _, _, rfl, ?_, ?_, hW1, hW2, hW3, hsame.mono (by decide) (by decide)⟩
        · show Steps p.tables e below (T51.setTop (mkF m 114 #[.val (.long p0), .second, .val (.long p1), .second, .val (.int p2), .val (.int p3), .val (.int p4), .val (.long ms0_12), .second, .val (.int ms0_28), .val (.int v10_36), .val (.ref r_5), .val (.ref r_7), .val (.ref b10), .val (.ref b15), .val (.int ms0_103)] [(.int ms0_103), (.int (f_12ed p2 ms0_28 cs_ (own_n p0) (own_g p0) (own_n ms0_12) (own_g ms0_12)))])) _
          refine XS.icmpYes X51.here hx rfl (pc0 := 114) (pc' := 133) rfl (hb hby at_114) rfl (feq hc114).2 (by decide) (by decide) ?_
          show Steps p.tables e below (T51.setTop (mkF m 133 #[.val (.long p0), .second, .val (.long p1), .second, .val (.int p2), .val (.int p3), .val (.int p4), .val (.long ms0_12), .second, .val (.int ms0_28), .val (.int v10_36), .val (.ref r_5), .val (.ref r_7), .val (.ref b10), .val (.ref b15), .val (.int ms0_103)] [])) _
          refine XS.iconst X51.here hx rfl (hb hby at_133) ?_
          show Steps p.tables e below (T51.setTop (mkF m 134 #[.val (.long p0), .second, .val (.long p1), .second, .val (.int p2), .val (.int p3), .val (.int p4), .val (.long ms0_12), .second, .val (.int ms0_28), .val (.int v10_36), .val (.ref r_5), .val (.ref r_7), .val (.ref b10), .val (.ref b15), .val (.int ms0_103)] [(.int (0 : Int32))])) _
          exact retN X51 hx (t := .boolean) Bd.returns (by simp) (hb hby at_134) hr
        · show Q_0 Z p0 p1 p2 p3 p4 cs_ h0 n0 _ T51.heap _
          rw [e51]
          exact ⟨congrArg (fun z => some (Value.int z)) (by unfold f_0; dsimp only; (try rw [← hms0_12]); (try rw [← hms0_28]); (try rw [← hv10_36]); (try rw [← hms0_103]); rw [if_pos hc66, if_neg hnn, if_neg hc114] : (0 : Int32) = f_0 p0 p1 p2 p3 p4 cs_), N51, trivial⟩
        · show own_H own_cs Z T51.vm T51.heap
          rw [e51]
          exact (hH16.go (B := (s.setVm T16.vm)) hZ wl X51.warmed (Keep.refl T16.heap []) all0)
  · have pre57 : ∀ t, Steps p.tables e below (T11.setTop (mkF m 138 #[.val (.long p0), .second, .val (.long p1), .second, .val (.int p2), .val (.int p3), .val (.int p4), .val (.long ms0_12), .second, .val (.int ms0_28), .val (.int v10_36), .val (.ref r_5), .val (.ref r_7), .val (.ref b10), .unset, .unset] [(.int (1 : Int32)), (.int v10_36)])) t → Steps p.tables e below (s₁.setTop (entryFrame m #[(.long p0), (.long p1), (.int p2), (.int p3), (.int p4)] maxLocals)) t := by
      intro t k
      refine pre13 t ?_
      show Steps p.tables e below (T11.setTop (mkF m 66 #[.val (.long p0), .second, .val (.long p1), .second, .val (.int p2), .val (.int p3), .val (.int p4), .val (.long ms0_12), .second, .val (.int ms0_28), .val (.int v10_36), .val (.ref r_5), .val (.ref r_7), .val (.ref b10), .unset, .unset] [(.int v10_36)])) _
      refine XS.ifYes X11.here hx rfl (pc0 := 66) (pc' := 135) rfl (hb hby at_66) rfl ((if0 _ _).trans (feq hc66).2) (by decide) (by decide) ?_
      show Steps p.tables e below (T11.setTop (mkF m 135 #[.val (.long p0), .second, .val (.long p1), .second, .val (.int p2), .val (.int p3), .val (.int p4), .val (.long ms0_12), .second, .val (.int ms0_28), .val (.int v10_36), .val (.ref r_5), .val (.ref r_7), .val (.ref b10), .unset, .unset] [])) _
      refine XS.iload X11.here hx rfl (hb hby at_135) rfl  ?_
      show Steps p.tables e below (T11.setTop (mkF m 137 #[.val (.long p0), .second, .val (.long p1), .second, .val (.int p2), .val (.int p3), .val (.int p4), .val (.long ms0_12), .second, .val (.int ms0_28), .val (.int v10_36), .val (.ref r_5), .val (.ref r_7), .val (.ref b10), .unset, .unset] [(.int v10_36)])) _
      refine XS.iconst X11.here hx rfl (hb hby at_137) ?_
      exact k
    by_cases hc138 : v10_36 = (1 : Int32)
    · have pre59 : ∀ t, Steps p.tables e below (T11.setTop (mkF m 144 #[.val (.long p0), .second, .val (.long p1), .second, .val (.int p2), .val (.int p3), .val (.int p4), .val (.long ms0_12), .second, .val (.int ms0_28), .val (.int v10_36), .val (.ref r_5), .val (.ref r_7), .val (.ref b10), .unset, .unset] [.null, (.ref b10)])) t → Steps p.tables e below (s₁.setTop (entryFrame m #[(.long p0), (.long p1), (.int p2), (.int p3), (.int p4)] maxLocals)) t := by
        intro t k
        refine pre57 t ?_
        show Steps p.tables e below (T11.setTop (mkF m 138 #[.val (.long p0), .second, .val (.long p1), .second, .val (.int p2), .val (.int p3), .val (.int p4), .val (.long ms0_12), .second, .val (.int ms0_28), .val (.int v10_36), .val (.ref r_5), .val (.ref r_7), .val (.ref b10), .unset, .unset] [(.int (1 : Int32)), (.int v10_36)])) _
        refine XS.icmpNo X11.here hx rfl (hb hby at_138) rfl (teq hc138).2 ?_
        show Steps p.tables e below (T11.setTop (mkF m 141 #[.val (.long p0), .second, .val (.long p1), .second, .val (.int p2), .val (.int p3), .val (.int p4), .val (.long ms0_12), .second, .val (.int ms0_28), .val (.int v10_36), .val (.ref r_5), .val (.ref r_7), .val (.ref b10), .unset, .unset] [])) _
        refine XS.aload X11.here hx rfl (hb hby at_141) rfl rfl ?_
        show Steps p.tables e below (T11.setTop (mkF m 143 #[.val (.long p0), .second, .val (.long p1), .second, .val (.int p2), .val (.int p3), .val (.int p4), .val (.long ms0_12), .second, .val (.int ms0_28), .val (.int v10_36), .val (.ref r_5), .val (.ref r_7), .val (.ref b10), .unset, .unset] [(.ref b10)])) _
        refine XS.aconstNull X11.here hx rfl (hb hby at_143) ?_
        exact k
      obtain ⟨cq58, kq58, q58a, q58b, q58c⟩ := isOf hZ rfl Q11_0
      obtain ⟨_, _, ⟨T58, L58, k58, n58⟩, -, X58, ⟨Lc58, hQ58, l58, y58, z58⟩, st58⟩ := X11.virtualBack hx (y := (⟨"com/example/sequeue/sequeue/route/MessageQueue", "equals", "(Ljava/lang/Object;)Z"⟩ : MethodName)) (z := (⟨"com/example/sequeue/sequeue/route/MessageQueue", "equals", "(Ljava/lang/Object;)Z"⟩ : MethodName)) hown (mvT hZ (hw _ (List.mem_of_getElem? (i := 61) rfl))) (mvT hZ (hw _ (List.mem_of_getElem? (i := 62) rfl))) (notFace_of_selects (args := #[]) (mvT hZ (hw _ (List.mem_of_getElem? (i := 64) rfl)))) (mvT hZ (hw _ (List.mem_of_getElem? (i := 64) rfl))) (mvT hZ (hw _ (List.mem_of_getElem? (i := 63) rfl))) (by decide) (backOf (W := 0) (rm_12n l Z a0 hw [] b10 T11.heap n0 Z11 ) hZ (hw _ (List.mem_of_getElem? (i := 65) rfl)) (hw _ (List.mem_of_getElem? (i := 41) rfl)) (by decide) (by decide)) q58a q58c (g := (mkF m 144 #[.val (.long p0), .second, .val (.long p1), .second, .val (.int p2), .val (.int p3), .val (.int p4), .val (.long ms0_12), .second, .val (.int ms0_28), .val (.int v10_36), .val (.ref r_5), .val (.ref r_7), .val (.ref b10), .unset, .unset] [.null, (.ref b10)])) rfl (by rw [hml]; rfl) (Steps.refl _) (argsL := [.null]) (rest := []) (lenOf pd_7 rfl) rfl (by show 2 * 0 + _ ≤ _; exact Nat.le_of_eq rfl) (hb hby at_144) (fun _ _ => ⟨rfl, rfl, (by decide : 15 + 0 ≤ _), (by decide : 86 + 0 ≤ _)⟩)
      dsimp only [Pt.U, Pt.locs, Pt.cells, Pt.slots] at X58 l58 y58 z58 st58 hQ58
      rw [l58, y58, z58] at X58
      obtain ⟨rfl, N58q, e58⟩ := hQ58
      have N58 := Fr.app N11 N58q
      have pre60 : ∀ t, Steps p.tables e below (T58.setTop (mkF m 147 #[.val (.long p0), .second, .val (.long p1), .second, .val (.int p2), .val (.int p3), .val (.int p4), .val (.long ms0_12), .second, .val (.int ms0_28), .val (.int v10_36), .val (.ref r_5), .val (.ref r_7), .val (.ref b10), .unset, .unset] [(.int f_12n)])) t → Steps p.tables e below (s₁.setTop (entryFrame m #[(.long p0), (.long p1), (.int p2), (.int p3), (.int p4)] maxLocals)) t := by
        intro t k
        refine pre59 t ?_
        show Steps p.tables e below (T11.setTop (mkF m 144 #[.val (.long p0), .second, .val (.long p1), .second, .val (.int p2), .val (.int p3), .val (.int p4), .val (.long ms0_12), .second, .val (.int ms0_28), .val (.int v10_36), .val (.ref r_5), .val (.ref r_7), .val (.ref b10), .unset, .unset] [.null, (.ref b10)])) _
        refine st58.trans ?_
        exact k
      obtain ⟨ms0_155, hms0_155⟩ : ∃ z : Int32, z = (if f_12n = (0 : Int32) then (1 : Int32) else (0 : Int32)) := ⟨_, rfl⟩
      have pre61 : ∀ t, Steps p.tables e below (T58.setTop (mkF m 155 #[.val (.long p0), .second, .val (.long p1), .second, .val (.int p2), .val (.int p3), .val (.int p4), .val (.long ms0_12), .second, .val (.int ms0_28), .val (.int v10_36), .val (.ref r_5), .val (.ref r_7), .val (.ref b10), .unset, .unset] [(.int ms0_155)])) t → Steps p.tables e below (s₁.setTop (entryFrame m #[(.long p0), (.long p1), (.int p2), (.int p3), (.int p4)] maxLocals)) t := by
        intro t k
        refine pre60 t ?_
        by_cases hc147 : f_12n = (0 : Int32)
        · show Steps p.tables e below (T58.setTop (mkF m 147 #[.val (.long p0), .second, .val (.long p1), .second, .val (.int p2), .val (.int p3), .val (.int p4), .val (.long ms0_12), .second, .val (.int ms0_28), .val (.int v10_36), .val (.ref r_5), .val (.ref r_7), .val (.ref b10), .unset, .unset] [(.int f_12n)])) _
          refine XS.ifNo X58.here hx rfl (hb hby at_147) rfl ((if0 _ _).trans (teq hc147).2) ?_
          show Steps p.tables e below (T58.setTop (mkF m 150 #[.val (.long p0), .second, .val (.long p1), .second, .val (.int p2), .val (.int p3), .val (.int p4), .val (.long ms0_12), .second, .val (.int ms0_28), .val (.int v10_36), .val (.ref r_5), .val (.ref r_7), .val (.ref b10), .unset, .unset] [])) _
          refine XS.iconst X58.here hx rfl (hb hby at_150) ?_
          show Steps p.tables e below (T58.setTop (mkF m 151 #[.val (.long p0), .second, .val (.long p1), .second, .val (.int p2), .val (.int p3), .val (.int p4), .val (.long ms0_12), .second, .val (.int ms0_28), .val (.int v10_36), .val (.ref r_5), .val (.ref r_7), .val (.ref b10), .unset, .unset] [(.int (1 : Int32))])) _
          refine XS.goto X58.here hx rfl (pc0 := 151) (pc' := 155) rfl (hb hby at_151) (by decide) (by decide) ?_
          have qms0_155 : ms0_155 = (1 : Int32) := by rw [hms0_155, if_pos hc147]
          rw [qms0_155] at k
          exact k
        · show Steps p.tables e below (T58.setTop (mkF m 147 #[.val (.long p0), .second, .val (.long p1), .second, .val (.int p2), .val (.int p3), .val (.int p4), .val (.long ms0_12), .second, .val (.int ms0_28), .val (.int v10_36), .val (.ref r_5), .val (.ref r_7), .val (.ref b10), .unset, .unset] [(.int f_12n)])) _
          refine XS.ifYes X58.here hx rfl (pc0 := 147) (pc' := 154) rfl (hb hby at_147) rfl ((if0 _ _).trans (feq hc147).2) (by decide) (by decide) ?_
          show Steps p.tables e below (T58.setTop (mkF m 154 #[.val (.long p0), .second, .val (.long p1), .second, .val (.int p2), .val (.int p3), .val (.int p4), .val (.long ms0_12), .second, .val (.int ms0_28), .val (.int v10_36), .val (.ref r_5), .val (.ref r_7), .val (.ref b10), .unset, .unset] [])) _
          refine XS.iconst X58.here hx rfl (hb hby at_154) ?_
          have qms0_155 : ms0_155 = (0 : Int32) := by rw [hms0_155, if_neg hc147]
          rw [qms0_155] at k
          exact k
      have hnar : nar .boolean ms0_155 = ms0_155 := by rw [hms0_155]; (repeat' split) <;> rfl
      obtain ⟨fs, hr, hrun, hended, hW1, hW2, hW3, hsame⟩ := X58.leaveW hS11 (Nat.le_trans (Keep.refl T11.heap []).1 (Nat.le_of_eq (congrArg Array.size (e58 : T58.heap = T11.heap).symm))) (v := some (.int ms0_155)) (fun h => by rw [Bd.returns] at h; cases h) (BodyLoose.notSynchronized Bd)
      refine ⟨_, _, pre61 _ ?_, hrun, hended, _, _, rfl, ?_, ?_, hW1, hW2, hW3, hsame.mono (by decide) (by decide)⟩
      · show Steps p.tables e below (T58.setTop (mkF m 155 #[.val (.long p0), .second, .val (.long p1), .second, .val (.int p2), .val (.int p3), .val (.int p4), .val (.long ms0_12), .second, .val (.int ms0_28), .val (.int v10_36), .val (.ref r_5), .val (.ref r_7), .val (.ref b10), .unset, .unset] [(.int ms0_155)])) _
        exact retN X58 hx (t := .boolean) Bd.returns (by simp) (hb hby at_155) (by rw [hnar]; exact hr)
      · show Q_0 Z p0 p1 p2 p3 p4 cs_ h0 n0 _ T58.heap _
        rw [e58]
        exact ⟨congrArg (fun z => some (Value.int z)) (by unfold f_0; dsimp only; (try rw [← hms0_12]); (try rw [← hms0_28]); (try rw [← hv10_36]); (try rw [← hms0_155]); rw [if_neg hc66, if_pos hc138] : ms0_155 = f_0 p0 p1 p2 p3 p4 cs_), N58, trivial⟩
      · show own_H own_cs Z T58.vm T58.heap
        rw [e58]
        exact (hH11.go (B := (s.setVm T11.vm)) hZ wl X58.warmed (Keep.refl T11.heap []) all0)
    · have pre62 : ∀ t, Steps p.tables e below (T11.setTop (mkF m 159 #[.val (.long p0), .second, .val (.long p1), .second, .val (.int p2), .val (.int p3), .val (.int p4), .val (.long ms0_12), .second, .val (.int ms0_28), .val (.int v10_36), .val (.ref r_5), .val (.ref r_7), .val (.ref b10), .unset, .unset] [(.int (2 : Int32)), (.int v10_36)])) t → Steps p.tables e below (s₁.setTop (entryFrame m #[(.long p0), (.long p1), (.int p2), (.int p3), (.int p4)] maxLocals)) t := by
        intro t k
        refine pre57 t ?_
        show Steps p.tables e below (T11.setTop (mkF m 138 #[.val (.long p0), .second, .val (.long p1), .second, .val (.int p2), .val (.int p3), .val (.int p4), .val (.long ms0_12), .second, .val (.int ms0_28), .val (.int v10_36), .val (.ref r_5), .val (.ref r_7), .val (.ref b10), .unset, .unset] [(.int (1 : Int32)), (.int v10_36)])) _
        refine XS.icmpYes X11.here hx rfl (pc0 := 138) (pc' := 156) rfl (hb hby at_138) rfl (feq hc138).2 (by decide) (by decide) ?_
        show Steps p.tables e below (T11.setTop (mkF m 156 #[.val (.long p0), .second, .val (.long p1), .second, .val (.int p2), .val (.int p3), .val (.int p4), .val (.long ms0_12), .second, .val (.int ms0_28), .val (.int v10_36), .val (.ref r_5), .val (.ref r_7), .val (.ref b10), .unset, .unset] [])) _
        refine XS.iload X11.here hx rfl (hb hby at_156) rfl  ?_
        show Steps p.tables e below (T11.setTop (mkF m 158 #[.val (.long p0), .second, .val (.long p1), .second, .val (.int p2), .val (.int p3), .val (.int p4), .val (.long ms0_12), .second, .val (.int ms0_28), .val (.int v10_36), .val (.ref r_5), .val (.ref r_7), .val (.ref b10), .unset, .unset] [(.int v10_36)])) _
        refine XS.iconst X11.here hx rfl (hb hby at_158) ?_
        exact k
      by_cases hc159 : v10_36 = (2 : Int32)
      · have pre64 : ∀ t, Steps p.tables e below (T11.setTop (mkF m 170 #[.val (.long p0), .second, .val (.long p1), .second, .val (.int p2), .val (.int p3), .val (.int p4), .val (.long ms0_12), .second, .val (.int ms0_28), .val (.int v10_36), .val (.ref r_5), .val (.ref r_7), .val (.ref b10), .val (.ref r_5), .unset] [(.ref r_5), (.ref b10)])) t → Steps p.tables e below (s₁.setTop (entryFrame m #[(.long p0), (.long p1), (.int p2), (.int p3), (.int p4)] maxLocals)) t := by
          intro t k
          refine pre62 t ?_
          show Steps p.tables e below (T11.setTop (mkF m 159 #[.val (.long p0), .second, .val (.long p1), .second, .val (.int p2), .val (.int p3), .val (.int p4), .val (.long ms0_12), .second, .val (.int ms0_28), .val (.int v10_36), .val (.ref r_5), .val (.ref r_7), .val (.ref b10), .unset, .unset] [(.int (2 : Int32)), (.int v10_36)])) _
          refine XS.icmpNo X11.here hx rfl (hb hby at_159) rfl (teq hc159).2 ?_
          show Steps p.tables e below (T11.setTop (mkF m 162 #[.val (.long p0), .second, .val (.long p1), .second, .val (.int p2), .val (.int p3), .val (.int p4), .val (.long ms0_12), .second, .val (.int ms0_28), .val (.int v10_36), .val (.ref r_5), .val (.ref r_7), .val (.ref b10), .unset, .unset] [])) _
          refine XS.aload X11.here hx rfl (hb hby at_162) rfl rfl ?_
          show Steps p.tables e below (T11.setTop (mkF m 164 #[.val (.long p0), .second, .val (.long p1), .second, .val (.int p2), .val (.int p3), .val (.int p4), .val (.long ms0_12), .second, .val (.int ms0_28), .val (.int v10_36), .val (.ref r_5), .val (.ref r_7), .val (.ref b10), .unset, .unset] [(.ref r_5)])) _
          refine XS.astore X11.here hx rfl (hb hby at_164) rfl rfl (l' := #[.val (.long p0), .second, .val (.long p1), .second, .val (.int p2), .val (.int p3), .val (.int p4), .val (.long ms0_12), .second, .val (.int ms0_28), .val (.int v10_36), .val (.ref r_5), .val (.ref r_7), .val (.ref b10), .val (.ref r_5), .unset]) rfl ?_
          show Steps p.tables e below (T11.setTop (mkF m 166 #[.val (.long p0), .second, .val (.long p1), .second, .val (.int p2), .val (.int p3), .val (.int p4), .val (.long ms0_12), .second, .val (.int ms0_28), .val (.int v10_36), .val (.ref r_5), .val (.ref r_7), .val (.ref b10), .val (.ref r_5), .unset] [])) _
          refine XS.aload X11.here hx rfl (hb hby at_166) rfl rfl ?_
          show Steps p.tables e below (T11.setTop (mkF m 168 #[.val (.long p0), .second, .val (.long p1), .second, .val (.int p2), .val (.int p3), .val (.int p4), .val (.long ms0_12), .second, .val (.int ms0_28), .val (.int v10_36), .val (.ref r_5), .val (.ref r_7), .val (.ref b10), .val (.ref r_5), .unset] [(.ref b10)])) _
          refine XS.aload X11.here hx rfl (hb hby at_168) rfl rfl ?_
          exact k
        obtain ⟨cq63, kq63, q63a, q63b, q63c⟩ := isOf hZ rfl Q11_0
        obtain ⟨_, _, ⟨T63, L63, k63, n63⟩, -, X63, ⟨Lc63, hQ63, l63, y63, z63⟩, st63⟩ := X11.virtualBack hx (y := (⟨"com/example/sequeue/sequeue/route/MessageQueue", "equals", "(Ljava/lang/Object;)Z"⟩ : MethodName)) (z := (⟨"com/example/sequeue/sequeue/route/MessageQueue", "equals", "(Ljava/lang/Object;)Z"⟩ : MethodName)) hown (mvT hZ (hw _ (List.mem_of_getElem? (i := 61) rfl))) (mvT hZ (hw _ (List.mem_of_getElem? (i := 62) rfl))) (notFace_of_selects (args := #[]) (mvT hZ (hw _ (List.mem_of_getElem? (i := 64) rfl)))) (mvT hZ (hw _ (List.mem_of_getElem? (i := 64) rfl))) (mvT hZ (hw _ (List.mem_of_getElem? (i := 63) rfl))) (by decide) (backOf (W := 0) (rm_12l l Z a0 hw [] b10 r_5 T11.heap n0 Z11 exa_r_5_11) hZ (hw _ (List.mem_of_getElem? (i := 65) rfl)) (hw _ (List.mem_of_getElem? (i := 41) rfl)) (by decide) (by decide)) q63a q63c (g := (mkF m 170 #[.val (.long p0), .second, .val (.long p1), .second, .val (.int p2), .val (.int p3), .val (.int p4), .val (.long ms0_12), .second, .val (.int ms0_28), .val (.int v10_36), .val (.ref r_5), .val (.ref r_7), .val (.ref b10), .val (.ref r_5), .unset] [(.ref r_5), (.ref b10)])) rfl (by rw [hml]; rfl) (Steps.refl _) (argsL := [(.ref r_5)]) (rest := []) (lenOf pd_7 rfl) rfl (by show 2 * 0 + _ ≤ _; exact Nat.le_of_eq rfl) (hb hby at_170) (fun _ _ => ⟨rfl, rfl, (by decide : 15 + 0 ≤ _), (by decide : 86 + 0 ≤ _)⟩)
        dsimp only [Pt.U, Pt.locs, Pt.cells, Pt.slots] at X63 l63 y63 z63 st63 hQ63
        rw [l63, y63, z63] at X63
        obtain ⟨rfl, N63q, e63⟩ := hQ63
        have N63 := Fr.app N11 N63q
        have pre65 : ∀ t, Steps p.tables e below (T63.setTop (mkF m 173 #[.val (.long p0), .second, .val (.long p1), .second, .val (.int p2), .val (.int p3), .val (.int p4), .val (.long ms0_12), .second, .val (.int ms0_28), .val (.int v10_36), .val (.ref r_5), .val (.ref r_7), .val (.ref b10), .val (.ref r_5), .unset] [(.int f_12l)])) t → Steps p.tables e below (s₁.setTop (entryFrame m #[(.long p0), (.long p1), (.int p2), (.int p3), (.int p4)] maxLocals)) t := by
          intro t k
          refine pre64 t ?_
          show Steps p.tables e below (T11.setTop (mkF m 170 #[.val (.long p0), .second, .val (.long p1), .second, .val (.int p2), .val (.int p3), .val (.int p4), .val (.long ms0_12), .second, .val (.int ms0_28), .val (.int v10_36), .val (.ref r_5), .val (.ref r_7), .val (.ref b10), .val (.ref r_5), .unset] [(.ref r_5), (.ref b10)])) _
          refine st63.trans ?_
          exact k
        obtain ⟨ms0_181, hms0_181⟩ : ∃ z : Int32, z = (if f_12l = (0 : Int32) then (1 : Int32) else (0 : Int32)) := ⟨_, rfl⟩
        have pre66 : ∀ t, Steps p.tables e below (T63.setTop (mkF m 181 #[.val (.long p0), .second, .val (.long p1), .second, .val (.int p2), .val (.int p3), .val (.int p4), .val (.long ms0_12), .second, .val (.int ms0_28), .val (.int v10_36), .val (.ref r_5), .val (.ref r_7), .val (.ref b10), .val (.ref r_5), .unset] [(.int ms0_181)])) t → Steps p.tables e below (s₁.setTop (entryFrame m #[(.long p0), (.long p1), (.int p2), (.int p3), (.int p4)] maxLocals)) t := by
          intro t k
          refine pre65 t ?_
          by_cases hc173 : f_12l = (0 : Int32)
          · show Steps p.tables e below (T63.setTop (mkF m 173 #[.val (.long p0), .second, .val (.long p1), .second, .val (.int p2), .val (.int p3), .val (.int p4), .val (.long ms0_12), .second, .val (.int ms0_28), .val (.int v10_36), .val (.ref r_5), .val (.ref r_7), .val (.ref b10), .val (.ref r_5), .unset] [(.int f_12l)])) _
            refine XS.ifNo X63.here hx rfl (hb hby at_173) rfl ((if0 _ _).trans (teq hc173).2) ?_
            show Steps p.tables e below (T63.setTop (mkF m 176 #[.val (.long p0), .second, .val (.long p1), .second, .val (.int p2), .val (.int p3), .val (.int p4), .val (.long ms0_12), .second, .val (.int ms0_28), .val (.int v10_36), .val (.ref r_5), .val (.ref r_7), .val (.ref b10), .val (.ref r_5), .unset] [])) _
            refine XS.iconst X63.here hx rfl (hb hby at_176) ?_
            show Steps p.tables e below (T63.setTop (mkF m 177 #[.val (.long p0), .second, .val (.long p1), .second, .val (.int p2), .val (.int p3), .val (.int p4), .val (.long ms0_12), .second, .val (.int ms0_28), .val (.int v10_36), .val (.ref r_5), .val (.ref r_7), .val (.ref b10), .val (.ref r_5), .unset] [(.int (1 : Int32))])) _
            refine XS.goto X63.here hx rfl (pc0 := 177) (pc' := 181) rfl (hb hby at_177) (by decide) (by decide) ?_
            have qms0_181 : ms0_181 = (1 : Int32) := by rw [hms0_181, if_pos hc173]
            rw [qms0_181] at k
            exact k
          · show Steps p.tables e below (T63.setTop (mkF m 173 #[.val (.long p0), .second, .val (.long p1), .second, .val (.int p2), .val (.int p3), .val (.int p4), .val (.long ms0_12), .second, .val (.int ms0_28), .val (.int v10_36), .val (.ref r_5), .val (.ref r_7), .val (.ref b10), .val (.ref r_5), .unset] [(.int f_12l)])) _
            refine XS.ifYes X63.here hx rfl (pc0 := 173) (pc' := 180) rfl (hb hby at_173) rfl ((if0 _ _).trans (feq hc173).2) (by decide) (by decide) ?_
            show Steps p.tables e below (T63.setTop (mkF m 180 #[.val (.long p0), .second, .val (.long p1), .second, .val (.int p2), .val (.int p3), .val (.int p4), .val (.long ms0_12), .second, .val (.int ms0_28), .val (.int v10_36), .val (.ref r_5), .val (.ref r_7), .val (.ref b10), .val (.ref r_5), .unset] [])) _
            refine XS.iconst X63.here hx rfl (hb hby at_180) ?_
            have qms0_181 : ms0_181 = (0 : Int32) := by rw [hms0_181, if_neg hc173]
            rw [qms0_181] at k
            exact k
        have hnar : nar .boolean ms0_181 = ms0_181 := by rw [hms0_181]; (repeat' split) <;> rfl
        obtain ⟨fs, hr, hrun, hended, hW1, hW2, hW3, hsame⟩ := X63.leaveW hS11 (Nat.le_trans (Keep.refl T11.heap []).1 (Nat.le_of_eq (congrArg Array.size (e63 : T63.heap = T11.heap).symm))) (v := some (.int ms0_181)) (fun h => by rw [Bd.returns] at h; cases h) (BodyLoose.notSynchronized Bd)
        refine ⟨_, _, pre66 _ ?_, hrun, hended, _, _, rfl, ?_, ?_, hW1, hW2, hW3, hsame.mono (by decide) (by decide)⟩
        · show Steps p.tables e below (T63.setTop (mkF m 181 #[.val (.long p0), .second, .val (.long p1), .second, .val (.int p2), .val (.int p3), .val (.int p4), .val (.long ms0_12), .second, .val (.int ms0_28), .val (.int v10_36), .val (.ref r_5), .val (.ref r_7), .val (.ref b10), .val (.ref r_5), .unset] [(.int ms0_181)])) _
          exact retN X63 hx (t := .boolean) Bd.returns (by simp) (hb hby at_181) (by rw [hnar]; exact hr)
        · show Q_0 Z p0 p1 p2 p3 p4 cs_ h0 n0 _ T63.heap _
          rw [e63]
          exact ⟨congrArg (fun z => some (Value.int z)) (by unfold f_0; dsimp only; (try rw [← hms0_12]); (try rw [← hms0_28]); (try rw [← hv10_36]); (try rw [← hms0_181]); rw [if_neg hc66, if_neg hc138, if_pos hc159] : ms0_181 = f_0 p0 p1 p2 p3 p4 cs_), N63, trivial⟩
        · show own_H own_cs Z T63.vm T63.heap
          rw [e63]
          exact (hH11.go (B := (s.setVm T11.vm)) hZ wl X63.warmed (Keep.refl T11.heap []) all0)
      · have pre68 : ∀ t, Steps p.tables e below (T11.setTop (mkF m 186 #[.val (.long p0), .second, .val (.long p1), .second, .val (.int p2), .val (.int p3), .val (.int p4), .val (.long ms0_12), .second, .val (.int ms0_28), .val (.int v10_36), .val (.ref r_5), .val (.ref r_7), .val (.ref b10), .unset, .unset] [(.ref b10), (.ref b10)])) t → Steps p.tables e below (s₁.setTop (entryFrame m #[(.long p0), (.long p1), (.int p2), (.int p3), (.int p4)] maxLocals)) t := by
          intro t k
          refine pre62 t ?_
          show Steps p.tables e below (T11.setTop (mkF m 159 #[.val (.long p0), .second, .val (.long p1), .second, .val (.int p2), .val (.int p3), .val (.int p4), .val (.long ms0_12), .second, .val (.int ms0_28), .val (.int v10_36), .val (.ref r_5), .val (.ref r_7), .val (.ref b10), .unset, .unset] [(.int (2 : Int32)), (.int v10_36)])) _
          refine XS.icmpYes X11.here hx rfl (pc0 := 159) (pc' := 182) rfl (hb hby at_159) rfl (feq hc159).2 (by decide) (by decide) ?_
          show Steps p.tables e below (T11.setTop (mkF m 182 #[.val (.long p0), .second, .val (.long p1), .second, .val (.int p2), .val (.int p3), .val (.int p4), .val (.long ms0_12), .second, .val (.int ms0_28), .val (.int v10_36), .val (.ref r_5), .val (.ref r_7), .val (.ref b10), .unset, .unset] [])) _
          refine XS.aload X11.here hx rfl (hb hby at_182) rfl rfl ?_
          show Steps p.tables e below (T11.setTop (mkF m 184 #[.val (.long p0), .second, .val (.long p1), .second, .val (.int p2), .val (.int p3), .val (.int p4), .val (.long ms0_12), .second, .val (.int ms0_28), .val (.int v10_36), .val (.ref r_5), .val (.ref r_7), .val (.ref b10), .unset, .unset] [(.ref b10)])) _
          refine XS.aload X11.here hx rfl (hb hby at_184) rfl rfl ?_
          exact k
        obtain ⟨cq67, kq67, q67a, q67b, q67c⟩ := isOf hZ rfl Q11_0
        obtain ⟨_, _, ⟨T67, L67, k67, n67⟩, -, X67, ⟨Lc67, hQ67, l67, y67, z67⟩, st67⟩ := X11.virtualBack hx (y := (⟨"com/example/sequeue/sequeue/route/MessageQueue", "equals", "(Ljava/lang/Object;)Z"⟩ : MethodName)) (z := (⟨"com/example/sequeue/sequeue/route/MessageQueue", "equals", "(Ljava/lang/Object;)Z"⟩ : MethodName)) hown (mvT hZ (hw _ (List.mem_of_getElem? (i := 61) rfl))) (mvT hZ (hw _ (List.mem_of_getElem? (i := 62) rfl))) (notFace_of_selects (args := #[]) (mvT hZ (hw _ (List.mem_of_getElem? (i := 64) rfl)))) (mvT hZ (hw _ (List.mem_of_getElem? (i := 64) rfl))) (mvT hZ (hw _ (List.mem_of_getElem? (i := 63) rfl))) (by decide) (backOf (W := 0) (rm_12s l Z a0 hw [] b10 r_5 p2 T11.heap n0 Z11 Q11_0 Q11_1 Q11_2 exa_r_5_11) hZ (hw _ (List.mem_of_getElem? (i := 65) rfl)) (hw _ (List.mem_of_getElem? (i := 41) rfl)) (by decide) (by decide)) q67a q67c (g := (mkF m 186 #[.val (.long p0), .second, .val (.long p1), .second, .val (.int p2), .val (.int p3), .val (.int p4), .val (.long ms0_12), .second, .val (.int ms0_28), .val (.int v10_36), .val (.ref r_5), .val (.ref r_7), .val (.ref b10), .unset, .unset] [(.ref b10), (.ref b10)])) rfl (by rw [hml]; rfl) (Steps.refl _) (argsL := [(.ref b10)]) (rest := []) (lenOf pd_7 rfl) rfl (by show 2 * 0 + _ ≤ _; exact Nat.le_of_eq rfl) (hb hby at_186) (fun _ _ => ⟨rfl, rfl, (by decide : 15 + 0 ≤ _), (by decide : 86 + 0 ≤ _)⟩)
        dsimp only [Pt.U, Pt.locs, Pt.cells, Pt.slots] at X67 l67 y67 z67 st67 hQ67
        rw [l67, y67, z67] at X67
        obtain ⟨rfl, N67q, e67⟩ := hQ67
        have N67 := Fr.app N11 N67q
        obtain ⟨fs, hr, hrun, hended, hW1, hW2, hW3, hsame⟩ := X67.leaveW hS11 (Nat.le_trans (Keep.refl T11.heap []).1 (Nat.le_of_eq (congrArg Array.size (e67 : T67.heap = T11.heap).symm))) (v := some (.int (nar .boolean (f_12s p2)))) (fun h => by rw [Bd.returns] at h; cases h) (BodyLoose.notSynchronized Bd)
        refine ⟨_, _, pre68 _ ?_, hrun, hended, _, _, rfl, ?_, ?_, hW1, hW2, hW3, hsame.mono (by decide) (by decide)⟩
        · show Steps p.tables e below (T11.setTop (mkF m 186 #[.val (.long p0), .second, .val (.long p1), .second, .val (.int p2), .val (.int p3), .val (.int p4), .val (.long ms0_12), .second, .val (.int ms0_28), .val (.int v10_36), .val (.ref r_5), .val (.ref r_7), .val (.ref b10), .unset, .unset] [(.ref b10), (.ref b10)])) _
          refine st67.trans ?_
          show Steps p.tables e below (T67.setTop (mkF m 189 #[.val (.long p0), .second, .val (.long p1), .second, .val (.int p2), .val (.int p3), .val (.int p4), .val (.long ms0_12), .second, .val (.int ms0_28), .val (.int v10_36), .val (.ref r_5), .val (.ref r_7), .val (.ref b10), .unset, .unset] [(.int (f_12s p2))])) _
          exact retN X67 hx (t := .boolean) Bd.returns (by simp) (hb hby at_189) hr
        · show Q_0 Z p0 p1 p2 p3 p4 cs_ h0 n0 _ T67.heap _
          rw [e67]
          exact ⟨congrArg (fun z => some (Value.int z)) (by unfold f_0; dsimp only; (try rw [← hms0_12]); (try rw [← hms0_28]); (try rw [← hv10_36]); rw [if_neg hc66, if_neg hc138, if_neg hc159] : (nar .boolean (f_12s p2)) = f_0 p0 p1 p2 p3 p4 cs_), N67, trivial⟩
        · show own_H own_cs Z T67.vm T67.heap
          rw [e67]
          exact (hH11.go (B := (s.setVm T11.vm)) hZ wl X67.warmed (Keep.refl T11.heap []) all0)
theorem own_11 (x y : Int64) : f_11 x y = if own_n x = own_n y then (if own_n x = 0 then 1 else if own_n x = 1 then f_14e1 (own_g x) (own_g y) else if own_n x = 2 then f_14e2 (own_g x) (own_g y) else f_14e3 (own_g x) (own_g y)) else 0 := by
  by_cases h : own_n x = own_n y
  · rw [if_pos h]
    have h' := (own_len_iff x y).mpr h
    unfold f_11 f_14e1 f_14e2 f_14e3
    simp only [own_g0, own_g1, own_g2, own_cb_iff]
    rw [if_pos h']
    rcases own_len4 x with hx | hx | hx | hx <;> rw [own_n_of hx, hx]
    · rfl
    · by_cases a : f_2 x 0 = f_2 y 0
      · simp only [a]; rfl
      · rw [if_pos (show (0:Int32) < 1 by decide), if_neg a]; rw [if_neg (by decide), if_pos (by decide), if_neg a]
    · by_cases a : f_2 x 0 = f_2 y 0
      · by_cases b : f_2 x 1 = f_2 y 1
        · simp only [a, b]; rfl
        · rw [if_pos (show (0:Int32) < 2 by decide), if_pos a, if_pos (by decide), if_neg b, if_neg (by decide), if_neg (by decide), if_pos (by decide), if_pos a, if_neg b]
      · rw [if_pos (show (0:Int32) < 2 by decide), if_neg a]; rw [if_neg (by decide), if_neg (by decide), if_pos (by decide), if_neg a]
    · by_cases a : f_2 x 0 = f_2 y 0
      · by_cases b : f_2 x 1 = f_2 y 1
        · by_cases c : f_2 x 2 = f_2 y 2
          · simp only [a, b, c]; rfl
          · rw [if_pos (show (0:Int32) < 3 by decide), if_pos a, if_pos (by decide), if_pos b, if_pos (by decide), if_neg c, if_neg (by decide), if_neg (by decide), if_neg (by decide), if_pos a, if_pos b]
        · rw [if_pos (show (0:Int32) < 3 by decide), if_pos a, if_pos (by decide), if_neg b, if_neg (by decide), if_neg (by decide), if_neg (by decide), if_pos a, if_neg b]
      · rw [if_pos (show (0:Int32) < 3 by decide), if_neg a]; rw [if_neg (by decide), if_neg (by decide), if_neg (by decide), if_neg a]
  · rw [if_neg h]
    have h' := mt (own_len_iff x y).mp h
    unfold f_11
    exact if_neg h'
theorem own_eq (c : Int32) (f g : Nat → Int32) (a b : Int32) : f_12e0 a b c f g = (if (1:Int32) = 0 then 0 else if a = b then 1 else 0) ∧ f_12e1 a b c f g = (if f_14e1 f g = 0 then 0 else if a = b then 1 else 0) ∧ f_12e2 a b c f g = (if f_14e2 f g = 0 then 0 else if a = b then 1 else 0) ∧ f_12e3 a b c f g = (if f_14e3 f g = 0 then 0 else if a = b then 1 else 0) := by
  refine ⟨?_, ?_, ?_, ?_⟩
  · unfold f_12e0 f_13e0 f_14e0; rfl
  · unfold f_12e1 f_13e1; by_cases h : f_14e1 f g = 0
    · simp only [h]; rfl
    · simp only [h, if_neg h]; rfl
  · unfold f_12e2 f_13e2; by_cases h : f_14e2 f g = 0
    · simp only [h]; rfl
    · simp only [h, if_neg h]; rfl
  · unfold f_12e3 f_13e3; by_cases h : f_14e3 f g = 0
    · simp only [h]; rfl
    · simp only [h, if_neg h]; rfl
theorem own_sym1 (f g : Nat → Int32) : f_14e1 f g = f_14e1 g f := by unfold f_14e1; simp only [eq_comm]
theorem own_sym2 (f g : Nat → Int32) : f_14e2 f g = f_14e2 g f := by unfold f_14e2; simp only [eq_comm]
theorem own_sym3 (f g : Nat → Int32) : f_14e3 f g = f_14e3 g f := by unfold f_14e3; simp only [eq_comm]
theorem own_12d (c : Int32) (n m : Nat) (f g : Nat → Int32) (a b : Int32) : f_12ed a b c n f m g = 0 := rfl
theorem own_law (p0 p1 : Int64) (p2 p3 p4 cs_ : Int32) : f_0 p0 p1 p2 p3 p4 cs_ = 1 := by
  unfold f_0
  obtain ⟨y, hy⟩ : ∃ y, y = (if (p4 &&& (1 : Int32)) = (0 : Int32) then p1 else p0) := ⟨_, rfl⟩
  obtain ⟨q, hq⟩ : ∃ q, q = (if (p4 &&& (2 : Int32)) = (0 : Int32) then p3 else p2) := ⟨_, rfl⟩
  obtain ⟨k, hk⟩ : ∃ k, k = (((p4.toUInt32 >>> ((2 : Int32) &&& 31).toUInt32).toInt32) &&& (3 : Int32)) := ⟨_, rfl⟩
  rw [← hy, ← hq, ← hk]
  clear hy hq hk
  by_cases k0 : k = 0
  · rw [if_pos k0]
    dsimp only
    rw [own_11]
    by_cases h : own_n p0 = own_n y
    · rw [if_pos h, if_pos h]
      by_cases n0 : own_n p0 = 0
      · rw [if_pos n0, if_pos n0]
        rw [(own_eq _ _ _ _ _).1, (own_eq _ _ _ _ _).1]
        by_cases e : p2 = q
        · subst e; simp
        · have e' : ¬ q = p2 := fun z => e z.symm
          simp [e, e']
      rw [if_neg n0, if_neg n0]
      by_cases n1 : own_n p0 = 1
      · rw [if_pos n1, if_pos n1]
        rw [(own_eq _ _ _ _ _).2.1, (own_eq _ _ _ _ _).2.1, own_sym1 (own_g y), if_pos rfl]
        by_cases e : p2 = q
        · subst e; simp
        · have e' : ¬ q = p2 := fun z => e z.symm
          simp [e, e']
      rw [if_neg n1, if_neg n1]
      by_cases n2 : own_n p0 = 2
      · rw [if_pos n2, if_pos n2]
        rw [(own_eq _ _ _ _ _).2.2.1, (own_eq _ _ _ _ _).2.2.1, own_sym2 (own_g y), if_pos rfl]
        by_cases e : p2 = q
        · subst e; simp
        · have e' : ¬ q = p2 := fun z => e z.symm
          simp [e, e']
      rw [if_neg n2, if_neg n2]
      rw [(own_eq _ _ _ _ _).2.2.2, (own_eq _ _ _ _ _).2.2.2, own_sym3 (own_g y), if_pos rfl]
      by_cases e : p2 = q
      · subst e; simp
      · have e' : ¬ q = p2 := fun z => e z.symm
        simp [e, e']
    · rw [if_neg h, if_neg h, own_12d, own_12d]
      rfl
  · rw [if_neg k0]
    by_cases k1 : k = 1
    · rw [if_pos k1]; rfl
    rw [if_neg k1]
    by_cases k2 : k = 2
    · rw [if_pos k2]; rfl
    rw [if_neg k2]
    unfold f_12s
    simp only [f_13s, if_true, if_neg (show ¬ (1:Int32) = 0 by decide)]
    rfl
theorem own_nei {args : Array Value} {s : State} {t : Term} {i j : Int32} (e : t.eval args s none [] s = some (.int i)) (h : (Jvm.Cond.not (Jvm.Cond.eq t (.int j))).value args s none s [] = some true) : ¬ (i = j) := fun q => by
  subst q
  simp [Cond.value, e, Term.eval] at h
set_option maxRecDepth 65536 in
set_option maxHeartbeats 40000000 in
theorem comes_1 {Post : Tables → Env → Array Value → State → Outcome → State → Prop} (hpost : ∀ tb e args s v u, (limb_1_1.after args s (.returned v) u = true ∧ limb_1_2.after args s (.returned v) u = true ∧ True) → ReturnedEndW s (.returned v) u (Jvm.fieldLocs frame_1_writes args s ++ Jvm.arrayLocs frame_1_arrays args s ++ Jvm.staticLocs frame_1_statics s) 32 2176 → Post tb e args s (.returned v) u) :
    ArmFor flags0 classFile x code maxLocals ret World_1 tables_1 room_1 Calls_1 rest_1 Pre_1 Post := by
  intro l hfl _ _ p e ha hc hk s m args below hf hA hF happ hP
  obtain ⟨hcalls, hrest, hpre⟩ := hP
  obtain ⟨-, -, -, hnamed, -, -, -, hat⟩ := (Spec.applies_iff hf).mp happ
  obtain ⟨hg, hn⟩ := and_e (Cond.before_iff.mp (show (Jvm.Cond.and given_1 narrow_1).before args s = true from hpre))
  obtain ⟨g0, gt0⟩ := and_e hg
  obtain ⟨ga0, gt1⟩ := and_e gt0
  obtain ⟨ga1, gt2⟩ := and_e gt1
  obtain ⟨ga2, gt3⟩ := and_e gt2
  obtain ⟨ga3, gt4⟩ := and_e gt3
  obtain ⟨w0, w1, w2, w3, w4, rfl⟩ : ∃ w0 w1 w2 w3 w4 : Value, args = #[w0, w1, w2, w3, w4] := by
    have hs : args.size = 5 := by simpa [Cond.value, given_1] using g0
    obtain ⟨L⟩ := args
    match L, hs with
    | [w0, w1, w2, w3, w4], _ => exact ⟨w0, w1, w2, w3, w4, rfl⟩
  have hw := fun d (hd : d ∈ tables_1) => atoms_spec (ws := Jvm.Cond.code x code maxLocals ret :: tables_1) hat d (List.mem_cons_of_mem _ hd)
  have hfit : Fit s := fun {y c} hc i hi => by
    obtain ⟨ha, rfl⟩ := Array.getElem?_eq_some_iff.mp hc
    have q := List.all_eq_true.mp ((Array.all_eq_true_iff_forall_mem.mp hF) _ (Array.getElem_mem ha)) i (List.mem_range.mpr hi)
    simpa [Array.getElem?_eq_getElem hi] using q
  obtain ⟨i0, ei0⟩ := isL_v ga0
  obtain rfl : w0 = (.long i0) := Option.some.inj ei0
  obtain ⟨i1, ei1⟩ := isL_v ga1
  obtain rfl : w1 = (.long i1) := Option.some.inj ei1
  obtain ⟨i2, ei2⟩ := is_v ga2
  obtain rfl : w2 = (.int i2) := Option.some.inj ei2
  obtain ⟨i3, ei3⟩ := is_v ga3
  obtain rfl : w3 = (.int i3) := Option.some.inj ei3
  obtain ⟨i4, ei4⟩ := is_v gt4
  obtain rfl : w4 = (.int i4) := Option.some.inj ei4
  obtain ⟨hsets, hown0⟩ := atoms_of _ (rest_1_c_eq ▸ (show rest_1_c.before _ s = true from hrest))
  have hs := fun d (hd : d ∈ jdkStatics_1) => Cond.before_iff.mp (hsets d hd)
  obtain ⟨cs_, ecs⟩ := is_v (hs _ (List.mem_of_getElem? (i := 1) rfl))
  have SCS : Sta s s.heap "java/lang/String" "COMPACT_STRINGS" "Z" (.int cs_) := Sta.start ecs (Or.inl (hsets _ (List.mem_of_getElem? (i := 0) rfl)))
  have hcs : ¬ (cs_ = (0 : Int32)) := own_nei ecs (hs _ (List.mem_of_getElem? (i := 2) rfl))
  have hHs : own_H own_cs s s.vm s.heap := own_H.start (fun q hq => by
      simp only [own_cs, List.mem_cons, List.not_mem_nil, or_false] at hq
      rcases hq with rfl | rfl
      · exact hcalls.1 ("com/example/sequeue/sequeue/route/MessageQueue", 7) (by simp [consts_1])
      · exact hcalls.1 ("java/lang/String", 7) (by simp [consts_1])) (own_wl hw) (by decide) (hsets _ (List.mem_of_getElem? (i := 2) rfl)) (hw _ (List.mem_of_getElem? (i := 28) rfl)) (hw _ (List.mem_of_getElem? (i := 11) rfl))
  obtain ⟨n, o, h1, h2, h3, _, L, rfl, ⟨rfl, N⟩, -, hq⟩ := rm_0 l s _ hw tables_1 i0 i1 i2 i3 i4 cs_ s.heap s.heap.size (Nat.le_refl _) SCS hcs p e ha hc hk s m _ below hf ((Spec.applies_iff_loose hf).mp happ).1 ⟨rfl, State.Warmed39.refl s, rfl, hHs⟩ trivial
  refine ⟨n, _, h1, h2, h3, hpost _ _ _ _ _ _ ⟨Cond.after_iff.mpr rfl, Cond.after_iff.mpr (eq_i res_at (Term.int_eval (1)) (congrArg Value.int (own_law _ _ _ _ _ _))), trivial⟩ ⟨hq.1, hq.2.1, hq.2.2.1, (hq.2.2.2.sift fun y hy => Or.inr (N.1 y hy)).mono (by decide) (by decide)⟩⟩
theorem main_1_1 : Claimed_1_1 := comes_1 fun _ _ _ _ _ _ h hF => ⟨h.1, hF⟩
theorem main_1_2 : Claimed_1_2 := comes_1 fun _ _ _ _ _ _ h hF => ⟨h.2.1, hF⟩
end Jvm.Pilot.@@N@@
namespace Jvm.Pilot.@@N@@
open Jvm Jvm.ClassFile Sem Op Lib Jvm.Free Jvm.Stand Jvm.Pilot.@@N@@.Jvm.D
/-! MADE BY PROGRAM (witnessworld.py) out of the Statement's table words and the real class files: 21 classes; the members and pool entries that the words name. The judged class is class 1, her method 1. -/
namespace start1
open Jvm.ClassFile
def u (s : String) : CpInfo := .utf8 (stringToUtf16 s)
/-- a pool by its gaps: so many unusable entries, then the entry; so many at the end -/
def gap : Nat → List CpInfo → List CpInfo
  | 0, r => r
  | n + 1, r => .unusable :: gap n r
def poolList (es : List (Nat × CpInfo)) (last : Nat) : List CpInfo := es.foldr (fun e r => gap e.1 (e.2 :: r)) (gap last [])
def pool (es : List (Nat × CpInfo)) (last : Nat) : Array CpInfo := ⟨poolList es last⟩
def fileOf (pool : Array CpInfo) (this : Nat) (attrs : Array Attribute := #[]) (ms : Array MethodInfo := #[]) (fl : Nat := 33) (sup : Nat := 0) (ifs : Array Nat := #[]) (fds : Array FieldInfo := #[]) : ClassFile where
  minorVersion := 0
  majorVersion := 65
  constantPool := pool
  accessFlags := fl
  thisClass := this
  superClass := sup
  interfaces := ifs
  fields := fds
  methods := ms
  attributes := attrs
def plain (name : String) (sup : Option ClassId) : Class where
  name := name
  kind := .ordinary
  loader := none
  accessFlags := 33
  super := sup
  interfaces := #[]
  cf := none
  fields := #[]
  methods := #[]
  instanceTypes := #[]
  staticTypes := #[]
  resolved := #[]
  callSites := []
  init := .initialized
  statics := none
  mirror := none

def pool0 : Array CpInfo := pool [(5, u "<init>"), (0, u "()V"), (1, .class_ 10), (1, u "java/lang/Object")] 113

def k0c0 : Code := { maxStack := 0, maxLocals := 1, code := object_method_1_code, exceptionTable := #[], attributes := #[] }
def k0m0 : Method := { name := "<init>", desc := "()V", sig := { parameters := [], returnType := none }, accessFlags := 1, code := some k0c0 }
/-- java/lang/Object -/
def k0 : Class := { plain "java/lang/Object" none with
  accessFlags := 33
  interfaces := #[]
  cf := some (fileOf pool0 8 #[] #[{ accessFlags := 1, nameIndex := 5, descriptorIndex := 6, attributes := #[] }] 33 0 #[] #[])
  fields := #[]
  methods := #[k0m0]
  instanceTypes := #[]
  staticTypes := #[]
  resolved := Array.replicate 124 none
  statics := none }

def pool1 : Array CpInfo := pool [(2, .class_ 4), (1, u "java/lang/Object"), (0, u "<init>"), (0, u "()V"), (0, .methodref 8 9), (0, .class_ 10), (0, .nameAndType 11 12), (0, u "com/example/sequeue/sequeue/route/MessageQueueEqualsPinLaw"), (0, u "name"), (0, u "(J)Ljava/lang/String;"), (0, .class_ 14), (0, u "com/example/sequeue/sequeue/route/MessageQueue"), (0, .methodref 13 16), (0, .nameAndType 5 17), (0, u "(Ljava/lang/String;I)V"), (0, .methodref 8 19), (0, .nameAndType 20 21), (0, u "sameName"), (0, u "(JJ)Z"), (0, .methodref 13 23), (0, .nameAndType 24 25), (0, u "equals"), (0, u "(Ljava/lang/Object;)Z"), (0, .long 255), (1, .long 3), (1, .methodref 8 31), (0, .nameAndType 32 33), (0, u "ch"), (0, u "(JI)C"), (0, .class_ 35), (0, u "java/lang/String"), (0, .methodref 34 37), (0, .nameAndType 5 38), (0, u "([C)V"), (2, u "law"), (0, u "(JJIII)Z")] 5

def k1m0 : Method := { name := "<init>", desc := "()V", sig := { parameters := [], returnType := none }, accessFlags := 1, code := none }
def k1c1 : Code := { maxStack := 4, maxLocals := 16, code := code, exceptionTable := #[], attributes := #[] }
def k1m1 : Method := { name := "law", desc := "(JJIII)Z", sig := { parameters := [.long, .long, .int, .int, .int], returnType := some .boolean }, accessFlags := 9, code := some k1c1 }
def k1c2 : Code := { maxStack := 5, maxLocals := 3, code := method_3_code, exceptionTable := #[], attributes := #[] }
def k1m2 : Method := { name := "ch", desc := "(JI)C", sig := { parameters := [.long, .int], returnType := some .char }, accessFlags := 10, code := some k1c2 }
def k1c3 : Code := { maxStack := 5, maxLocals := 4, code := method_4_code, exceptionTable := #[], attributes := #[] }
def k1m3 : Method := { name := "name", desc := "(J)Ljava/lang/String;", sig := { parameters := [.long], returnType := some (.object "java/lang/String") }, accessFlags := 10, code := some k1c3 }
def k1c4 : Code := { maxStack := 4, maxLocals := 6, code := method_5_code, exceptionTable := #[], attributes := #[] }
def k1m4 : Method := { name := "sameName", desc := "(JJ)Z", sig := { parameters := [.long, .long], returnType := some .boolean }, accessFlags := 10, code := some k1c4 }
/-- com/example/sequeue/sequeue/route/MessageQueueEqualsPinLaw -/
def k1 : Class := { plain "com/example/sequeue/sequeue/route/MessageQueueEqualsPinLaw" (some 0) with
  accessFlags := 49
  interfaces := #[]
  cf := some (fileOf pool1 8 #[] #[{ accessFlags := 1, nameIndex := 5, descriptorIndex := 6, attributes := #[] }, { accessFlags := 9, nameIndex := 41, descriptorIndex := 42, attributes := #[] }, { accessFlags := 10, nameIndex := 32, descriptorIndex := 33, attributes := #[] }, { accessFlags := 10, nameIndex := 11, descriptorIndex := 12, attributes := #[] }, { accessFlags := 10, nameIndex := 20, descriptorIndex := 21, attributes := #[] }] 49 2 #[] #[])
  fields := #[]
  methods := #[k1m0, k1m1, k1m2, k1m3, k1m4]
  instanceTypes := #[]
  staticTypes := #[]
  resolved := Array.replicate 48 none
  statics := none }

def pool2 : Array CpInfo := pool [(1, .class_ 2), (0, u "java/io/Serializable"), (0, .class_ 4), (0, u "java/lang/Object")] 2

/-- java/io/Serializable -/
def k2 : Class := { plain "java/io/Serializable" (some 0) with
  accessFlags := 1537
  interfaces := #[]
  cf := some (fileOf pool2 1 #[] #[] 1537 3 #[] #[])
  fields := #[]
  methods := #[]
  instanceTypes := #[]
  staticTypes := #[]
  resolved := Array.replicate 7 none
  statics := none }

def pool3 : Array CpInfo := pool [(1, .class_ 2), (0, u "java/lang/Comparable"), (0, .class_ 4), (0, u "java/lang/Object")] 7

/-- java/lang/Comparable -/
def k3 : Class := { plain "java/lang/Comparable" (some 0) with
  accessFlags := 1537
  interfaces := #[]
  cf := some (fileOf pool3 1 #[] #[] 1537 3 #[] #[])
  fields := #[]
  methods := #[]
  instanceTypes := #[]
  staticTypes := #[]
  resolved := Array.replicate 12 none
  statics := none }

def pool4 : Array CpInfo := pool [(2, .class_ 4), (1, u "java/lang/CharSequence"), (42, .class_ 48), (0, u "java/lang/CharSequence$1CodePointIterator"), (10, .class_ 60), (0, u "java/lang/CharSequence$1CharIterator"), (5, .class_ 67), (0, u "java/lang/Object")] 63

/-- java/lang/CharSequence -/
def k4 : Class := { plain "java/lang/CharSequence" (some 0) with
  accessFlags := 1537
  interfaces := #[]
  cf := some (fileOf pool4 2 #[.nestMembers #[47, 59]] #[] 1537 66 #[] #[])
  fields := #[]
  methods := #[]
  instanceTypes := #[]
  staticTypes := #[]
  resolved := Array.replicate 131 none
  statics := none }

def pool5 : Array CpInfo := pool [(1, .class_ 2), (0, u "java/lang/constant/Constable"), (0, .class_ 4), (0, u "java/lang/Object")] 6

/-- java/lang/constant/Constable -/
def k5 : Class := { plain "java/lang/constant/Constable" (some 0) with
  accessFlags := 1537
  interfaces := #[]
  cf := some (fileOf pool5 1 #[] #[] 1537 3 #[] #[])
  fields := #[]
  methods := #[]
  instanceTypes := #[]
  staticTypes := #[]
  resolved := Array.replicate 11 none
  statics := none }

def pool6 : Array CpInfo := pool [(1, .class_ 2), (0, u "java/lang/constant/ConstantDesc"), (0, .class_ 4), (0, u "java/lang/Object")] 32

/-- java/lang/constant/ConstantDesc -/
def k6 : Class := { plain "java/lang/constant/ConstantDesc" (some 0) with
  accessFlags := 1537
  interfaces := #[]
  cf := some (fileOf pool6 1 #[] #[] 1537 3 #[] #[])
  fields := #[]
  methods := #[]
  instanceTypes := #[]
  staticTypes := #[]
  resolved := Array.replicate 37 none
  statics := none }

def pool7 : Array CpInfo := pool [(1, .methodref 2 3), (0, .class_ 4), (0, .nameAndType 5 6), (0, u "java/lang/Object"), (0, u "<init>"), (0, u "()V"), (0, .string 8), (0, u ""), (0, .fieldref 10 11), (0, .class_ 12), (0, .nameAndType 13 14), (0, u "java/lang/String"), (0, u "value"), (0, u "[B"), (0, .fieldref 10 16), (0, .nameAndType 17 18), (0, u "coder"), (0, u "B"), (2, u "hash"), (0, u "I"), (2, u "hashIsZero"), (0, u "Z"), (0, .methodref 10 28), (0, .nameAndType 5 29), (0, u "([CIILjava/lang/Void;)V"), (8, .fieldref 10 39), (0, .nameAndType 40 26), (0, u "COMPACT_STRINGS"), (1, .class_ 44), (1, u "java/lang/StringUTF16"), (0, u "compress"), (1, .methodref 42 48), (0, .nameAndType 49 50), (0, u "coderFromArrayLen"), (0, u "([BI)B"), (56, .class_ 109), (1, u "java/lang/StringLatin1"), (67, .methodref 42 178), (0, .nameAndType 45 179), (0, u "([CII)[B"), (361, .methodref 107 542), (0, .nameAndType 543 544), (0, u "equals"), (0, u "([B[B)Z"), (28, u "(Ljava/lang/Object;)Z"), (1, .class_ 576), (0, u "java/lang/CharSequence"), (22, u "CASE_INSENSITIVE_ORDER"), (0, u "Ljava/util/Comparator;"), (409, u "([C)V"), (90, u "serialPersistentFields"), (0, u "[Ljava/io/ObjectStreamField;"), (0, .class_ 1104), (0, u "java/lang/String$CaseInsensitiveComparator"), (1, .class_ 1107), (0, u "java/io/Serializable"), (0, .class_ 1109), (0, u "java/lang/Comparable"), (0, .class_ 1111), (0, u "java/lang/constant/Constable"), (0, .class_ 1113), (0, u "java/lang/constant/ConstantDesc"), (2, u "serialVersionUID"), (0, u "J"), (3, u "REPL"), (0, u "C"), (2, u "LATIN1"), (1, u "UTF16")] 323

def k7m0 : Method := { name := "<init>", desc := "()V", sig := { parameters := [], returnType := none }, accessFlags := 1, code := none }
def k7c1 : Code := { maxStack := 5, maxLocals := 2, code := jdk_42_method_3_code, exceptionTable := #[], attributes := #[] }
def k7m1 : Method := { name := "<init>", desc := "([C)V", sig := { parameters := [(.array .char)], returnType := none }, accessFlags := 1, code := some k7c1 }
def k7c2 : Code := { maxStack := 2, maxLocals := 3, code := jdk_42_method_66_code, exceptionTable := #[], attributes := #[] }
def k7m2 : Method := { name := "equals", desc := "(Ljava/lang/Object;)Z", sig := { parameters := [(.object "java/lang/Object")], returnType := some .boolean }, accessFlags := 1, code := some k7c2 }
def k7c3 : Code := { maxStack := 4, maxLocals := 6, code := jdk_42_method_149_code, exceptionTable := #[], attributes := #[] }
def k7m3 : Method := { name := "<init>", desc := "([CIILjava/lang/Void;)V", sig := { parameters := [(.array .char), .int, .int, (.object "java/lang/Void")], returnType := none }, accessFlags := 2, code := some k7c3 }
/-- java/lang/String -/
def k7 : Class := { plain "java/lang/String" (some 0) with
  accessFlags := 49
  interfaces := #[2, 3, 4, 5, 6]
  cf := some (fileOf pool7 10 #[.nestMembers #[1103]] #[{ accessFlags := 1, nameIndex := 5, descriptorIndex := 6, attributes := #[] }, { accessFlags := 1, nameIndex := 5, descriptorIndex := 1010, attributes := #[] }, { accessFlags := 1, nameIndex := 543, descriptorIndex := 573, attributes := #[] }, { accessFlags := 2, nameIndex := 5, descriptorIndex := 29, attributes := #[] }] 49 2 #[1106, 1108, 575, 1110, 1112] #[{ accessFlags := 18, nameIndex := 13, descriptorIndex := 14, attributes := #[] }, { accessFlags := 18, nameIndex := 17, descriptorIndex := 18, attributes := #[] }, { accessFlags := 2, nameIndex := 21, descriptorIndex := 22, attributes := #[] }, { accessFlags := 2, nameIndex := 25, descriptorIndex := 26, attributes := #[] }, { accessFlags := 26, nameIndex := 1116, descriptorIndex := 1117, attributes := #[] }, { accessFlags := 24, nameIndex := 40, descriptorIndex := 26, attributes := #[] }, { accessFlags := 26, nameIndex := 1101, descriptorIndex := 1102, attributes := #[] }, { accessFlags := 26, nameIndex := 1121, descriptorIndex := 1122, attributes := #[] }, { accessFlags := 25, nameIndex := 599, descriptorIndex := 600, attributes := #[] }, { accessFlags := 24, nameIndex := 1125, descriptorIndex := 18, attributes := #[] }, { accessFlags := 24, nameIndex := 1127, descriptorIndex := 18, attributes := #[] }])
  fields := #[{ name := "value", type := (.array .byte), accessFlags := 18, slot := 0, constantValue := 0 }, { name := "coder", type := .byte, accessFlags := 18, slot := 1, constantValue := 0 }, { name := "hash", type := .int, accessFlags := 2, slot := 2, constantValue := 0 }, { name := "hashIsZero", type := .boolean, accessFlags := 2, slot := 3, constantValue := 0 }, { name := "serialVersionUID", type := .long, accessFlags := 26, slot := 0, constantValue := 0 }, { name := "COMPACT_STRINGS", type := .boolean, accessFlags := 24, slot := 1, constantValue := 0 }, { name := "serialPersistentFields", type := (.array (.object "java/io/ObjectStreamField")), accessFlags := 26, slot := 2, constantValue := 0 }, { name := "REPL", type := .char, accessFlags := 26, slot := 3, constantValue := 0 }, { name := "CASE_INSENSITIVE_ORDER", type := (.object "java/util/Comparator"), accessFlags := 25, slot := 4, constantValue := 0 }, { name := "LATIN1", type := .byte, accessFlags := 24, slot := 5, constantValue := 0 }, { name := "UTF16", type := .byte, accessFlags := 24, slot := 6, constantValue := 0 }]
  methods := #[k7m0, k7m1, k7m2, k7m3]
  instanceTypes := #[(.array .byte), .byte, .int, .boolean]
  staticTypes := #[.long, .boolean, (.array (.object "java/io/ObjectStreamField")), .char, (.object "java/util/Comparator"), .byte, .byte]
  resolved := Array.replicate 1451 none
  statics := some 0 }

def pool8 : Array CpInfo := pool [(6, .class_ 8), (1, u "java/lang/Object"), (0, u "<init>"), (0, u "()V"), (1, .class_ 14), (1, u "java/lang/StringUTF16"), (31, u "$assertionsDisabled"), (0, u "Z"), (13, u "HI_BYTE_SHIFT"), (0, u "I"), (2, u "LO_BYTE_SHIFT"), (49, .methodref 12 116), (0, .nameAndType 117 118), (0, u "compress"), (0, u "([CI[BII)I"), (3, u "([CII)[B"), (138, u "coderFromArrayLen"), (0, u "([BI)B"), (106, .class_ 371), (1, u "java/lang/StringUTF16$LinesSpliterator"), (58, u "MAX_LENGTH"), (196, .class_ 628), (0, u "java/lang/StringUTF16$CodePointsSpliterator"), (0, .class_ 630), (0, u "java/lang/StringUTF16$CharsSpliterator")] 4

def k8m0 : Method := { name := "<init>", desc := "()V", sig := { parameters := [], returnType := none }, accessFlags := 0, code := none }
def k8c1 : Code := { maxStack := 2, maxLocals := 2, code := jdk_52_method_15_code, exceptionTable := #[], attributes := #[] }
def k8m1 : Method := { name := "coderFromArrayLen", desc := "([BI)B", sig := { parameters := [(.array .byte), .int], returnType := some .byte }, accessFlags := 8, code := some k8c1 }
def k8c2 : Code := { maxStack := 5, maxLocals := 6, code := jdk_52_method_16_code, exceptionTable := #[], attributes := #[] }
def k8m2 : Method := { name := "compress", desc := "([CII)[B", sig := { parameters := [(.array .char), .int, .int], returnType := some (.array .byte) }, accessFlags := 9, code := some k8c2 }
def k8c3 : Code := { maxStack := 3, maxLocals := 7, code := jdk_52_method_21_code, exceptionTable := #[], attributes := #[] }
def k8m3 : Method := { name := "compress", desc := "([CI[BII)I", sig := { parameters := [(.array .char), .int, (.array .byte), .int, .int], returnType := some .int }, accessFlags := 9, code := some k8c3 }
/-- java/lang/StringUTF16 -/
def k8 : Class := { plain "java/lang/StringUTF16" (some 0) with
  accessFlags := 48
  interfaces := #[]
  cf := some (fileOf pool8 12 #[.nestMembers #[627, 629, 369]] #[{ accessFlags := 0, nameIndex := 9, descriptorIndex := 10, attributes := #[] }, { accessFlags := 8, nameIndex := 261, descriptorIndex := 262, attributes := #[] }, { accessFlags := 9, nameIndex := 117, descriptorIndex := 122, attributes := #[] }, { accessFlags := 9, nameIndex := 117, descriptorIndex := 118, attributes := #[] }] 48 6 #[] #[{ accessFlags := 26, nameIndex := 61, descriptorIndex := 62, attributes := #[] }, { accessFlags := 26, nameIndex := 65, descriptorIndex := 62, attributes := #[] }, { accessFlags := 24, nameIndex := 430, descriptorIndex := 62, attributes := #[] }, { accessFlags := 4120, nameIndex := 46, descriptorIndex := 47, attributes := #[] }])
  fields := #[{ name := "HI_BYTE_SHIFT", type := .int, accessFlags := 26, slot := 0, constantValue := 0 }, { name := "LO_BYTE_SHIFT", type := .int, accessFlags := 26, slot := 1, constantValue := 0 }, { name := "MAX_LENGTH", type := .int, accessFlags := 24, slot := 2, constantValue := 0 }, { name := "$assertionsDisabled", type := .boolean, accessFlags := 4120, slot := 3, constantValue := 0 }]
  methods := #[k8m0, k8m1, k8m2, k8m3]
  instanceTypes := #[]
  staticTypes := #[.int, .int, .int, .boolean]
  resolved := Array.replicate 635 none
  statics := none }

def pool9 : Array CpInfo := pool [(1, .methodref 2 3), (0, .class_ 4), (0, .nameAndType 5 6), (0, u "java/lang/Object"), (0, u "<init>"), (0, u "()V"), (0, .string 8), (0, u "brokerName"), (0, .methodref 10 11), (0, .class_ 12), (0, .nameAndType 13 14), (0, u "java/util/Objects"), (0, u "requireNonNull"), (0, u "(Ljava/lang/Object;Ljava/lang/String;)Ljava/lang/Object;"), (0, .class_ 16), (0, u "java/lang/String"), (0, .fieldref 18 19), (0, .class_ 20), (0, .nameAndType 8 21), (0, u "com/example/sequeue/sequeue/route/MessageQueue"), (0, u "Ljava/lang/String;"), (0, .fieldref 18 23), (0, .nameAndType 24 25), (0, u "queueId"), (0, u "I"), (10, .methodref 15 37), (0, .nameAndType 38 39), (0, u "equals"), (0, u "(Ljava/lang/Object;)Z"), (15, .class_ 56), (0, u "java/lang/Comparable"), (0, u "(Ljava/lang/String;I)V")] 30

def k9c0 : Code := { maxStack := 3, maxLocals := 3, code := prog_36_method_1_code, exceptionTable := #[], attributes := #[] }
def k9m0 : Method := { name := "<init>", desc := "(Ljava/lang/String;I)V", sig := { parameters := [(.object "java/lang/String"), .int], returnType := none }, accessFlags := 1, code := some k9c0 }
def k9c1 : Code := { maxStack := 2, maxLocals := 3, code := prog_36_method_5_code, exceptionTable := #[], attributes := #[] }
def k9m1 : Method := { name := "equals", desc := "(Ljava/lang/Object;)Z", sig := { parameters := [(.object "java/lang/Object")], returnType := some .boolean }, accessFlags := 1, code := some k9c1 }
/-- com/example/sequeue/sequeue/route/MessageQueue -/
def k9 : Class := { plain "com/example/sequeue/sequeue/route/MessageQueue" (some 0) with
  accessFlags := 49
  interfaces := #[3]
  cf := some (fileOf pool9 18 #[] #[{ accessFlags := 1, nameIndex := 5, descriptorIndex := 57, attributes := #[] }, { accessFlags := 1, nameIndex := 38, descriptorIndex := 39, attributes := #[] }] 49 2 #[55] #[{ accessFlags := 18, nameIndex := 8, descriptorIndex := 21, attributes := #[] }, { accessFlags := 18, nameIndex := 24, descriptorIndex := 25, attributes := #[] }])
  fields := #[{ name := "brokerName", type := (.object "java/lang/String"), accessFlags := 18, slot := 0, constantValue := 0 }, { name := "queueId", type := .int, accessFlags := 18, slot := 1, constantValue := 0 }]
  methods := #[k9m0, k9m1]
  instanceTypes := #[(.object "java/lang/String"), .int]
  staticTypes := #[]
  resolved := Array.replicate 88 none
  statics := none }

def pool10 : Array CpInfo := pool [(2, .class_ 4), (1, u "java/lang/Object"), (0, u "<init>"), (0, u "()V"), (35, .class_ 44), (1, u "java/util/Objects"), (0, u "requireNonNull"), (48, u "(Ljava/lang/Object;Ljava/lang/String;)Ljava/lang/Object;")] 89

def k10m0 : Method := { name := "<init>", desc := "()V", sig := { parameters := [], returnType := none }, accessFlags := 2, code := none }
def k10c1 : Code := { maxStack := 3, maxLocals := 2, code := jdk_31_method_11_code, exceptionTable := #[], attributes := #[] }
def k10m1 : Method := { name := "requireNonNull", desc := "(Ljava/lang/Object;Ljava/lang/String;)Ljava/lang/Object;", sig := { parameters := [(.object "java/lang/Object"), (.object "java/lang/String")], returnType := some (.object "java/lang/Object") }, accessFlags := 9, code := some k10c1 }
/-- java/util/Objects -/
def k10 : Class := { plain "java/util/Objects" (some 0) with
  accessFlags := 49
  interfaces := #[]
  cf := some (fileOf pool10 42 #[] #[{ accessFlags := 2, nameIndex := 5, descriptorIndex := 6, attributes := #[] }, { accessFlags := 9, nameIndex := 45, descriptorIndex := 94, attributes := #[] }] 49 2 #[] #[])
  fields := #[]
  methods := #[k10m0, k10m1]
  instanceTypes := #[]
  staticTypes := #[]
  resolved := Array.replicate 184 none
  statics := none }

def pool11 : Array CpInfo := pool [(4, .class_ 6), (1, u "java/lang/Object"), (0, u "<init>"), (0, u "()V"), (5, .class_ 16), (1, u "java/lang/StringLatin1"), (104, u "$assertionsDisabled"), (0, u "Z"), (98, .class_ 223), (1, u "java/lang/StringLatin1$LinesSpliterator"), (57, u "equals"), (0, u "([B[B)Z"), (107, .class_ 391), (0, u "java/lang/StringLatin1$CharsSpliterator")] 3

def k11m0 : Method := { name := "<init>", desc := "()V", sig := { parameters := [], returnType := none }, accessFlags := 0, code := none }
def k11c1 : Code := { maxStack := 3, maxLocals := 3, code := jdk_43_method_13_code, exceptionTable := #[], attributes := #[] }
def k11m1 : Method := { name := "equals", desc := "([B[B)Z", sig := { parameters := [(.array .byte), (.array .byte)], returnType := some .boolean }, accessFlags := 9, code := some k11c1 }
/-- java/lang/StringLatin1 -/
def k11 : Class := { plain "java/lang/StringLatin1" (some 0) with
  accessFlags := 48
  interfaces := #[]
  cf := some (fileOf pool11 14 #[.nestMembers #[390, 221]] #[{ accessFlags := 0, nameIndex := 7, descriptorIndex := 8, attributes := #[] }, { accessFlags := 9, nameIndex := 281, descriptorIndex := 282, attributes := #[] }] 48 4 #[] #[{ accessFlags := 4120, nameIndex := 121, descriptorIndex := 122, attributes := #[] }])
  fields := #[{ name := "$assertionsDisabled", type := .boolean, accessFlags := 4120, slot := 0, constantValue := 0 }]
  methods := #[k11m0, k11m1]
  instanceTypes := #[]
  staticTypes := #[.boolean]
  resolved := Array.replicate 395 none
  statics := none }

def pool12 : Array CpInfo := pool [(2, .class_ 4), (1, u "java/lang/Object"), (0, u "<init>"), (0, u "()V"), (17, .class_ 26), (1, u "jdk/internal/util/Preconditions"), (28, .class_ 56), (0, u "jdk/internal/util/Preconditions$4"), (57, .class_ 115), (0, u "jdk/internal/util/Preconditions$1"), (7, u "SIOOBE_FORMATTER"), (0, u "Ljava/util/function/BiFunction;"), (0, .class_ 126), (0, u "jdk/internal/util/Preconditions$2"), (3, u "AIOOBE_FORMATTER"), (0, .class_ 132), (0, u "jdk/internal/util/Preconditions$3"), (3, u "IOOBE_FORMATTER")] 57

def k12m0 : Method := { name := "<init>", desc := "()V", sig := { parameters := [], returnType := none }, accessFlags := 1, code := none }
/-- jdk/internal/util/Preconditions -/
def k12 : Class := { plain "jdk/internal/util/Preconditions" (some 0) with
  accessFlags := 33
  interfaces := #[]
  cf := some (fileOf pool12 24 #[.nestMembers #[55, 131, 125, 114]] #[{ accessFlags := 1, nameIndex := 5, descriptorIndex := 6, attributes := #[] }] 33 2 #[] #[{ accessFlags := 25, nameIndex := 123, descriptorIndex := 124, attributes := #[] }, { accessFlags := 25, nameIndex := 130, descriptorIndex := 124, attributes := #[] }, { accessFlags := 25, nameIndex := 136, descriptorIndex := 124, attributes := #[] }])
  fields := #[{ name := "SIOOBE_FORMATTER", type := (.object "java/util/function/BiFunction"), accessFlags := 25, slot := 0, constantValue := 0 }, { name := "AIOOBE_FORMATTER", type := (.object "java/util/function/BiFunction"), accessFlags := 25, slot := 1, constantValue := 0 }, { name := "IOOBE_FORMATTER", type := (.object "java/util/function/BiFunction"), accessFlags := 25, slot := 2, constantValue := 0 }]
  methods := #[k12m0]
  instanceTypes := #[]
  staticTypes := #[(.object "java/util/function/BiFunction"), (.object "java/util/function/BiFunction"), (.object "java/util/function/BiFunction")]
  resolved := Array.replicate 194 none
  statics := some 1 }

def pool13 : Array CpInfo := pool [(9, u "<init>"), (6, .class_ 18), (1, u "java/lang/Object"), (0, u "()V"), (1, .class_ 23), (1, u "jdk/internal/util/ArraysSupport"), (0, u "LOG2_ARRAY_LONG_INDEX_SCALE"), (0, u "I"), (2, u "U"), (0, u "Ljdk/internal/misc/Unsafe;"), (8, u "BIG_ENDIAN"), (0, u "Z"), (8, u "LOG2_BYTE_BIT_SIZE"), (4, u "LOG2_ARRAY_INT_INDEX_SCALE"), (54, u "JLA"), (0, u "Ljdk/internal/access/JavaLangAccess;"), (11, u "LOG2_ARRAY_BOOLEAN_INDEX_SCALE"), (9, u "LOG2_ARRAY_BYTE_INDEX_SCALE"), (5, u "LOG2_ARRAY_CHAR_INDEX_SCALE"), (5, u "LOG2_ARRAY_SHORT_INDEX_SCALE"), (18, u "LOG2_ARRAY_FLOAT_INDEX_SCALE"), (24, u "LOG2_ARRAY_DOUBLE_INDEX_SCALE"), (89, u "T_BOOLEAN"), (2, u "T_CHAR"), (1, u "T_FLOAT"), (1, u "T_DOUBLE"), (1, u "T_BYTE"), (1, u "T_SHORT"), (1, u "T_INT"), (1, u "T_LONG"), (1, u "SOFT_MAX_ARRAY_LENGTH")] 83

def k13m0 : Method := { name := "<init>", desc := "()V", sig := { parameters := [], returnType := none }, accessFlags := 2, code := none }
/-- jdk/internal/util/ArraysSupport -/
def k13 : Class := { plain "jdk/internal/util/ArraysSupport" (some 0) with
  accessFlags := 33
  interfaces := #[]
  cf := some (fileOf pool13 21 #[] #[{ accessFlags := 2, nameIndex := 9, descriptorIndex := 19, attributes := #[] }] 33 16 #[] #[{ accessFlags := 24, nameIndex := 28, descriptorIndex := 29, attributes := #[] }, { accessFlags := 26, nameIndex := 38, descriptorIndex := 39, attributes := #[] }, { accessFlags := 25, nameIndex := 121, descriptorIndex := 25, attributes := #[] }, { accessFlags := 25, nameIndex := 131, descriptorIndex := 25, attributes := #[] }, { accessFlags := 25, nameIndex := 137, descriptorIndex := 25, attributes := #[] }, { accessFlags := 25, nameIndex := 143, descriptorIndex := 25, attributes := #[] }, { accessFlags := 25, nameIndex := 53, descriptorIndex := 25, attributes := #[] }, { accessFlags := 25, nameIndex := 24, descriptorIndex := 25, attributes := #[] }, { accessFlags := 25, nameIndex := 162, descriptorIndex := 25, attributes := #[] }, { accessFlags := 25, nameIndex := 187, descriptorIndex := 25, attributes := #[] }, { accessFlags := 26, nameIndex := 48, descriptorIndex := 25, attributes := #[] }, { accessFlags := 25, nameIndex := 277, descriptorIndex := 25, attributes := #[] }, { accessFlags := 25, nameIndex := 280, descriptorIndex := 25, attributes := #[] }, { accessFlags := 25, nameIndex := 282, descriptorIndex := 25, attributes := #[] }, { accessFlags := 25, nameIndex := 284, descriptorIndex := 25, attributes := #[] }, { accessFlags := 25, nameIndex := 286, descriptorIndex := 25, attributes := #[] }, { accessFlags := 25, nameIndex := 288, descriptorIndex := 25, attributes := #[] }, { accessFlags := 25, nameIndex := 290, descriptorIndex := 25, attributes := #[] }, { accessFlags := 25, nameIndex := 292, descriptorIndex := 25, attributes := #[] }, { accessFlags := 26, nameIndex := 108, descriptorIndex := 109, attributes := #[] }, { accessFlags := 25, nameIndex := 294, descriptorIndex := 25, attributes := #[] }])
  fields := #[{ name := "U", type := (.object "jdk/internal/misc/Unsafe"), accessFlags := 24, slot := 0, constantValue := 0 }, { name := "BIG_ENDIAN", type := .boolean, accessFlags := 26, slot := 1, constantValue := 0 }, { name := "LOG2_ARRAY_BOOLEAN_INDEX_SCALE", type := .int, accessFlags := 25, slot := 2, constantValue := 0 }, { name := "LOG2_ARRAY_BYTE_INDEX_SCALE", type := .int, accessFlags := 25, slot := 3, constantValue := 0 }, { name := "LOG2_ARRAY_CHAR_INDEX_SCALE", type := .int, accessFlags := 25, slot := 4, constantValue := 0 }, { name := "LOG2_ARRAY_SHORT_INDEX_SCALE", type := .int, accessFlags := 25, slot := 5, constantValue := 0 }, { name := "LOG2_ARRAY_INT_INDEX_SCALE", type := .int, accessFlags := 25, slot := 6, constantValue := 0 }, { name := "LOG2_ARRAY_LONG_INDEX_SCALE", type := .int, accessFlags := 25, slot := 7, constantValue := 0 }, { name := "LOG2_ARRAY_FLOAT_INDEX_SCALE", type := .int, accessFlags := 25, slot := 8, constantValue := 0 }, { name := "LOG2_ARRAY_DOUBLE_INDEX_SCALE", type := .int, accessFlags := 25, slot := 9, constantValue := 0 }, { name := "LOG2_BYTE_BIT_SIZE", type := .int, accessFlags := 26, slot := 10, constantValue := 0 }, { name := "T_BOOLEAN", type := .int, accessFlags := 25, slot := 11, constantValue := 0 }, { name := "T_CHAR", type := .int, accessFlags := 25, slot := 12, constantValue := 0 }, { name := "T_FLOAT", type := .int, accessFlags := 25, slot := 13, constantValue := 0 }, { name := "T_DOUBLE", type := .int, accessFlags := 25, slot := 14, constantValue := 0 }, { name := "T_BYTE", type := .int, accessFlags := 25, slot := 15, constantValue := 0 }, { name := "T_SHORT", type := .int, accessFlags := 25, slot := 16, constantValue := 0 }, { name := "T_INT", type := .int, accessFlags := 25, slot := 17, constantValue := 0 }, { name := "T_LONG", type := .int, accessFlags := 25, slot := 18, constantValue := 0 }, { name := "JLA", type := (.object "jdk/internal/access/JavaLangAccess"), accessFlags := 26, slot := 19, constantValue := 0 }, { name := "SOFT_MAX_ARRAY_LENGTH", type := .int, accessFlags := 25, slot := 20, constantValue := 0 }]
  methods := #[k13m0]
  instanceTypes := #[]
  staticTypes := #[(.object "jdk/internal/misc/Unsafe"), .boolean, .int, .int, .int, .int, .int, .int, .int, .int, .int, .int, .int, .int, .int, .int, .int, .int, .int, (.object "jdk/internal/access/JavaLangAccess"), .int]
  resolved := Array.replicate 378 none
  statics := none }

def pool14 : Array CpInfo := pool [(1, u "java/lang/Cloneable"), (0, .class_ 1), (0, u "java/lang/Object"), (0, .class_ 3)] 3

/-- java/lang/Cloneable -/
def k14 : Class := { plain "java/lang/Cloneable" (some 0) with
  accessFlags := 1537
  interfaces := #[]
  cf := some (fileOf pool14 2 #[] #[] 1537 4 #[] #[])
  fields := #[]
  methods := #[]
  instanceTypes := #[]
  staticTypes := #[]
  resolved := Array.replicate 8 none
  statics := none }

/-- the primitive byte -/
def k15 : Class := { plain "byte" none with kind := .primitive 'B', accessFlags := 0x411 }
/-- [B -/
def k16 : Class := { plain "[B" (some 0) with kind := .array 15 .byte, interfaces := #[14, 2], accessFlags := 1041 }

/-- the primitive char -/
def k17 : Class := { plain "char" none with kind := .primitive 'C', accessFlags := 0x411 }
/-- [C -/
def k18 : Class := { plain "[C" (some 0) with kind := .array 17 .char, interfaces := #[14, 2], accessFlags := 1041 }

/-- the primitive int -/
def k19 : Class := { plain "int" none with kind := .primitive 'I', accessFlags := 0x411 }
/-- [I -/
def k20 : Class := { plain "[I" (some 0) with kind := .array 19 .int, interfaces := #[14, 2], accessFlags := 1041 }

def heap : Heap := #[{ cls := 7, slots := #[.long 0, .int 1, .null, .int 0, .null, .int 0, .int 0], vm := .statics 7 },
  { cls := 12, slots := #[.null, .null, .null], vm := .statics 12 }]
def classes : Array Class := #[k0, k1, k2, k3, k4, k5, k6, k7, k8, k9, k10, k11, k12, k13, k14, k15, k16, k17, k18, k19, k20]
def interned : List (Array UInt16 × Addr) := []
def slotsUsed : Nat := 10
def theMethod : MethodId := ⟨1, 1⟩
def args0 : Array Value := #[.long 5, .long 6, .int 9, .int 3, .int 2]
def aboutOver (below : List Frame) : State where
  vm := { classes := classes, interned := interned.toArray }
  heap := heap
  slotsUsed := slotsUsed
  threads := #[{ frames := .invoking theMethod args0 :: below }]
def below0 : List Frame := [.native { method := ⟨0, 0⟩, args := #[] }]
def about1 : State := aboutOver below0
def p0 : Program := .bare "" "" ""
def e0 : Env := launch0.env 0 0 0
theorem w_frames : about1.frames = Frame.invoking theMethod args0 :: below0 := rfl
set_option maxRecDepth 65536 in
theorem w_args : argsFit about1.vm theMethod args0 = true := by decide +kernel
set_option maxRecDepth 65536 in
theorem w_heap : heapFits about1 = true := by decide +kernel
set_option maxRecDepth 65536 in
theorem w_runnable : about1.curStatus? = some .runnable := by decide +kernel
set_option maxRecDepth 65536 in
theorem w_alone : about1.alone = true := by decide +kernel
set_option maxRecDepth 65536 in
theorem w_named : about1.methodNamed? x = some theMethod := by decide +kernel
set_option maxRecDepth 65536 in
theorem w_hears : about1.hears theMethod below0 = true := by decide +kernel
set_option maxRecDepth 65536 in
theorem w_ripe : about1.ripe theMethod args0 below0 = true := by decide +kernel
theorem w_running : about1.status = .running := rfl
set_option maxRecDepth 65536 in
theorem w_room : about1.hasRoom e0.platform room_1 = true :=
  launch0.hasRoom_least _ room_1 (by decide +kernel) (by decide +kernel) (by decide +kernel) (by decide +kernel) (by decide +kernel) (by decide +kernel)
theorem allAtoms_all (ts : List Jvm.Cond) (a : Array Jvm.Value) (st : Jvm.State) : (allAtoms ts).before a st = ts.all (fun c => c.before a st) := by
  induction ts with
  | nil => rfl
  | cons c t ih =>
    show (Jvm.Cond.and c (allAtoms t)).before a st = _
    rw [Jvm.Cond.before_and, ih, List.all_cons]
def words1 : List Jvm.Cond := Jvm.Cond.code x code maxLocals ret :: tables_1
/-- a 'code' word, met by the world's own term for the bytes: nothing is compared byte by byte -/
theorem code_word {y : MethodName} {bytes : ByteArray} {mx : Nat} {rt : Option FieldType} {a : Array Value} {s : State} {m : MethodId} {meth : Method} {c : Code} (h1 : s.methodNamed? y = some m) (h2 : s.vm.method? m = some meth) (h3 : meth.code = some c) (h4 : c.code = bytes)
    (h5 : (c.maxLocals == mx && c.exceptionTable.isEmpty && decide (c.maxStack ≤ mostOperands) && decide (meth.sig.returnType = rt) && !meth.locks && decide (parseMethodDescriptor y.desc = some meth.sig)) = true) : (Jvm.Cond.code y bytes mx rt).before a s = true := by
  simp only [Bool.and_eq_true, beq_iff_eq, Bool.not_eq_true', decide_eq_true_eq] at h5
  obtain ⟨⟨⟨⟨⟨g1, g2⟩, g3⟩, g4⟩, g5⟩, g6⟩ := h5
  simp [Cond.before, Cond.holds, Cond.value, h1, h2, h3, h4, g1, g2, g3, g4, g5, g6]
def isCode : Jvm.Cond → Bool
  | .code _ _ _ _ => true
  | _ => false
theorem all_split {L : List Jvm.Cond} {P : Jvm.Cond → Bool} (h1 : L.all (fun c => isCode c || P c) = true) (h2 : ∀ c ∈ L.filter isCode, P c = true) : L.all P = true := by
  refine List.all_eq_true.mpr fun c hc => ?_
  have h := List.all_eq_true.mp h1 c hc
  rcases Bool.eq_false_or_eq_true (isCode c) with hi | hi
  · exact h2 c (List.mem_filter.mpr ⟨hc, hi⟩)
  · simpa [hi] using h
set_option maxRecDepth 65536 in
theorem w_c0 : (Jvm.Cond.code x code maxLocals ret).before args0 about1 = true := code_word (m := ⟨1, 1⟩) (meth := k1m1) (c := k1c1) (by decide +kernel) rfl rfl rfl (by decide +kernel)
set_option maxRecDepth 65536 in
theorem w_c1 : (Jvm.Cond.code ({ cls := "com/example/sequeue/sequeue/route/MessageQueueEqualsPinLaw", name := "name", desc := "(J)Ljava/lang/String;" } : Jvm.MethodName) method_4_code (4 : Nat) (Option.some (Jvm.ClassFile.FieldType.object "java/lang/String"))).before args0 about1 = true := code_word (m := ⟨1, 3⟩) (meth := k1m3) (c := k1c3) (by decide +kernel) rfl rfl rfl (by decide +kernel)
set_option maxRecDepth 65536 in
theorem w_c2 : (Jvm.Cond.code ({ cls := "com/example/sequeue/sequeue/route/MessageQueueEqualsPinLaw", name := "ch", desc := "(JI)C" } : Jvm.MethodName) method_3_code (3 : Nat) (Option.some Jvm.ClassFile.FieldType.char)).before args0 about1 = true := code_word (m := ⟨1, 2⟩) (meth := k1m2) (c := k1c2) (by decide +kernel) rfl rfl rfl (by decide +kernel)
set_option maxRecDepth 65536 in
theorem w_c3 : (Jvm.Cond.code ({ cls := "java/lang/String", name := "<init>", desc := "([C)V" } : Jvm.MethodName) jdk_42_method_3_code (2 : Nat) (Option.none : Option Jvm.ClassFile.FieldType)).before args0 about1 = true := code_word (m := ⟨7, 1⟩) (meth := k7m1) (c := k7c1) (by decide +kernel) rfl rfl rfl (by decide +kernel)
set_option maxRecDepth 65536 in
theorem w_c4 : (Jvm.Cond.code ({ cls := "java/lang/String", name := "<init>", desc := "([CIILjava/lang/Void;)V" } : Jvm.MethodName) jdk_42_method_149_code (6 : Nat) (Option.none : Option Jvm.ClassFile.FieldType)).before args0 about1 = true := code_word (m := ⟨7, 3⟩) (meth := k7m3) (c := k7c3) (by decide +kernel) rfl rfl rfl (by decide +kernel)
set_option maxRecDepth 65536 in
theorem w_c5 : (Jvm.Cond.code ({ cls := "java/lang/Object", name := "<init>", desc := "()V" } : Jvm.MethodName) object_method_1_code (1 : Nat) (Option.none : Option Jvm.ClassFile.FieldType)).before args0 about1 = true := code_word (m := ⟨0, 0⟩) (meth := k0m0) (c := k0c0) (by decide +kernel) rfl rfl rfl (by decide +kernel)
set_option maxRecDepth 65536 in
theorem w_c6 : (Jvm.Cond.code ({ cls := "java/lang/StringUTF16", name := "compress", desc := "([CII)[B" } : Jvm.MethodName) jdk_52_method_16_code (6 : Nat) (Option.some (Jvm.ClassFile.FieldType.array Jvm.ClassFile.FieldType.byte))).before args0 about1 = true := code_word (m := ⟨8, 2⟩) (meth := k8m2) (c := k8c2) (by decide +kernel) rfl rfl rfl (by decide +kernel)
set_option maxRecDepth 65536 in
theorem w_c7 : (Jvm.Cond.code ({ cls := "java/lang/StringUTF16", name := "compress", desc := "([CI[BII)I" } : Jvm.MethodName) jdk_52_method_21_code (7 : Nat) (Option.some Jvm.ClassFile.FieldType.int)).before args0 about1 = true := code_word (m := ⟨8, 3⟩) (meth := k8m3) (c := k8c3) (by decide +kernel) rfl rfl rfl (by decide +kernel)
set_option maxRecDepth 65536 in
theorem w_c8 : (Jvm.Cond.code ({ cls := "java/lang/StringUTF16", name := "coderFromArrayLen", desc := "([BI)B" } : Jvm.MethodName) jdk_52_method_15_code (2 : Nat) (Option.some Jvm.ClassFile.FieldType.byte)).before args0 about1 = true := code_word (m := ⟨8, 1⟩) (meth := k8m1) (c := k8c1) (by decide +kernel) rfl rfl rfl (by decide +kernel)
set_option maxRecDepth 65536 in
theorem w_c9 : (Jvm.Cond.code ({ cls := "com/example/sequeue/sequeue/route/MessageQueue", name := "<init>", desc := "(Ljava/lang/String;I)V" } : Jvm.MethodName) prog_36_method_1_code (3 : Nat) (Option.none : Option Jvm.ClassFile.FieldType)).before args0 about1 = true := code_word (m := ⟨9, 0⟩) (meth := k9m0) (c := k9c0) (by decide +kernel) rfl rfl rfl (by decide +kernel)
set_option maxRecDepth 65536 in
theorem w_c10 : (Jvm.Cond.code ({ cls := "java/util/Objects", name := "requireNonNull", desc := "(Ljava/lang/Object;Ljava/lang/String;)Ljava/lang/Object;" } : Jvm.MethodName) jdk_31_method_11_code (2 : Nat) (Option.some (Jvm.ClassFile.FieldType.object "java/lang/Object"))).before args0 about1 = true := code_word (m := ⟨10, 1⟩) (meth := k10m1) (c := k10c1) (by decide +kernel) rfl rfl rfl (by decide +kernel)
set_option maxRecDepth 65536 in
theorem w_c11 : (Jvm.Cond.code ({ cls := "com/example/sequeue/sequeue/route/MessageQueueEqualsPinLaw", name := "sameName", desc := "(JJ)Z" } : Jvm.MethodName) method_5_code (6 : Nat) (Option.some Jvm.ClassFile.FieldType.boolean)).before args0 about1 = true := code_word (m := ⟨1, 4⟩) (meth := k1m4) (c := k1c4) (by decide +kernel) rfl rfl rfl (by decide +kernel)
set_option maxRecDepth 65536 in
theorem w_c12 : (Jvm.Cond.code ({ cls := "com/example/sequeue/sequeue/route/MessageQueue", name := "equals", desc := "(Ljava/lang/Object;)Z" } : Jvm.MethodName) prog_36_method_5_code (3 : Nat) (Option.some Jvm.ClassFile.FieldType.boolean)).before args0 about1 = true := code_word (m := ⟨9, 1⟩) (meth := k9m1) (c := k9c1) (by decide +kernel) rfl rfl rfl (by decide +kernel)
set_option maxRecDepth 65536 in
theorem w_c13 : (Jvm.Cond.code ({ cls := "java/lang/String", name := "equals", desc := "(Ljava/lang/Object;)Z" } : Jvm.MethodName) jdk_42_method_66_code (3 : Nat) (Option.some Jvm.ClassFile.FieldType.boolean)).before args0 about1 = true := code_word (m := ⟨7, 2⟩) (meth := k7m2) (c := k7c2) (by decide +kernel) rfl rfl rfl (by decide +kernel)
set_option maxRecDepth 65536 in
theorem w_c14 : (Jvm.Cond.code ({ cls := "java/lang/StringLatin1", name := "equals", desc := "([B[B)Z" } : Jvm.MethodName) jdk_43_method_13_code (3 : Nat) (Option.some Jvm.ClassFile.FieldType.boolean)).before args0 about1 = true := code_word (m := ⟨11, 1⟩) (meth := k11m1) (c := k11c1) (by decide +kernel) rfl rfl rfl (by decide +kernel)
def codes1 : List Jvm.Cond := [Jvm.Cond.code x code maxLocals ret, Jvm.Cond.code ({ cls := "com/example/sequeue/sequeue/route/MessageQueueEqualsPinLaw", name := "name", desc := "(J)Ljava/lang/String;" } : Jvm.MethodName) method_4_code (4 : Nat) (Option.some (Jvm.ClassFile.FieldType.object "java/lang/String")), Jvm.Cond.code ({ cls := "com/example/sequeue/sequeue/route/MessageQueueEqualsPinLaw", name := "ch", desc := "(JI)C" } : Jvm.MethodName) method_3_code (3 : Nat) (Option.some Jvm.ClassFile.FieldType.char), Jvm.Cond.code ({ cls := "java/lang/String", name := "<init>", desc := "([C)V" } : Jvm.MethodName) jdk_42_method_3_code (2 : Nat) (Option.none : Option Jvm.ClassFile.FieldType), Jvm.Cond.code ({ cls := "java/lang/String", name := "<init>", desc := "([CIILjava/lang/Void;)V" } : Jvm.MethodName) jdk_42_method_149_code (6 : Nat) (Option.none : Option Jvm.ClassFile.FieldType), Jvm.Cond.code ({ cls := "java/lang/Object", name := "<init>", desc := "()V" } : Jvm.MethodName) object_method_1_code (1 : Nat) (Option.none : Option Jvm.ClassFile.FieldType), Jvm.Cond.code ({ cls := "java/lang/StringUTF16", name := "compress", desc := "([CII)[B" } : Jvm.MethodName) jdk_52_method_16_code (6 : Nat) (Option.some (Jvm.ClassFile.FieldType.array Jvm.ClassFile.FieldType.byte)), Jvm.Cond.code ({ cls := "java/lang/StringUTF16", name := "compress", desc := "([CI[BII)I" } : Jvm.MethodName) jdk_52_method_21_code (7 : Nat) (Option.some Jvm.ClassFile.FieldType.int), Jvm.Cond.code ({ cls := "java/lang/StringUTF16", name := "coderFromArrayLen", desc := "([BI)B" } : Jvm.MethodName) jdk_52_method_15_code (2 : Nat) (Option.some Jvm.ClassFile.FieldType.byte), Jvm.Cond.code ({ cls := "com/example/sequeue/sequeue/route/MessageQueue", name := "<init>", desc := "(Ljava/lang/String;I)V" } : Jvm.MethodName) prog_36_method_1_code (3 : Nat) (Option.none : Option Jvm.ClassFile.FieldType), Jvm.Cond.code ({ cls := "java/util/Objects", name := "requireNonNull", desc := "(Ljava/lang/Object;Ljava/lang/String;)Ljava/lang/Object;" } : Jvm.MethodName) jdk_31_method_11_code (2 : Nat) (Option.some (Jvm.ClassFile.FieldType.object "java/lang/Object")), Jvm.Cond.code ({ cls := "com/example/sequeue/sequeue/route/MessageQueueEqualsPinLaw", name := "sameName", desc := "(JJ)Z" } : Jvm.MethodName) method_5_code (6 : Nat) (Option.some Jvm.ClassFile.FieldType.boolean), Jvm.Cond.code ({ cls := "com/example/sequeue/sequeue/route/MessageQueue", name := "equals", desc := "(Ljava/lang/Object;)Z" } : Jvm.MethodName) prog_36_method_5_code (3 : Nat) (Option.some Jvm.ClassFile.FieldType.boolean), Jvm.Cond.code ({ cls := "java/lang/String", name := "equals", desc := "(Ljava/lang/Object;)Z" } : Jvm.MethodName) jdk_42_method_66_code (3 : Nat) (Option.some Jvm.ClassFile.FieldType.boolean), Jvm.Cond.code ({ cls := "java/lang/StringLatin1", name := "equals", desc := "([B[B)Z" } : Jvm.MethodName) jdk_43_method_13_code (3 : Nat) (Option.some Jvm.ClassFile.FieldType.boolean)]
set_option maxRecDepth 65536 in
theorem codes_eq : words1.filter isCode = codes1 := rfl
theorem w_codes : ∀ c ∈ words1.filter isCode, c.before args0 about1 = true := by
  rw [codes_eq]
  intro c hc
  simp only [codes1, List.mem_cons, List.not_mem_nil, or_false] at hc
  rcases hc with rfl | rfl | rfl | rfl | rfl | rfl | rfl | rfl | rfl | rfl | rfl | rfl | rfl | rfl | rfl
  · exact w_c0
  · exact w_c1
  · exact w_c2
  · exact w_c3
  · exact w_c4
  · exact w_c5
  · exact w_c6
  · exact w_c7
  · exact w_c8
  · exact w_c9
  · exact w_c10
  · exact w_c11
  · exact w_c12
  · exact w_c13
  · exact w_c14
set_option maxRecDepth 65536 in
theorem w_t1 : (words1.take 24).all (fun c => isCode c || c.before args0 about1) = true := by decide +kernel
set_option maxRecDepth 65536 in
theorem w_t2 : ((words1.drop 24).take 24).all (fun c => isCode c || c.before args0 about1) = true := by decide +kernel
set_option maxRecDepth 65536 in
theorem w_t3 : (((words1.drop 24).drop 24).take 24).all (fun c => isCode c || c.before args0 about1) = true := by decide +kernel
set_option maxRecDepth 65536 in
theorem w_t4 : (((words1.drop 24).drop 24).drop 24).all (fun c => isCode c || c.before args0 about1) = true := by decide +kernel
theorem w_tables : (allAtoms (Jvm.Cond.code x code maxLocals ret :: tables_1)).before args0 about1 = true := by
  rw [allAtoms_all]
  show words1.all (fun c => c.before args0 about1) = true
  refine all_split ?_ w_codes
  rw [← List.take_append_drop 24 words1, List.all_append, w_t1, ← List.take_append_drop 24 (words1.drop 24), List.all_append, w_t2, ← List.take_append_drop 24 ((words1.drop 24).drop 24), List.all_append, w_t3, w_t4]
  rfl
set_option maxRecDepth 65536 in
theorem w_rest : rest_1_c.before args0 about1 = true := by decide +kernel
set_option maxRecDepth 65536 in
theorem w_case : (Jvm.Cond.and given_1 narrow_1).before args0 about1 = true := by decide +kernel
set_option maxRecDepth 65536 in
theorem w_consts : constsHeld consts_1 about1 := Jvm.Lit.constsHeldB_iff.mp (by decide +kernel)
theorem w_applies : (headSpec (Jvm.Cond.code x code maxLocals ret :: tables_1) room_1).applies x e0.platform about1 = true :=
  (Spec.applies_iff w_frames).mpr ⟨w_running, w_runnable, w_alone, w_named, w_hears, w_ripe, w_room, w_tables⟩
theorem atStart : AtStart classFile x code maxLocals ret World_1 tables_1 room_1 Calls_1 rest_1 Pre_1 launch0 p0 e0 about1 theMethod args0 below0 :=
  ⟨lists_1, trivial, launch0.admits_env _ _ _, launch0.least_env, fairChoices_fair.cas, fairChoices_fair.clock, w_frames, w_args, w_heap, w_applies, ⟨w_consts, trivial⟩, w_rest, w_case⟩
end start1
theorem witness_1 : WitnessClaimed_1 := ⟨start1.p0, start1.e0, start1.about1, start1.theMethod, start1.args0, start1.below0, start1.atStart⟩
end Jvm.Pilot.@@N@@
