import JvmDerived
import JvmDerived.Pilot.@@N@@Statement
import JvmDerived.Pilot.@@N@@Code
set_option linter.unusedVariables false
set_option linter.unusedSimpArgs false
namespace Jvm.RoadKit
open Sem ClassFile Op Lib Jvm.Stand Jvm.Free Jvm.LawKit
section New
variable {p : Program} {l : Launch} {e : Env} {R : Room} {s : State} {m : MethodId} {args : Array Value} {below : List Frame} {meth : Method} {c : Code} {T : State} {locs : List Loc} {cells slots : Nat}
theorem retI (X : Stand p l e R s m args below meth c T locs cells slots) (hx : p.tables.exec = Jvm.exec) {pc : Nat} {Ls : Array Slot} {z : Int32} {rest : List Value} (hret : meth.sig.returnType = some .int) (hd : decode c.code pc = .ok (.ireturn, 1)) {fs : List Frame}
    (hl : ∀ (f : JFrame) (acts : List Action), f.method = m → f.locked = none → f.entered = [] → (doReturn e (T.setTop f) acts (some (.int z))).1 = T.setFrames fs) : Steps p.tables e below (T.setTop (mkF m pc Ls (.int z :: rest))) (T.setFrames fs) := by
  have hm' : T.vm.method? m = some meth := X.method'
  have hn : narrow .int (.int z) = .int z := rfl
  show Steps p.tables e below (T.setTop { method := m, pc := pc, locals := Ls, stack := _ :: rest, locked := none }) _
  jvm_step X.here [X.here.top, hx, hd, hm', hret, hn]
  first | (intro acts; rw [hl _ acts rfl rfl rfl]) | rw [hl _ _ rfl rfl rfl]
  exact Steps.refl _
theorem own_lremM {g : JFrame} {target : State} (X : Stand p l e R s m args below meth c T locs cells slots) (hx : p.tables.exec = Jvm.exec) (hg : g.method = m) {x y : Int64} {rest : List Value} (hd : decode c.code g.pc = .ok (.lrem, 1)) (hs : g.stack = .long y :: .long x :: rest) (hy : y ≠ 0)
    (hr : Steps p.tables e below (T.setTop { g with pc := g.pc + 1, stack := .long (x % y) :: rest }) target) : Steps p.tables e below (T.setTop g) target := by
  have q : x - x / y * y = x % y := lrem_mod x y
  exact XS.lrem X.here hx hg hd hs hy (by rw [q]; exact hr)
end New
end Jvm.RoadKit
namespace Jvm.RoadKit
open Sem ClassFile Op Lib Jvm.Stand Jvm.Free Jvm.LawKit
section OwnA
variable {p : Program} {l : Launch} {e : Env} {R : Room} {s : State} {m : MethodId} {args : Array Value} {below : List Frame} {meth : Method} {c : Code} {T : State} {locs : List Loc} {cells slots : Nat} {Z : State} {a0 : Array Value} {h h' : Heap} {a b : Addr} {ty : FieldType} {n : Nat} {G : Nat → Value}
def own_upd {α : Type} (g : Nat → α) (k : Nat) (x : α) (i : Nat) : α := if i = k then x else g i
def own_zI (_ : Nat) : Int32 := 0
def own_zJ (_ : Nat) : Int64 := 0
def own_A (Z : State) (h : Heap) (a : Addr) (ty : FieldType) (n : Nat) (G : Nat → Value) : Prop := ∃ c : Cell, Arr Z h a c ty ∧ c.slots.size = n ∧ ∀ i, i < n → c.slots[i]? = some (G i) ∧ fits ty (G i) = true
theorem own_A.lt (F : own_A Z h a ty n G) : a < h.size := by obtain ⟨c, A, -⟩ := F; exact A.lt
theorem own_A.ext (F : own_A Z h a ty n G) (E : Ext h h') : own_A Z h' a ty n G := by obtain ⟨c, A, r⟩ := F; exact ⟨c, A.ext E, r⟩
theorem own_A.other {sl : Nat} {v : Value} (F : own_A Z h b ty n G) (W : Wr h h' a sl v) (q : b ≠ a) : own_A Z h' b ty n G := by obtain ⟨c, A, r⟩ := F; exact ⟨c, A.other W q, r⟩
theorem own_A.keep {ws : List Addr} (F : own_A Z h a ty n G) (K : Keep h h' ws) (q : a ∉ ws) : own_A Z h' a ty n G := by obtain ⟨c, A, r⟩ := F; exact ⟨c, ⟨K.2.1 a c A.1 q, A.2⟩, r⟩
theorem own_A.new {k : ClassId} {z : Int32} (A : Arr Z h a (newA k ty z) ty) (q : z.toNatClampNeg = n) (hG : ∀ i, G i = defaultValue ty) : own_A Z h a ty n G :=
  ⟨_, A, by rw [sz_new, q], fun i hi => ⟨by rw [hG]; rw [← q] at hi; simp [newA, hi], by rw [hG]; cases ty <;> rfl⟩⟩
theorem own_A.set {k : Nat} {v : Value} (F : own_A Z h a ty n G) (W : Wr h h' a k v) (hk : k < n) (hf : fits ty v = true) : own_A Z h' a ty n (own_upd G k v) := by
  obtain ⟨c, A, q, r⟩ := F
  refine ⟨c.setSlot k v, A.same W, by rw [sz_set, q], fun i hi => ?_⟩
  by_cases e : i = k
  · subst e
    exact ⟨by simp [Cell.setSlot, own_upd, q, hk], by simpa [own_upd] using hf⟩
  · have r1 := r i hi
    have r2 : (c.setSlot k v).slots[i]? = c.slots[i]? := Array.getElem?_setIfInBounds_ne (Ne.symm e)
    have r3 : own_upd G k v i = G i := if_neg e
    rw [r2, r3]; exact r1
theorem own_upd_int (g : Nat → Int32) (k : Nat) (x : Int32) : own_upd (fun i => Value.int (g i)) k (.int x) = fun i => Value.int (own_upd g k x i) := by funext i; unfold own_upd; split <;> rfl
theorem own_upd_long (g : Nat → Int64) (k : Nat) (x : Int64) : own_upd (fun i => Value.long (g i)) k (.long x) = fun i => Value.long (own_upd g k x i) := by funext i; unfold own_upd; split <;> rfl
theorem own_inb {c : Cell} {j : Int32} {k : Nat} (q : c.slots.size = n) (hj0 : ¬ j < 0) (hk : j.toNatClampNeg = k) (hkn : k < n) : ¬ (j < 0 ∨ c.slots.size ≤ j.toNatClampNeg) := fun y => y.elim hj0 fun z => by rw [q, hk] at z; exact absurd hkn (Nat.not_lt.mpr z)
theorem own_stI {g0 : Nat → Int32} (X : Stand p l e R s m args below meth c T locs cells slots) (hx : p.tables.exec = Jvm.exec) (hZ : Z.Warmed39 s.vm) (eT : T.heap = h) (F : own_A Z h a .int n (fun i => .int (g0 i))) {j x : Int32} {k : Nat} (hj0 : ¬ j < 0) (hk : j.toNatClampNeg = k) (hkn : k < n) {g : JFrame} (hg : g.method = m) {rest : List Value} (hs : g.stack = .int x :: .int j :: .ref a :: rest) (hd : decode c.code g.pc = .ok (.iastore, 1)) :
    ∃ T' h', Stand p l e R s m args below meth c T' (locs ++ [⟨a, j.toNatClampNeg⟩]) cells slots ∧ T'.heap = h' ∧ Wr h h' a j.toNatClampNeg (.int x) ∧ own_A Z h' a .int n (fun i => .int (own_upd g0 k x i)) ∧ ∀ target, Steps p.tables e below (T'.setTop { g with pc := g.pc + 1, stack := rest }) target → Steps p.tables e below (T.setTop g) target := by
  obtain ⟨cl, A, q, r⟩ := id F
  obtain ⟨T', h', X', e', W, st⟩ := stI X hx hZ eT A (j := j) (x := x) (own_inb q hj0 hk hkn) hg hs hd
  exact ⟨T', h', X', e', W, own_upd_int g0 k x ▸ hk ▸ F.set W (by rw [hk]; exact hkn) rfl, st⟩
theorem own_stJ {g0 : Nat → Int64} (X : Stand p l e R s m args below meth c T locs cells slots) (hx : p.tables.exec = Jvm.exec) (hZ : Z.Warmed39 s.vm) (eT : T.heap = h) (F : own_A Z h a .long n (fun i => .long (g0 i))) {j : Int32} {x : Int64} {k : Nat} (hj0 : ¬ j < 0) (hk : j.toNatClampNeg = k) (hkn : k < n) {g : JFrame} (hg : g.method = m) {rest : List Value} (hs : g.stack = .long x :: .int j :: .ref a :: rest) (hd : decode c.code g.pc = .ok (.lastore, 1)) :
    ∃ T' h', Stand p l e R s m args below meth c T' (locs ++ [⟨a, j.toNatClampNeg⟩]) cells slots ∧ T'.heap = h' ∧ Wr h h' a j.toNatClampNeg (.long x) ∧ own_A Z h' a .long n (fun i => .long (own_upd g0 k x i)) ∧ ∀ target, Steps p.tables e below (T'.setTop { g with pc := g.pc + 1, stack := rest }) target → Steps p.tables e below (T.setTop g) target := by
  obtain ⟨cl, A, q, r⟩ := id F
  obtain ⟨T', h', X', e', W, st⟩ := stJ X hx hZ eT A (j := j) (x := x) (own_inb q hj0 hk hkn) hg hs hd
  exact ⟨T', h', X', e', W, own_upd_long g0 k x ▸ hk ▸ F.set W (by rw [hk]; exact hkn) rfl, st⟩
theorem own_stB {g0 : Nat → Int32} (X : Stand p l e R s m args below meth c T locs cells slots) (hx : p.tables.exec = Jvm.exec) (hZ : Z.Warmed39 s.vm) (eT : T.heap = h) (F : own_A Z h a .byte n (fun i => .int (g0 i))) {j x : Int32} {k : Nat} (hj0 : ¬ j < 0) (hk : j.toNatClampNeg = k) (hkn : k < n) {g : JFrame} (hg : g.method = m) {rest : List Value} (hs : g.stack = .int x :: .int j :: .ref a :: rest) (hd : decode c.code g.pc = .ok (.bastore, 1)) :
    ∃ T' h', Stand p l e R s m args below meth c T' (locs ++ [⟨a, j.toNatClampNeg⟩]) cells slots ∧ T'.heap = h' ∧ Wr h h' a j.toNatClampNeg (.int x.toInt8.toInt32) ∧ own_A Z h' a .byte n (fun i => .int (own_upd g0 k x.toInt8.toInt32 i)) ∧ ∀ target, Steps p.tables e below (T'.setTop { g with pc := g.pc + 1, stack := rest }) target → Steps p.tables e below (T.setTop g) target := by
  obtain ⟨cl, A, q, r⟩ := id F
  obtain ⟨T', h', X', e', W, st⟩ := stB X hx hZ eT A (j := j) (x := x) (own_inb q hj0 hk hkn) hg hs hd
  have hfb : fits .byte (.int (nar .byte x)) = true := fits_nar_byte x
  exact ⟨T', h', X', e', W, own_upd_int g0 k _ ▸ hk ▸ F.set W (by rw [hk]; exact hkn) hfb, st⟩
theorem own_stC {g0 : Nat → Int32} (X : Stand p l e R s m args below meth c T locs cells slots) (hx : p.tables.exec = Jvm.exec) (hZ : Z.Warmed39 s.vm) (eT : T.heap = h) (F : own_A Z h a .char n (fun i => .int (g0 i))) {j x : Int32} {k : Nat} (hj0 : ¬ j < 0) (hk : j.toNatClampNeg = k) (hkn : k < n) {g : JFrame} (hg : g.method = m) {rest : List Value} (hs : g.stack = .int x :: .int j :: .ref a :: rest) (hd : decode c.code g.pc = .ok (.castore, 1)) :
    ∃ T' h', Stand p l e R s m args below meth c T' (locs ++ [⟨a, j.toNatClampNeg⟩]) cells slots ∧ T'.heap = h' ∧ Wr h h' a j.toNatClampNeg (.int x.toUInt32.toUInt16.toUInt32.toInt32) ∧ own_A Z h' a .char n (fun i => .int (own_upd g0 k x.toUInt32.toUInt16.toUInt32.toInt32 i)) ∧ ∀ target, Steps p.tables e below (T'.setTop { g with pc := g.pc + 1, stack := rest }) target → Steps p.tables e below (T.setTop g) target := by
  obtain ⟨cl, A, q, r⟩ := id F
  obtain ⟨T', h', X', e', W, st⟩ := stC X hx hZ eT A (j := j) (x := x) (own_inb q hj0 hk hkn) hg hs hd
  have hfc : fits .char (.int (nar .char x)) = true := fits_nar_char x
  exact ⟨T', h', X', e', W, own_upd_int g0 k _ ▸ hk ▸ F.set W (by rw [hk]; exact hkn) hfc, st⟩
theorem own_ldI {g0 : Nat → Int32} (X : Stand p l e R s m args below meth c T locs cells slots) (hx : p.tables.exec = Jvm.exec) (hZ : Z.Warmed39 s.vm) (eT : T.heap = h) (F : own_A Z h a .int n (fun i => .int (g0 i))) {j : Int32} {k : Nat} (hj0 : ¬ j < 0) (hk : j.toNatClampNeg = k) (hkn : k < n) {g : JFrame} (hg : g.method = m) {rest : List Value} (hs : g.stack = .int j :: .ref a :: rest) (hd : decode c.code g.pc = .ok (.iaload, 1)) {target : State}
    (hr : Steps p.tables e below (T.setTop { g with pc := g.pc + 1, stack := .int (g0 k) :: rest }) target) : Steps p.tables e below (T.setTop g) target := by
  obtain ⟨cl, A, q, r⟩ := F
  exact X.iaload hx (j := j) (v := .int (g0 k)) (by rw [eT]; exact A.1) (State.isArrayOf_alike hZ.alike A.2.1) A.2.2 (own_inb q hj0 hk hkn) (by rw [hk]; exact (r k hkn).1) hg hs hd _ hr
theorem own_ldJ {g0 : Nat → Int64} (X : Stand p l e R s m args below meth c T locs cells slots) (hx : p.tables.exec = Jvm.exec) (hZ : Z.Warmed39 s.vm) (eT : T.heap = h) (F : own_A Z h a .long n (fun i => .long (g0 i))) {j : Int32} {k : Nat} (hj0 : ¬ j < 0) (hk : j.toNatClampNeg = k) (hkn : k < n) {g : JFrame} (hg : g.method = m) {rest : List Value} (hs : g.stack = .int j :: .ref a :: rest) (hd : decode c.code g.pc = .ok (.laload, 1)) {target : State}
    (hr : Steps p.tables e below (T.setTop { g with pc := g.pc + 1, stack := .long (g0 k) :: rest }) target) : Steps p.tables e below (T.setTop g) target := by
  obtain ⟨cl, A, q, r⟩ := F
  exact X.laload hx (j := j) (v := .long (g0 k)) (by rw [eT]; exact A.1) (State.isArrayOf_alike hZ.alike A.2.1) A.2.2 (own_inb q hj0 hk hkn) (by rw [hk]; exact (r k hkn).1) hg hs hd _ hr
theorem own_ldB {g0 : Nat → Int32} (X : Stand p l e R s m args below meth c T locs cells slots) (hx : p.tables.exec = Jvm.exec) (hZ : Z.Warmed39 s.vm) (eT : T.heap = h) (F : own_A Z h a .byte n (fun i => .int (g0 i))) {j : Int32} {k : Nat} (hj0 : ¬ j < 0) (hk : j.toNatClampNeg = k) (hkn : k < n) {g : JFrame} (hg : g.method = m) {rest : List Value} (hs : g.stack = .int j :: .ref a :: rest) (hd : decode c.code g.pc = .ok (.baload, 1)) {target : State}
    (hr : Steps p.tables e below (T.setTop { g with pc := g.pc + 1, stack := .int (g0 k) :: rest }) target) : Steps p.tables e below (T.setTop g) target := by
  obtain ⟨cl, A, q, r⟩ := F
  exact X.baloadBytes hx (j := j) (v := .int (g0 k)) (by rw [eT]; exact A.1) (State.isArrayOf_alike hZ.alike A.2.1) A.2.2 (own_inb q hj0 hk hkn) (by rw [hk]; exact (r k hkn).1) hg hs hd _ hr
theorem own_ldC {g0 : Nat → Int32} (X : Stand p l e R s m args below meth c T locs cells slots) (hx : p.tables.exec = Jvm.exec) (hZ : Z.Warmed39 s.vm) (eT : T.heap = h) (F : own_A Z h a .char n (fun i => .int (g0 i))) {j : Int32} {k : Nat} (hj0 : ¬ j < 0) (hk : j.toNatClampNeg = k) (hkn : k < n) {g : JFrame} (hg : g.method = m) {rest : List Value} (hs : g.stack = .int j :: .ref a :: rest) (hd : decode c.code g.pc = .ok (.caload, 1)) {target : State}
    (hr : Steps p.tables e below (T.setTop { g with pc := g.pc + 1, stack := .int (g0 k) :: rest }) target) : Steps p.tables e below (T.setTop g) target := by
  obtain ⟨cl, A, q, r⟩ := F
  exact X.caload hx (j := j) (v := .int (g0 k)) (by rw [eT]; exact A.1) (State.isArrayOf_alike hZ.alike A.2.1) A.2.2 (own_inb q hj0 hk hkn) (by rw [hk]; exact (r k hkn).1) hg hs hd _ hr
theorem own_ldR {G : Nat → Value} (X : Stand p l e R s m args below meth c T locs cells slots) (hx : p.tables.exec = Jvm.exec) (hZ : Z.Warmed39 s.vm) (eT : T.heap = h) (F : own_A Z h a ty n G) (hty : ty.isReference = true) {j : Int32} {k : Nat} {v : Value} (hv : G k = v) (hj0 : ¬ j < 0) (hk : j.toNatClampNeg = k) (hkn : k < n) {g : JFrame} (hg : g.method = m) {rest : List Value} (hs : g.stack = .int j :: .ref a :: rest) (hd : decode c.code g.pc = .ok (.aaload, 1)) {target : State}
    (hr : Steps p.tables e below (T.setTop { g with pc := g.pc + 1, stack := v :: rest }) target) : Steps p.tables e below (T.setTop g) target := by
  obtain ⟨cl, A, q, r⟩ := F
  exact X.aaload hx (j := j) (v := v) (by rw [eT]; exact A.1) (State.isArrayOf_alike hZ.alike A.2.1) hty A.2.2 (own_inb q hj0 hk hkn) (by rw [hk, ← hv]; exact (r k hkn).1) hg hs hd _ hr
theorem own_len (X : Stand p l e R s m args below meth c T locs cells slots) (hx : p.tables.exec = Jvm.exec) (hZ : Z.Warmed39 s.vm) (eT : T.heap = h) (F : own_A Z h a ty n G) {z : Int32} (hz : n.toInt32 = z) {g : JFrame} (hg : g.method = m) {rest : List Value} (hs : g.stack = .ref a :: rest) (hd : decode c.code g.pc = .ok (.arraylength, 1)) {target : State}
    (hr : Steps p.tables e below (T.setTop { g with pc := g.pc + 1, stack := .int z :: rest }) target) : Steps p.tables e below (T.setTop g) target := by
  obtain ⟨cl, A, q, r⟩ := F
  exact X.arraylength hx (by rw [eT]; exact A.1) (State.isArrayOf_alike hZ.alike A.2.1) hg hs hd _ (by rw [q, hz]; exact hr)
theorem own_newP {aty : ArrayType} (X : Stand p l e R s m args below meth c T locs cells slots) (hx : p.tables.exec = Jvm.exec) (hZ : Z.Warmed39 s.vm) (w : (Cond.arrayClass (newarray.typeOf aty)).before a0 Z = true) (eT : T.heap = h) {g : JFrame} (hg : g.method = m) (hd : decode c.code g.pc = .ok (.newarray aty, 2)) {z : Int32} {rest : List Value} (hs : g.stack = .int z :: rest)
    (hn : ¬ z < 0) (hzn : z.toNatClampNeg = n) {G : Nat → Value} (hG : ∀ i, G i = defaultValue (newarray.typeOf aty)) {cap : Nat} (hcap : n ≤ cap) (hb : cap * 8 ≤ 536870912) (hc : cells + 1 ≤ R.cells) (hl : slots + cap ≤ R.slots) :
    ∃ (T' : State) (h' : Heap) (b : Addr), b = h.size ∧ Stand p l e R s m args below meth c T' locs (cells + 1) (slots + cap) ∧ T'.heap = h' ∧ Ext h h' ∧ own_A Z h' b (newarray.typeOf aty) n G ∧
      ∀ target, Steps p.tables e below (T'.setTop { g with pc := g.pc + 2, stack := .ref b :: rest }) target → Steps p.tables e below (T.setTop g) target := by
  obtain ⟨T', h', cA, X', e', E', A', st⟩ := newP X hx hZ w eT hg hd hs hn (cap := cap) (by rw [hzn]; exact hcap) hb hc hl
  exact ⟨T', h', _, rfl, X', e', E', own_A.new A' hzn hG, st⟩
theorem own_newPE {aty : ArrayType} (X : Stand p l e R s m args below meth c T locs cells slots) (hx : p.tables.exec = Jvm.exec) (hZ : Z.Warmed39 s.vm) (w : (Cond.arrayClass (newarray.typeOf aty)).before a0 Z = true) (eT : T.heap = h) {g : JFrame} (hg : g.method = m) (hd : decode c.code g.pc = .ok (.newarray aty, 2)) {z : Int32} {rest : List Value} (hs : g.stack = .int z :: rest)
    (hn : ¬ z < 0) (hzn : z.toNatClampNeg = n) {G : Nat → Value} (hG : ∀ i, G i = defaultValue (newarray.typeOf aty)) {cap : Nat} (hcap : n ≤ cap) (hb : cap * 8 ≤ 536870912) (hc : cells + 1 ≤ R.cells) (hl : slots + cap ≤ R.slots) {ad : String} (had : "[" ++ (newarray.typeOf aty).toString = ad) :
    ∃ (T' : State) (h' : Heap) (b : Addr), b = h.size ∧ Stand p l e R s m args below meth c T' locs (cells + 1) (slots + cap) ∧ T'.heap = h' ∧ Ext h h' ∧ own_A Z h' b (newarray.typeOf aty) n G ∧ Exa Z h' b ad ∧
      ∀ target, Steps p.tables e below (T'.setTop { g with pc := g.pc + 2, stack := .ref b :: rest }) target → Steps p.tables e below (T.setTop g) target := by
  obtain ⟨T', h', cA, X', e', E', A', B', st⟩ := newPE X hx hZ w eT hg hd hs hn (cap := cap) (by rw [hzn]; exact hcap) hb hc hl had
  exact ⟨T', h', _, rfl, X', e', E', own_A.new A' hzn hG, B', st⟩
theorem own_clone (X : Stand p l e R s m args below meth c T locs cells slots) (hx : p.tables.exec = Jvm.exec) (hZ : Z.Warmed39 s.vm) {own ad : String} {index : Nat} (hown : s.vm.findClass own = some m.cls)
    (w1 : (Cond.methodLink own index ⟨ad, "clone", "()Ljava/lang/Object;"⟩).before a0 Z = true) (w2 : (Cond.sameMethod ad "java/lang/Object" "clone" "()Ljava/lang/Object;").before a0 Z = true) (w3 : (Cond.native ⟨"java/lang/Object", "clone", "()Ljava/lang/Object;"⟩).before a0 Z = true)
    (w4 : (Cond.instanceMethod ⟨"java/lang/Object", "clone", "()Ljava/lang/Object;"⟩).before a0 Z = true) (w5 : (Cond.selects ad ⟨ad, "clone", "()Ljava/lang/Object;"⟩ ⟨"java/lang/Object", "clone", "()Ljava/lang/Object;"⟩).before a0 Z = true) (w6 : (Cond.castable ad "java/lang/Cloneable").before a0 Z = true)
    (eT : T.heap = h) (F : own_A Z h a ty n G) (E : Exa Z h a ad) {g : JFrame} (hg : g.method = m) (hsize : g.locals.size = c.maxLocals) {rest : List Value} (hs : g.stack = .ref a :: rest) (hd : decode c.code g.pc = .ok (.invokevirtual index, 3))
    (hf : 1 ≤ R.frames) {W cap : Nat} (hW : 2 * g.monitorRoom + (rest.map fun v => v.category).sum ≤ W) (hl : W + 14 ≤ R.locals) (hcap : n ≤ cap) (hc : cells + 1 ≤ R.cells) (hsl : slots + cap ≤ R.slots) :
    ∃ (T' : State) (h' : Heap) (b : Addr), b = h.size ∧ Stand p l e R s m args below meth c T' locs (cells + 1) (slots + cap) ∧ T'.heap = h' ∧ Ext h h' ∧ own_A Z h' b ty n G ∧ Exa Z h' b ad ∧
      ∀ target, Steps p.tables e below (T'.setTop { g with pc := g.pc + 3, stack := .ref b :: rest }) target → Steps p.tables e below (T.setTop g) target := by
  obtain ⟨cl, A, q, r⟩ := F
  have FC : FitC Z cl := fitC_of A fun i hi v hv => by
    have r1 := r i (by rw [← q]; exact hi)
    rw [r1.1] at hv; cases hv; exact r1.2
  obtain ⟨T', h', X', e', ex, A', E', st⟩ := cloneA X hx hZ hown w1 w2 w3 w4 w5 w6 eT A E FC hg hsize hs hd hf hW hl (by rw [q]; exact hcap) hc hsl
  exact ⟨T', h', _, rfl, X', e', ex, ⟨cloneOf cl, A', q, r⟩, E', st⟩
theorem own_A.congr {G' : Nat → Value} (F : own_A Z h a ty n G) (q : ∀ i, i < n → G i = G' i) : own_A Z h a ty n G' := by
  obtain ⟨c, A, s, r⟩ := F
  exact ⟨c, A, s, fun i hi => by rw [← q i hi]; exact r i hi⟩
theorem own_A_plain (F : own_A Z h a ty n G) : ∀ c : Cell, h[a]? = some c → c.vm.isStatics = false := fun c hc => by
  obtain ⟨cl, A, -⟩ := F
  cases hc.symm.trans A.1
  exact A.plain
theorem own_E_plain {C : String} (F : Exa Z h a C) : ∀ c : Cell, h[a]? = some c → c.vm.isStatics = false := fun c hc => by
  obtain ⟨cl, k, h1, -, -, h4, -⟩ := F
  cases hc.symm.trans h1
  exact h4
theorem own_sta_keep {C f d : String} {v : Value} {ws : List Addr} (F : Sta Z h C f d v) (K : Keep h h' ws) (q : ∀ x ∈ ws, ∀ c : Cell, h[x]? = some c → c.vm.isStatics = false) : Sta Z h' C f d v := by
  obtain ⟨cf, i, k, f, st, cell, h1, h2, h3, h4, h5, h6, h7⟩ := F
  exact ⟨cf, i, k, f, st, cell, h1, h2, h3, h4, K.2.1 st cell h5 (fun z => by rw [q st z cell h5] at h6; cases h6), h6, h7⟩
end OwnA
end Jvm.RoadKit
namespace Jvm.RoadKit
open Sem ClassFile Op Lib Jvm.Stand Jvm.Free Jvm.LawKit
section OwnR
variable {p : Program} {l : Launch} {e : Env} {R : Room} {s : State} {m : MethodId} {args : Array Value} {below : List Frame} {meth : Method} {c : Code} {T : State} {locs : List Loc} {cells slots : Nat} {Z : State} {a0 : Array Value} {h h' : Heap} {a b : Addr} {n : Nat} {G : Nat → Value} {C : String} {kc : ClassId}
def own_zR (_ : Nat) : Value := .null
def own_R (Z : State) (h : Heap) (a : Addr) (kc : ClassId) (C : String) (n : Nat) (G : Nat → Value) : Prop := ∃ c : Cell, Arr Z h a c (.object C) ∧ c.cls = kc ∧ c.slots.size = n ∧ ∀ i, i < n → c.slots[i]? = some (G i) ∧ fits (.object C) (G i) = true
theorem own_R.lt (F : own_R Z h a kc C n G) : a < h.size := by obtain ⟨c, A, -⟩ := F; exact A.lt
theorem own_R.ext (F : own_R Z h a kc C n G) (E : Ext h h') : own_R Z h' a kc C n G := by obtain ⟨c, A, r⟩ := F; exact ⟨c, A.ext E, r⟩
theorem own_R.other {sl : Nat} {v : Value} (F : own_R Z h b kc C n G) (W : Wr h h' a sl v) (q : b ≠ a) : own_R Z h' b kc C n G := by obtain ⟨c, A, r⟩ := F; exact ⟨c, A.other W q, r⟩
theorem own_R.keep {ws : List Addr} (F : own_R Z h a kc C n G) (K : Keep h h' ws) (q : a ∉ ws) : own_R Z h' a kc C n G := by obtain ⟨c, A, r⟩ := F; exact ⟨c, ⟨K.2.1 a c A.1 q, A.2⟩, r⟩
theorem own_R.toA (F : own_R Z h a kc C n G) : own_A Z h a (.object C) n G := by obtain ⟨c, A, _, r⟩ := F; exact ⟨c, A, r⟩
theorem own_newR (X : Stand p l e R s m args below meth c T locs cells slots) (hx : p.tables.exec = Jvm.exec) (hZ : Z.Warmed39 s.vm) {own : String} {index : Nat} (hown : s.vm.findClass own = some m.cls) (w1 : (Cond.classLink own index C).before a0 Z = true) (w2 : (Cond.arrayOver (.object C)).before a0 Z = true)
    (eT : T.heap = h) {g : JFrame} (hg : g.method = m) (hd : decode c.code g.pc = .ok (.anewarray index, 3)) {z : Int32} {rest : List Value} (hs : g.stack = .int z :: rest) (hn : ¬ z < 0) (hzn : z.toNatClampNeg = n) (hb : n * 8 ≤ 536870912) (hc : cells + 1 ≤ R.cells) (hl : slots + n ≤ R.slots) :
    ∃ (T' : State) (h' : Heap) (b : Addr) (kc : ClassId), b = h.size ∧ Stand p l e R s m args below meth c T' locs (cells + 1) (slots + n) ∧ T'.heap = h' ∧ Ext h h' ∧ own_R Z h' b kc C n own_zR ∧ Ovr Z kc C ∧
      ∀ target, Steps p.tables e below (T'.setTop { g with pc := g.pc + 3, stack := .ref b :: rest }) target → Steps p.tables e below (T.setTop g) target := by
  obtain ⟨T', h', cA, X', e', E', A', O', st⟩ := newR X hx hZ hown w1 w2 eT hg hd hs hn (cap := n) (by rw [hzn]; exact Nat.le_refl _) hb hc hl
  exact ⟨T', h', _, cA, rfl, X', e', E', ⟨_, A', rfl, by rw [sz_new, hzn], fun i hi => ⟨by rw [← hzn] at hi; simp [newA, hi, own_zR, defaultValue], rfl⟩⟩, O', st⟩
theorem own_stR (X : Stand p l e R s m args below meth c T locs cells slots) (hx : p.tables.exec = Jvm.exec) (hZ : Z.Warmed39 s.vm) (eT : T.heap = h) (F : own_R Z h a kc C n G) (O : Ovr Z kc C) {y : Addr} (I : Ins Z h y C true) {j : Int32} {k : Nat} (hj0 : ¬ j < 0) (hk : j.toNatClampNeg = k) (hkn : k < n) {g : JFrame} (hg : g.method = m) {rest : List Value} (hs : g.stack = .ref y :: .int j :: .ref a :: rest) (hd : decode c.code g.pc = .ok (.aastore, 1)) :
    ∃ T' h', Stand p l e R s m args below meth c T' (locs ++ [⟨a, j.toNatClampNeg⟩]) cells slots ∧ T'.heap = h' ∧ Wr h h' a j.toNatClampNeg (.ref y) ∧ own_R Z h' a kc C n (own_upd G k (.ref y)) ∧ ∀ target, Steps p.tables e below (T'.setTop { g with pc := g.pc + 1, stack := rest }) target → Steps p.tables e below (T.setTop g) target := by
  obtain ⟨cl, A, q0, q, r⟩ := id F
  obtain ⟨T', h', X', e', W, st⟩ := stR X hx hZ eT A (j := j) (own_inb q hj0 hk hkn) rfl (Sto.ofV A q0 O I) hg hs hd
  refine ⟨T', h', X', e', W, ⟨cl.setSlot j.toNatClampNeg (.ref y), A.same W, q0, by rw [sz_set, q], fun i hi => ?_⟩, st⟩
  by_cases e : i = k
  · subst e
    exact ⟨by rw [hk]; simp [Cell.setSlot, own_upd, q, hkn], by simp [own_upd, fits]⟩
  · have r1 := r i hi
    have r2 : (cl.setSlot j.toNatClampNeg (.ref y)).slots[i]? = cl.slots[i]? := Array.getElem?_setIfInBounds_ne (by rw [hk]; exact Ne.symm e)
    have r3 : own_upd G k (.ref y) i = G i := if_neg e
    rw [r2, r3]; exact r1
end OwnR
end Jvm.RoadKit
namespace Jvm.RoadKit
open Sem ClassFile Op Lib Jvm.Stand Jvm.Free Jvm.LawKit
section OwnStart
variable {Z s : State} {args : Array Value} {t : Term} {a : Addr}
theorem own_eqi {t : Term} {n : Int32} {args : Array Value} {s : State} (h : (Cond.eq t (.int n)).value args s none s [] = some true) : t.eval args s none [] s = some (.int n) := Jvm.Free.NT.SwA.eq_int (Cond.before_iff.mpr h)
theorem own_eqr {t u : Term} {x : Addr} {args : Array Value} {s : State} (hu : u.eval args s none [] s = some (.ref x)) (h : (Cond.eq t u).value args s none s [] = some true) : t.eval args s none [] s = some (.ref x) := by
  simp only [Cond.value, hu] at h
  cases ht : t.eval args s none [] s with
  | none => simp [ht] at h
  | some v => cases v <;> simp_all
def own_HL (args : Array Value) (s : State) (t : Term) : Nat → List Int32 → Prop
  | _, [] => True
  | k, v :: vs => (Term.elem t (.int (Int32.ofNat k))).eval args s none [] s = some (.int v) ∧ own_HL args s t (k + 1) vs
theorem own_HL_at : ∀ (vs : List Int32) (k : Nat), own_HL args s t k vs → ∀ i, i < vs.length → (Term.elem t (.int (Int32.ofNat (k + i)))).eval args s none [] s = some (.int (vs.getD i 0))
  | [], _, _, i, hi => absurd hi (Nat.not_lt_zero i)
  | v :: vs, k, h, i, hi => by
    cases i with
    | zero => exact h.1
    | succ i =>
      have q := own_HL_at vs (k + 1) h.2 i (by simpa using hi)
      rw [show k + (i + 1) = k + 1 + i by omega]
      simpa using q
def own_HV (args : Array Value) (s : State) (t : Term) : Nat → List Value → Prop
  | _, [] => True
  | k, v :: vs => (Term.elem t (.int (Int32.ofNat k))).eval args s none [] s = some v ∧ own_HV args s t (k + 1) vs
theorem own_HV_at : ∀ (vs : List Value) (k : Nat), own_HV args s t k vs → ∀ i, i < vs.length → (Term.elem t (.int (Int32.ofNat (k + i)))).eval args s none [] s = some (vs.getD i .null)
  | [], _, _, i, hi => absurd hi (Nat.not_lt_zero i)
  | v :: vs, k, h, i, hi => by
    cases i with
    | zero => exact h.1
    | succ i =>
      have q := own_HV_at vs (k + 1) h.2 i (by simpa using hi)
      rw [show k + (i + 1) = k + 1 + i by omega]
      simpa using q
theorem own_arr {ty : FieldType} {n : Nat} {z : Int32} (ev : t.eval args s none [] s = some (.ref a)) (hx : (Cond.arrayOf t ty).value args s none s [] = some true) (hl : (Term.length t).eval args s none [] s = some (.int z)) (hz : z.toNatClampNeg = n ∧ ¬ z < 0) : ∃ cl, Arr s s.heap a cl ty ∧ s.arrayAt? a = some cl ∧ cl.slots.size = n ∧ cl.slots.size < 2 ^ 31 := by
  obtain ⟨cl, A⟩ := Arr.start ev hx
  have ha : s.arrayAt? a = some cl := A.fin (Vm.Alike.refl _)
  have hb : cl.slots.size < 2 ^ 31 := by
    by_cases hb : cl.slots.size < 2 ^ 31
    · exact hb
    · have hb' : ¬ cl.slots.size < 2147483648 := hb
      simp [Term.eval, ev, ha, hb'] at hl
  refine ⟨cl, A, ha, ?_, hb⟩
  rw [len_f ev ha hb] at hl
  have e : cl.slots.size.toInt32 = z := by simpa using hl
  have l := len_toInt hb
  rw [e] at l
  have n1 := nat_of hz.2
  omega
theorem own_AG_start {ty : FieldType} {n : Nat} {z : Int32} {G : Nat → Value} (hf : Fit s) (ev : t.eval args s none [] s = some (.ref a)) (hx : (Cond.arrayOf t ty).value args s none s [] = some true) (hl : (Term.length t).eval args s none [] s = some (.int z)) (hz : z.toNatClampNeg = n ∧ ¬ z < 0) (he : ∀ i, i < n → (Term.elem t (.int (Int32.ofNat i))).eval args s none [] s = some (G i)) : own_A s s.heap a ty n G := by
  obtain ⟨cl, A, ha, sz, hb⟩ := own_arr ev hx hl hz
  refine ⟨cl, A, sz, fun i hi => ?_⟩
  have q := elem_in (he i hi) ev rfl A.1
  have hi2 : i < 2 ^ 31 := by omega
  have ej : (Int32.ofNat i).toNatClampNeg = i := by
    have l := len_toInt hi2
    have n0 : ¬ (Int32.ofNat i) < 0 := fun w => q.1 (Or.inl w)
    have n1 := nat_of n0
    have l' : (Int32.ofNat i).toInt = (i : Int) := l
    omega
  obtain ⟨w, w1, w2⟩ := elem_fit hf A q.1
  rw [ej] at q w1
  refine ⟨q.2, ?_⟩
  cases w1.symm.trans q.2
  exact w2
theorem own_A_start {n : Nat} {z : Int32} {vs : List Int32} (hf : Fit s) (ev : t.eval args s none [] s = some (.ref a)) (hx : (Cond.arrayOf t .int).value args s none s [] = some true) (hl : (Term.length t).eval args s none [] s = some (.int z)) (hz : z.toNatClampNeg = n ∧ ¬ z < 0 ∧ vs.length = n) (he : own_HL args s t 0 vs) : own_A s s.heap a .int n (fun i => .int (vs.getD i 0)) :=
  own_AG_start hf ev hx hl ⟨hz.1, hz.2.1⟩ fun i hi => by
    have q := own_HL_at vs 0 he i (by rw [hz.2.2]; exact hi)
    rw [Nat.zero_add] at q
    exact q
theorem own_AR_start {ty : FieldType} {n : Nat} {z : Int32} {vs : List Value} (hf : Fit s) (ev : t.eval args s none [] s = some (.ref a)) (hx : (Cond.arrayOf t ty).value args s none s [] = some true) (hl : (Term.length t).eval args s none [] s = some (.int z)) (hz : z.toNatClampNeg = n ∧ ¬ z < 0 ∧ vs.length = n) (he : own_HV args s t 0 vs) : own_A s s.heap a ty n (fun i => vs.getD i .null) :=
  own_AG_start hf ev hx hl ⟨hz.1, hz.2.1⟩ fun i hi => by
    have q := own_HV_at vs 0 he i (by rw [hz.2.2]; exact hi)
    rw [Nat.zero_add] at q
    exact q
end OwnStart
end Jvm.RoadKit
namespace Jvm.RoadKit
open Sem ClassFile Op Lib Bundle Jvm.Stand Jvm.Free Jvm.LawKit Jvm.Free.SB Jvm.Free.SBG
section OwnH
variable {p : Program} {l : Launch} {e : Env} {R : Room} {s : State} {m : MethodId} {args : Array Value} {below : List Frame} {meth : Method} {c : Code} {T : State} {locs : List Loc} {cells slots : Nat} {Z : State} {a0 : Array Value} {h h' : Heap} {vm vm' : Vm} {own text : String} {ix : Nat}
def own_at (Z : State) (vm : Vm) (h : Heap) : State := { Z with vm := vm, heap := h }
def own_H (cs : List (String × Nat × String)) (Z : State) (vm : Vm) (h : Heap) : Prop := ∀ q ∈ cs, ConstHeldL (own_at Z vm h) q.1 q.2.1
/-- no held String lies at w, nor her bytes -/
def own_apart (Z : State) (vm : Vm) (h : Heap) (w : Addr) : Prop := ∀ (q : SQ) (cS : ClassId), Sl q cS (own_at Z vm h) → q.sa ≠ w ∧ q.sd ≠ w
theorem own_sl_keep {ws : List Addr} {a : Addr} {u : Array UInt16} (H : SlOf (own_at Z vm h) a u) (hal : vm.Alike vm') (K : Keep h h' ws) (A : ∀ w ∈ ws, own_apart Z vm h w) : SlOf (own_at Z vm' h') a u := by
  obtain ⟨q, cS, h1, h2, ⟨kS, k1, k2, k3⟩, h4, h5⟩ := H
  obtain ⟨kS', hk', ek⟩ := hal.2.2 _ _ k1
  have n1 : q.sa ∉ ws := fun z => (A _ z q cS h2).1 rfl
  have n2 : q.sd ∉ ws := fun z => (A _ z q cS h2).2 rfl
  exact ⟨q, cS, h1, h2.carry (U' := own_at Z vm' h') hal (K.2.1 _ _ h2.1.1 n1) (K.2.1 _ _ h2.1.2.2.2.2.2.2.2.2.2.1 n2), ⟨kS', hk', by rw [ek]; exact k2, by rw [ek]; exact k3⟩, by show vm'.findClass _ = _; rw [hal.findClass]; exact h4, h5⟩
/-- one constant, over tables that may have interned other texts -/
theorem own_carry {B : State} (hB : Z.Warmed39 B.vm) (w : (Cond.stringLink own ix text).before a0 Z = true) (hW : B.Warmed39 vm') (hint : ∀ (u : Array UInt16) (a : Addr), utf16ToString? u = some text → vm'.interned.find? (fun p => p.1 == u) = some (u, a) → B.vm.interned.find? (fun p => p.1 == u) = some (u, a))
    (hsl : ∀ a u, SlOf (own_at Z B.vm h) a u → SlOf (own_at Z vm' h') a u) (H : ConstHeldL (own_at Z B.vm h) own ix) : ConstHeldL (own_at Z vm' h') own ix := by
  intro c k' cf i units a hc' hk' hcf' hp hu hor
  have hc : B.vm.findClass own = some c := by rw [← hW.alike.findClass]; exact hc'
  have w' : (Cond.stringLink own ix text).before a0 B = true := mvS (s := B) hB w
  obtain ⟨k, cf0, i0, units0, hk, hcf, hp0, hu0, hnm, htext, -⟩ := Cond.stringLink_spec hc w'
  obtain ⟨k'', hk'', hke, -, ee, -⟩ := hW.2.2.2 c k hk
  cases (show vm'.classes[c]? = some k' from hk').symm.trans hk''
  have hcfk : k'.cf = k.cf := by rw [hke]
  cases (hcfk ▸ hcf').symm.trans hcf
  cases hp.symm.trans hp0
  cases hu.symm.trans hu0
  refine hsl _ _ ?_
  rcases ee ix with e0 | ⟨hop, r, e1, hr | ⟨a3, t, si, us, rfl, -, q3, q4, q5⟩⟩
  · rcases hor with h0 | ⟨h0, hf⟩
    · exact H c k cf i units a hc hk hcf hp hu (Or.inl (e0 ▸ h0))
    · exact H c k cf i units a hc hk hcf hp hu (Or.inr ⟨e0 ▸ h0, hint _ _ htext hf⟩)
  · exfalso
    cases r <;> simp [State.rightAt, hk, hcf, hnm] at hr
  · rw [hcf] at q3 q4
    have e3 : si = i := by
      have := q3.symm.trans hp
      simpa using this
    subst e3
    have e4 : us = units := by simpa [ConstantPool.utf8?, hu] using q4.symm
    subst e4
    rcases hor with h0 | ⟨h0, -⟩
    · have ea : a3 = a := by have := e1.symm.trans h0; simpa using this
      subst ea
      exact H c k cf si us a3 hc hk hcf hp hu (Or.inr ⟨hop, hint _ _ htext q5⟩)
    · have := e1.symm.trans h0; simp at this
/-- the same tables but for resolutions; the cells kept but for some that are apart -/
theorem own_H.go {cs : List (String × Nat × String)} {ws : List Addr} {B : State} (H : own_H cs Z B.vm h) (hB : Z.Warmed39 B.vm) (wl : ∀ q ∈ cs, (Cond.stringLink q.1 q.2.1 q.2.2).before a0 Z = true) (hW : B.WarmedH vm') (K : Keep h h' ws) (A : ∀ w ∈ ws, own_apart Z B.vm h w) : own_H cs Z vm' h' := fun q hq =>
  own_carry hB (wl q hq) hW.wide (fun u a _ hf => by rw [← hW.interned_eq]; exact hf) (fun a u S => own_sl_keep S hW.alike K A) (H q hq)
theorem own_apart_cls {w : Addr} {C : String} {n : Nat} (hal : Z.vm.Alike vm) (E : Exa Z h w C) (hne : C ≠ "java/lang/String") (wi : (Cond.instantiable C n).before a0 Z = true) : own_apart Z vm h w := by
  intro q cS hq
  obtain ⟨⟨s1, -, -, -, -, -, -, -, -, s10, s11, -⟩, hfS, hcS⟩ := hq
  obtain ⟨c1, k1, e1, f1, g1, -⟩ := E
  constructor
  · intro z
    have s1' : h[q.sa]? = some q.sC := s1
    rw [z] at s1'
    cases e1.symm.trans s1'
    have f2 : Z.vm.findClass "java/lang/String" = some q.sC.cls := by rw [← hal.findClass, hcS]; exact hfS
    obtain ⟨kk, g1, g2⟩ := Vm.findClass_spec f1
    obtain ⟨kk', g1', g2'⟩ := Vm.findClass_spec f2
    cases g1.symm.trans g1'
    exact hne (g2.symm.trans g2')
  · intro z
    have s10' : h[q.sd]? = some q.SA := s10
    rw [z] at s10'
    cases e1.symm.trans s10'
    simp only [Cond.before, Cond.holds, Cond.value, f1, Option.bind_some, g1, Option.map_some] at wi
    have ho : k1.kind = .ordinary := by
      simp only [beq_iff_eq, Option.some.injEq, Bool.and_eq_true, decide_eq_true_eq] at wi; exact wi.1.1.1
    obtain ⟨-, kk, hk, comp, hkind⟩ := s11
    obtain ⟨k1', hk1', ek⟩ := hal.2.2 _ _ g1
    cases (show vm.classes[q.SA.cls]? = some kk from hk).symm.trans hk1'
    rw [ek] at hkind
    rw [show _ = k1.kind from rfl, ho] at hkind; cases hkind
theorem own_apart_null {w : Addr} {n : Nat} (hal : Z.vm.Alike vm) (E : Exa Z h w "java/lang/String") (F : Fld Z h w "java/lang/String" "value" "[B" .null) (wi : (Cond.instantiable "java/lang/String" n).before a0 Z = true) : own_apart Z vm h w := by
  intro q cS hq
  obtain ⟨⟨s1, -, -, ⟨cv, kv, iv, s4, -⟩, -, -, -, s8, -, s10, s11, -⟩, hfS, hcS⟩ := hq
  obtain ⟨c1, k1, e1, f1, g1, -⟩ := E
  obtain ⟨c2, cf2, kf2, i2, f2, g1', g2', -, -, -, -, g7'⟩ := F
  constructor
  · intro z
    have s1' : h[q.sa]? = some q.sC := s1
    rw [z] at s1'
    cases g1'.symm.trans s1'
    obtain ⟨kv', z4⟩ := ff_back (U := own_at Z vm h) hal s4
    cases g2'.symm.trans z4
    have := g7'.symm.trans s8
    simp at this
  · intro z
    have s10' : h[q.sd]? = some q.SA := s10
    rw [z] at s10'
    cases e1.symm.trans s10'
    simp only [Cond.before, Cond.holds, Cond.value, f1, Option.bind_some, g1, Option.map_some] at wi
    have ho : k1.kind = .ordinary := by
      simp only [beq_iff_eq, Option.some.injEq, Bool.and_eq_true, decide_eq_true_eq] at wi; exact wi.1.1.1
    obtain ⟨-, kk, hk, comp, hkind⟩ := s11
    obtain ⟨k1', hk1', ek⟩ := hal.2.2 _ _ g1
    cases (show vm.classes[q.SA.cls]? = some kk from hk).symm.trans hk1'
    rw [ek] at hkind
    rw [show _ = k1.kind from rfl, ho] at hkind; cases hkind
theorem own_ld {cs : List (String × Nat × String)} {h0 : Heap} (X : Stand p l e R s m args below meth c T locs cells slots) (hx : p.tables.exec = Jvm.exec) (hZ : Z.Warmed39 s.vm) (hown : s.vm.findClass own = some m.cls) (hq : (own, ix, text) ∈ cs) (wl : ∀ q ∈ cs, (Cond.stringLink q.1 q.2.1 q.2.2).before a0 Z = true) (hcs : ∀ q ∈ cs, q = (own, ix, text) ∨ q.2.2 ≠ text)
    (wS : ∀ a ∈ Bundle.stringAtoms, a.before a0 Z = true) (eT : T.heap = h) (eS : s.heap = h0) (K : Keep h0 h []) (H : own_H cs Z s.vm h0) (ht : ∀ c ∈ text.toList, c.toNat < 256)
    {g : JFrame} (hg : g.method = m) (hd : decode c.code g.pc = .ok (.ldc ix, 2)) {n : Nat} (hn : 4 * text.toList.length ≤ n) (hbig : n ≤ 536870912) (hc : cells + 2 ≤ R.cells) (hl' : slots + (n + 4) ≤ R.slots) :
    ∃ (a b : Addr) (T' : State) (h' : Heap), Stand p l e R (s.setVm T'.vm) m args below meth c T' locs (cells + 2) (slots + (n + 4)) ∧ T'.heap = h' ∧ Ext h h' ∧ s.Since T'.vm h'.size ∧ Z.Warmed39 (s.setVm T'.vm).vm ∧ (s.setVm T'.vm).vm.findClass own = some m.cls ∧
      Exa Z h' a "java/lang/String" ∧ Fld Z h' a "java/lang/String" "coder" "B" (.int 0) ∧ Fld Z h' a "java/lang/String" "value" "[B" (.ref b) ∧ (∀ G, text = "" → own_A Z h' b .byte 0 G) ∧ own_H cs Z T'.vm h' ∧ Lit (s.setVm T'.vm) own ix a ∧
      ∀ target, Steps p.tables e below (T'.setTop { g with pc := g.pc + 2, stack := .ref a :: g.stack }) target → Steps p.tables e below (T.setTop g) target := by
  have w := wl _ hq
  have hH : ConstHeldL s own ix := by
    have q := H _ hq
    rw [← eS] at q
    exact q
  have hold : ∀ (b : Addr) (cl : Cell), s.heap[b]? = some cl → T.heap[b]? = some cl := fun b cl q => by rw [eT]; rw [eS] at q; exact K.2.1 b cl q nin0
  obtain ⟨a, T', X', hS', ⟨kk, hkk, hrr⟩, hb, -, hint, ⟨units, htext, hin⟩, st⟩ := X.ldcColdF hold hx (own := own) hown (mvS hZ w) (fun d hd => by
    have q := wS d hd
    simp only [Bundle.stringAtoms, List.mem_cons, List.not_mem_nil, or_false] at hd
    rcases hd with rfl | rfl | rfl | rfl | rfl | rfl | rfl
    · exact mv hZ q
    · exact mv hZ q
    · exact mvA hZ q
    · exact mv hZ q
    · exact mv hZ q
    · exact mv hZ q
    · exact mv hZ q) hH (fun units hu => Jvm.ClassFile.lat_of_text hu ht) hg hd hn hbig hc hl'
  subst eT
  have E := ext_of hb
  have hW : Z.Warmed39 T'.vm := State.Warmed39.trans (t := s) hZ hS'.1
  have hal : Z.vm.Alike T'.vm := hW.alike
  have hTi : T.vm.interned = s.vm.interned := X.warmed.interned_eq
  have hlat := Jvm.ClassFile.lat_of_text htext ht
  have hf : T'.vm.findClass own = some m.cls := by rw [hS'.1.alike.findClass]; exact hown
  have hHn : own_H cs Z T'.vm T'.heap := by
    intro q hqm
    rcases hcs q hqm with rfl | hne
    · intro c2 k' cf i u a' hc' hk' hcf' hp hu hor
      cases (show T'.vm.findClass own = some c2 from hc').symm.trans hf
      cases (show T'.vm.classes[m.cls]? = some k' from hk').symm.trans hkk
      have hwT : (Cond.stringLink own ix text).before a0 (Z.setVm T'.vm) = true := mvS (s := Z.setVm T'.vm) hW w
      obtain ⟨k2, cf2, i2, u2, r1, r2, r3, r4, -, r5, -⟩ := Cond.stringLink_spec (s := Z.setVm T'.vm) hf hwT
      cases (show T'.vm.classes[m.cls]? = some k2 from r1).symm.trans hkk
      cases hcf'.symm.trans r2
      cases hp.symm.trans r3
      cases hu.symm.trans r4
      have ea : a' = a := by
        rcases hor with h0 | ⟨h0, -⟩
        · have := h0.symm.trans hrr; simpa using this
        · have := h0.symm.trans hrr; simp at this
      subst ea
      have eu : u = units := by
        have e1 := Jvm.ClassFile.units_of_text r5 ht
        have e2 := Jvm.ClassFile.units_of_text htext ht
        exact Array.toList_inj.mp (e1.trans e2.symm)
      subst eu
      obtain ⟨q, cS, g1, g2, g3, g4, g5, -⟩ := hin
      exact ⟨q, cS, g1, g2, g3, g4, g5⟩
    · refine own_carry (h := h0) (B := s) hZ (wl q hqm) hS'.1 (fun u a hu hf => ?_) (fun a u S => own_sl_keep S hS'.1.alike (K.ext E) all0) (H q hqm)
      rcases hint with z | ⟨u', a', hu', z⟩
      · rw [← hTi, ← z]; exact hf
      · rw [z, Array.find?_push, hTi] at hf
        cases hs : s.vm.interned.find? (fun p => p.1 == u) with
        | some pr => rw [hs] at hf; simpa using hf
        | none =>
          rw [hs, Option.none_or] at hf
          have : u' = u := by
            by_cases hz : (u' == u) = true
            · simpa using hz
            · simp [hz] at hf
          subst this
          exact absurd (Option.some.inj (hu.symm.trans hu')) hne
  obtain ⟨q, cS, hqa, ⟨⟨s1, s2, s3, ⟨cv, kv, iv, s4, s4'⟩, ⟨cc, kc, ic, s5, s5'⟩, s6, s7, s8, s9, s10, s11, s12, s13, s14, s15, s16⟩, hfS, hcS⟩, ⟨kS, k1, k2, k3⟩, hB, hbyt, -⟩ := hin
  subst hqa
  obtain ⟨kv', z4⟩ := ff_back hal s4
  obtain ⟨kc', z5⟩ := ff_back hal s5
  have hfZ : Z.vm.findClass "java/lang/String" = some q.sC.cls := by rw [← hal.findClass, hcS]; exact hfS
  obtain ⟨kz, hkz, -⟩ := Vm.findClass_spec hfZ
  obtain ⟨kz', hkz', ekz⟩ := hal.2.2 _ _ hkz
  have ekS : kz' = kS := Option.some.inj (hkz'.symm.trans (hcS ▸ k1))
  have hBZ : Z.vm.findClass "[B" = some q.SA.cls := by rw [← hal.findClass]; exact hB
  obtain ⟨kb, hkb, -⟩ := Vm.findClass_spec hBZ
  obtain ⟨kb', hkb', ekb⟩ := hal.2.2 _ _ hkb
  obtain ⟨hst, k9, hk9, comp, hkind9⟩ := s11
  have ek9 : k9 = kb' := Option.some.inj (hk9.symm.trans hkb')
  have hAZ : Z.isArrayOf q.SA .byte := ⟨hst, kb, hkb, comp, by rw [ek9, ekb] at hkind9; exact hkind9⟩
  have hsl : q.SA.slots = units.map fun u => Value.int (Jvm.Lit.byteI u) := by rw [hbyt, SBG.stringBytes_lat hlat]; rfl
  have hsz : q.SA.slots.size = units.size := by rw [hsl, Array.size_map]
  refine ⟨q.sa, q.sd, T', _, X', rfl, E, hS', hW, by rw [show (s.setVm T'.vm).vm = T'.vm from rfl]; exact hf,
    ⟨q.sC, kz, s1, hfZ, hkz, s3, fun ho => by rw [k3, ← ekS, ekz]⟩, ⟨q.sC, cc, kc', ic, q.fSC, s1, z5, s7, s2, s3, by rw [← hal.assignable]; exact s5', s9⟩, ⟨q.sC, cv, kv', iv, q.fSV, s1, z4, s6, s2, s3, by rw [← hal.assignable]; exact s4', s8⟩,
    fun G et => ⟨q.SA, ⟨s10, hAZ, s12⟩, ?_, fun i hi => absurd hi (Nat.not_lt_zero i)⟩, hHn, ?_, st⟩
  · subst et
    have e2 := congrArg List.length (Jvm.ClassFile.units_of_text htext ht)
    rw [hsz]; simpa using e2
  · simp [Lit, State.resolvedAt?, hf, hkk, hrr]
theorem own_backOfS {cs : List (String × Nat × String)} {y : MethodName} {bytes : ByteArray} {maxL : Nat} {ret : Option FieldType} {rm : Room} {len W : Nat} {as' : Array Value} {Q : Option Value → Heap → List Loc → Prop}
    (hM : MetFree l y (head1 [Cond.code y bytes maxL ret] rm) (fun a U => a = as' ∧ Z.Warmed39 U.vm ∧ U.heap = h ∧ own_H cs Z U.vm h) (fun _ _ _ _ _ => True) (fun _ U o U' => ∃ v L, o = .returned v ∧ Q v U'.heap L ∧ own_H cs Z U'.vm U'.heap ∧ ReturnedEndW U o U' L rm.cells rm.slots))
    (hZ : Z.Warmed39 s.vm) (wc : (Cond.code y bytes maxL ret).before a0 Z = true) (wz : (Cond.initialized y.cls).before a0 Z = true) (hf : rm.frames + 1 ≤ R.frames) (hl : W + (maxL + 11) + rm.locals ≤ R.locals) :
    BackS l R p e below s args y len W (fun A a => a = as' ∧ A.U.heap = h ∧ own_H cs Z A.U.vm h ∧ A.cells + rm.cells ≤ R.cells ∧ A.slots + rm.slots ≤ R.slots)
      (fun A _ v B => ∃ L, Q v B.U.heap L ∧ own_H cs Z B.U.vm B.U.heap ∧ B.locs = A.locs ++ L ∧ B.cells = A.cells + rm.cells ∧ B.slots = A.slots + rm.slots) :=
  BackS.of_freeW (bytes := bytes) (maxL := maxL) (ret := ret) (E := fun _ _ o t L k n => k = rm.cells ∧ n = rm.slots ∧ own_H cs Z t.vm t.heap ∧ ∃ v, o = .returned v ∧ Q v t.heap L) hM hf hl
    (fun m meth c A a Y hp => have hU : Z.Warmed39 A.U.vm := wtrans hZ Y.warmed
      ⟨by show (Cond.and _ .tt).before a A.U = true; rw [Cond.before_and, mv hU wc]; rfl, mv hU wc, mv hU wz, hp.2.2.2.1, hp.2.2.2.2⟩)
    (fun m meth c A a g mk Y hp => ⟨hp.1, wtrans hZ Y.warmed, hp.2.1, hp.2.2.1⟩) (fun _ _ _ _ _ _ _ _ _ => trivial)
    (fun _ _ _ _ ⟨v, L, h1, h2, h3, h4⟩ => ⟨L, _, _, h4, rfl, rfl, h3, v, h1, h2⟩)
    (fun m meth c A a g mk v t L k n Y hp _ _ ⟨e1, e2, e0, v', e3, e4⟩ => by cases e3; subst e1 e2; exact ⟨L, e4, e0, rfl, rfl, rfl⟩)
theorem own_H.start {cs : List (String × Nat × String)} (hc : ∀ q ∈ cs, Jvm.Lit.constHeld Z q.1 q.2.1) (wl : ∀ q ∈ cs, (Cond.stringLink q.1 q.2.1 q.2.2).before a0 Z = true) (ht : ∀ q ∈ cs, ∀ c ∈ q.2.2.toList, c.toNat < 256) (hcw : Jvm.Lit.compactW.before a0 Z = true) (wa : (Cond.arrayClass .byte).before a0 Z = true) (wi : (Cond.instantiable "java/lang/String" 4).before a0 Z = true) : own_H cs Z Z.vm Z.heap :=
  fun q hq => heldStart (hc q hq) (wl q hq) (ht q hq) hcw wa wi
theorem own_keep_mono {ws ws' : List Addr} (K : Keep h h' ws) (q : ∀ x ∈ ws, x ∈ ws') : Keep h h' ws' := ⟨K.1, fun x c hx r => K.2.1 x c hx fun z => r (q x z), K.2.2⟩
theorem own_ne_fld {a b : Addr} {C n d : String} {v w : Value} (F : Fld Z h a C n d v) (G : Fld Z h b C n d w) (q : v ≠ w) : a ≠ b := fun z => by
  subst z
  obtain ⟨c1, cf1, k1, i1, f1, e1, e2, -, -, -, -, e7⟩ := F
  obtain ⟨c2, cf2, k2, i2, f2, g1, g2, -, -, -, -, g7⟩ := G
  cases e1.symm.trans g1
  cases e2.symm.trans g2
  exact q (Option.some.inj (e7.symm.trans g7))
theorem own_ne_arr {a b : Addr} {C : String} {ty : FieldType} {n k : Nat} {G : Nat → Value} (A : own_A Z h b ty n G) (E : Exa Z h a C) (wi : (Cond.instantiable C k).before a0 Z = true) : b ≠ a := fun q => by
  subst q
  obtain ⟨c1, k1, e1, f1, g1, -⟩ := E
  obtain ⟨c2, ⟨e2, hA, -⟩, -⟩ := A
  cases e1.symm.trans e2
  simp only [Cond.before, Cond.holds, Cond.value, f1, Option.bind_some, g1, Option.map_some] at wi
  have ho : k1.kind = .ordinary := by
    simp only [beq_iff_eq, Option.some.injEq, Bool.and_eq_true, decide_eq_true_eq] at wi; exact wi.1.1.1
  obtain ⟨-, kk, hk, comp, hkind⟩ := hA
  rw [g1] at hk; cases hk; rw [ho] at hkind; cases hkind
end OwnH
end Jvm.RoadKit
namespace Jvm.Pilot.@@N@@
open Jvm Jvm.ClassFile Sem Op Lib Jvm.Free Jvm.Stand Jvm.LawKit Jvm.RoadKit Bundle Jvm.Pilot.@@N@@.Jvm.D
set_option maxRecDepth 65536
set_option maxHeartbeats 40000000
theorem own_le0 {n : Nat} : 2 * 0 + n ≤ n := by omega
abbrev vI (x : Int32) : Slot := .val (.int x)
abbrev vJ (x : Int64) : Slot := .val (.long x)
abbrev vR (x : Addr) : Slot := .val (.ref x)
abbrev SP (p : Program) (e : Env) (b : List Frame) (s t : State) : Prop := Steps p.tables e b s t
theorem ow {a0 : Array Value} {Z : State} (hw : ∀ d ∈ tables_1, d.before a0 Z = true) (i : Nat) {d : Jvm.Cond} (h : tables_1[i]? = some d) : d.before a0 Z = true := hw d (List.mem_of_getElem? h)
def own_cs : List (String × Nat × String) := [("java/lang/String", 7, "")]
theorem own_wl {a0 : Array Value} {Z : State} (hw : ∀ d ∈ tables_1, d.before a0 Z = true) : ∀ q ∈ own_cs, (Jvm.Cond.stringLink q.1 q.2.1 q.2.2).before a0 Z = true := fun q hq => by
  simp only [own_cs, List.mem_cons, List.not_mem_nil, or_false] at hq
  rcases hq with rfl
  · exact (hw _ (List.mem_of_getElem? (i := 19) rfl))
theorem own_wS {a0 : Array Value} {Z : State} (hw : ∀ d ∈ tables_1, d.before a0 Z = true) : ∀ a ∈ Bundle.stringAtoms, a.before a0 Z = true := fun d hd => by
  simp only [Bundle.stringAtoms, List.mem_cons, List.not_mem_nil, or_false] at hd
  rcases hd with rfl | rfl | rfl | rfl | rfl | rfl | rfl
  · exact (hw _ (List.mem_of_getElem? (i := 7) rfl))
  · exact (hw _ (List.mem_of_getElem? (i := 6) rfl))
  · exact (hw _ (List.mem_of_getElem? (i := 20) rfl))
  · exact (hw _ (List.mem_of_getElem? (i := 21) rfl))
  · exact (hw _ (List.mem_of_getElem? (i := 22) rfl))
  · exact (hw _ (List.mem_of_getElem? (i := 23) rfl))
  · exact (hw _ (List.mem_of_getElem? (i := 24) rfl))
theorem own_cs_0 : ∀ q ∈ own_cs, q = ("java/lang/String", 7, "") ∨ q.2.2 ≠ "" := by decide
theorem d15_0 : decode method_3_code 0 = .ok (.lload_n 0, 1) := by decide +kernel
theorem d15_1 : decode method_3_code 1 = .ok (.iload_n 2, 1) := by decide +kernel
theorem d15_2 : decode method_3_code 2 = .ok (.i2l, 1) := by decide +kernel
theorem d15_3 : decode method_3_code 3 = .ok (.lxor, 1) := by decide +kernel
theorem d15_4 : decode method_3_code 4 = .ok (.ldc2_w 36, 3) := by decide +kernel
theorem d15_7 : decode method_3_code 7 = .ok (.lmul, 1) := by decide +kernel
theorem d15_8 : decode method_3_code 8 = .ok (.lreturn, 1) := by decide +kernel
theorem pn_15 : plainName "com/example/tern/tern/store/HashIndexHashPinLaw" = true := by first | (simp [plainName, overriddenIn]; done) | decide +kernel
theorem ef_15 (m : MethodId) (p0 : Int64) (p1 : Int32) : entryFrame m #[(.long p0), (.int p1)] 3 = mkF m 0 #[vJ p0, .second, vI p1] [] := by first | (simp [entryFrame, mkF, argsToLocals, Value.category]; done) | rfl
def f_15 (p0 : Int64) (p1 : Int32) : Int64 := ((p0 ^^^ (p1.toInt64)) * (1099511628211 : Int64))
def Q_15 (Z : State) (p0 : Int64) (p1 : Int32)  (h0 : Heap) (n0 : Nat) (v : Option Value) (h : Heap) (L : List Loc) : Prop := v = some (.long (f_15 p0 p1)) ∧ Fr n0 L ∧ h = h0
theorem rm_15 (l : Launch) (Z : State) (a0 : Array Value) (hw : ∀ d ∈ tables_1, d.before a0 Z = true) (ws : List Jvm.Cond) (p0 : Int64) (p1 : Int32)  (h0 : Heap) (n0 : Nat) (Z0 : n0 ≤ h0.size)  :
    MetFree l (⟨"com/example/tern/tern/store/HashIndexHashPinLaw", "step", "(JI)J"⟩ : MethodName) (head1 (Jvm.Cond.code (⟨"com/example/tern/tern/store/HashIndexHashPinLaw", "step", "(JI)J"⟩ : MethodName) method_3_code 3 (some .long) :: ws) (⟨0, 0, 0, 0⟩ : Room)) (fun a U => a = #[(.long p0), (.int p1)] ∧ Z.Warmed39 U.vm ∧ U.heap = h0) (fun _ _ _ _ _ => True) (fun _ U o U' => ∃ v L, o = .returned v ∧ Q_15 Z p0 p1 h0 n0 v U'.heap L ∧ FrameEnd U o U' L 0 0) := by
  refine MetFree.of_bodySF (plainFor_of_name pn_15) hisR ?_
  intro p e s m args below meth c s₁ Bd hml0 hP hK
  obtain ⟨rfl, hZ, hh⟩ := hP
  have hx := Bd.exec
  have hby := Bd.bytes
  have hml : c.maxLocals = 3 := hml0
  have hown : s.vm.findClass "com/example/tern/tern/store/HashIndexHashPinLaw" = some m.cls := findClass_of_methodNamed Bd.named
  have hnm := (name_of_methodNamed Bd.named Bd.method).1
  have X0 : Stand p l e (⟨0, 0, 0, 0⟩ : Room) s m #[(.long p0), (.int p1)] below meth c s₁ [] 0 0 := Stand.of_body Bd
  have e0 : s₁.heap = h0 := by rw [← hh, Bd.state]; rfl
  have N0 := Fr.nil n0
  have K0 : Keep h0 h0 [] := Keep.refl h0 _
  have pre0 : ∀ t, SP p e below (s₁.setTop (mkF m 0 #[vJ p0, .second, vI p1] [])) t → SP p e below (s₁.setTop (entryFrame m #[(.long p0), (.int p1)] 3)) t := fun t k => castTop (ef_15 m p0 p1) k
  obtain ⟨fs, hr, hrun, hended, hW, hsame⟩ := X0.leave (v := some (.long ((p0 ^^^ (p1.toInt64)) * (1099511628211 : Int64)))) (fun h => by rw [Bd.returns] at h; cases h) (BodyLoose.notSynchronized Bd)
  refine ⟨_, _, pre0 _ ?_, hrun, hended, _, _, rfl, ?_, ⟨_, rfl⟩, hW, hsame.mono (by decide) (by decide)⟩
  · show SP p e below (s₁.setTop (mkF m 0 #[vJ p0, .second, vI p1] [])) _
    refine XS.lloadN X0.here hx rfl (hb hby d15_0) rfl  ?_
    show SP p e below (s₁.setTop (mkF m 1 #[vJ p0, .second, vI p1] [(.long p0)])) _
    refine XS.iloadN X0.here hx rfl (hb hby d15_1) rfl  ?_
    show SP p e below (s₁.setTop (mkF m 2 #[vJ p0, .second, vI p1] [(.int p1), (.long p0)])) _
    refine XS.i2l X0.here hx rfl (hb hby d15_2) rfl ?_
    show SP p e below (s₁.setTop (mkF m 3 #[vJ p0, .second, vI p1] [(.long (p1.toInt64)), (.long p0)])) _
    refine XS.lxor X0.here hx rfl (hb hby d15_3) rfl ?_
    show SP p e below (s₁.setTop (mkF m 4 #[vJ p0, .second, vI p1] [(.long (p0 ^^^ (p1.toInt64)))])) _
    refine X0.ldc2Long hx hown (mvT hZ (ow hw 72 rfl)) (g := (mkF m 4 #[vJ p0, .second, vI p1] [(.long (p0 ^^^ (p1.toInt64)))])) rfl (hb hby d15_4) _ ?_
    show SP p e below (s₁.setTop (mkF m 7 #[vJ p0, .second, vI p1] [(.long (1099511628211 : Int64)), (.long (p0 ^^^ (p1.toInt64)))])) _
    refine XS.lmul X0.here hx rfl (hb hby d15_7) rfl ?_
    show SP p e below (s₁.setTop (mkF m 8 #[vJ p0, .second, vI p1] [(.long ((p0 ^^^ (p1.toInt64)) * (1099511628211 : Int64)))])) _
    exact retOut X0 hx Bd.returns rfl (Or.inr (Or.inl ⟨rfl, rfl, _, rfl⟩)) (hb hby d15_8) hr
  · show Q_15 Z p0 p1 h0 n0 _ s₁.heap _
    rw [e0]
    exact ⟨congrArg (fun z => some (Value.long z)) (by rfl : ((p0 ^^^ (p1.toInt64)) * (1099511628211 : Int64)) = f_15 p0 p1), N0, rfl⟩
theorem pd_0 : parseMethodDescriptor "(JI)J" = some ⟨[.long, .int], some .long⟩ := by decide +kernel
theorem d14_0 : decode method_4_code 0 = .ok (.lload_n 0, 1) := by decide +kernel
theorem d14_1 : decode method_4_code 1 = .ok (.lstore 5, 2) := by decide +kernel
theorem d14_3 : decode method_4_code 3 = .ok (.iload_n 2, 1) := by decide +kernel
theorem d14_4 : decode method_4_code 4 = .ok (.iconst 1, 1) := by decide +kernel
theorem d14_5 : decode method_4_code 5 = .ok (.if_icmp .lt 11, 3) := by decide +kernel
theorem d14_8 : decode method_4_code 8 = .ok (.lload 5, 2) := by decide +kernel
theorem d14_10 : decode method_4_code 10 = .ok (.iload_n 3, 1) := by decide +kernel
theorem d14_11 : decode method_4_code 11 = .ok (.invokestatic 28, 3) := by decide +kernel
theorem d14_14 : decode method_4_code 14 = .ok (.lstore 5, 2) := by decide +kernel
theorem d14_16 : decode method_4_code 16 = .ok (.iload_n 2, 1) := by decide +kernel
theorem d14_17 : decode method_4_code 17 = .ok (.iconst 2, 1) := by decide +kernel
theorem d14_18 : decode method_4_code 18 = .ok (.if_icmp .lt 12, 3) := by decide +kernel
theorem d14_21 : decode method_4_code 21 = .ok (.lload 5, 2) := by decide +kernel
theorem d14_23 : decode method_4_code 23 = .ok (.iload 4, 2) := by decide +kernel
theorem d14_25 : decode method_4_code 25 = .ok (.invokestatic 28, 3) := by decide +kernel
theorem d14_28 : decode method_4_code 28 = .ok (.lstore 5, 2) := by decide +kernel
theorem d14_30 : decode method_4_code 30 = .ok (.lload 5, 2) := by decide +kernel
theorem d14_32 : decode method_4_code 32 = .ok (.lreturn, 1) := by decide +kernel
theorem pn_14 : plainName "com/example/tern/tern/store/HashIndexHashPinLaw" = true := by first | (simp [plainName, overriddenIn]; done) | decide +kernel
theorem ef_14 (m : MethodId) (p0 : Int64) (p1 : Int32) (p2 : Int32) (p3 : Int32) : entryFrame m #[(.long p0), (.int p1), (.int p2), (.int p3)] 7 = mkF m 0 #[vJ p0, .second, vI p1, vI p2, vI p3, .unset, .unset] [] := by first | (simp [entryFrame, mkF, argsToLocals, Value.category]; done) | rfl
def f_14 (p0 : Int64) (p1 : Int32) (p2 : Int32) (p3 : Int32) : Int64 := (if p1 < (1 : Int32) then (if p1 < (2 : Int32) then p0 else let v5_28 : Int64 := (f_15 p0 p3); v5_28) else let v5_14 : Int64 := (f_15 p0 p2); (if p1 < (2 : Int32) then v5_14 else let v5_28 : Int64 := (f_15 v5_14 p3); v5_28))
def Q_14 (Z : State) (p0 : Int64) (p1 : Int32) (p2 : Int32) (p3 : Int32)  (h0 : Heap) (n0 : Nat) (v : Option Value) (h : Heap) (L : List Loc) : Prop := v = some (.long (f_14 p0 p1 p2 p3)) ∧ Fr n0 L ∧ h = h0
theorem rm_14 (l : Launch) (Z : State) (a0 : Array Value) (hw : ∀ d ∈ tables_1, d.before a0 Z = true) (ws : List Jvm.Cond) (p0 : Int64) (p1 : Int32) (p2 : Int32) (p3 : Int32)  (h0 : Heap) (n0 : Nat) (Z0 : n0 ≤ h0.size)  :
    MetFree l (⟨"com/example/tern/tern/store/HashIndexHashPinLaw", "feed", "(JIII)J"⟩ : MethodName) (head1 (Jvm.Cond.code (⟨"com/example/tern/tern/store/HashIndexHashPinLaw", "feed", "(JIII)J"⟩ : MethodName) method_4_code 7 (some .long) :: ws) (⟨1, 0, 0, 14⟩ : Room)) (fun a U => a = #[(.long p0), (.int p1), (.int p2), (.int p3)] ∧ Z.Warmed39 U.vm ∧ U.heap = h0) (fun _ _ _ _ _ => True) (fun _ U o U' => ∃ v L, o = .returned v ∧ Q_14 Z p0 p1 p2 p3 h0 n0 v U'.heap L ∧ FrameEnd U o U' L 0 0) := by
  refine MetFree.of_bodySF (plainFor_of_name pn_14) hisR ?_
  intro p e s m args below meth c s₁ Bd hml0 hP hK
  obtain ⟨rfl, hZ, hh⟩ := hP
  have hx := Bd.exec
  have hby := Bd.bytes
  have hml : c.maxLocals = 7 := hml0
  have hown : s.vm.findClass "com/example/tern/tern/store/HashIndexHashPinLaw" = some m.cls := findClass_of_methodNamed Bd.named
  have hnm := (name_of_methodNamed Bd.named Bd.method).1
  have X0 : Stand p l e (⟨1, 0, 0, 14⟩ : Room) s m #[(.long p0), (.int p1), (.int p2), (.int p3)] below meth c s₁ [] 0 0 := Stand.of_body Bd
  have e0 : s₁.heap = h0 := by rw [← hh, Bd.state]; rfl
  have N0 := Fr.nil n0
  have K0 : Keep h0 h0 [] := Keep.refl h0 _
  have pre0 : ∀ t, SP p e below (s₁.setTop (mkF m 0 #[vJ p0, .second, vI p1, vI p2, vI p3, .unset, .unset] [])) t → SP p e below (s₁.setTop (entryFrame m #[(.long p0), (.int p1), (.int p2), (.int p3)] 7)) t := fun t k => castTop (ef_14 m p0 p1 p2 p3) k
  have pre1 : ∀ t, SP p e below (s₁.setTop (mkF m 5 #[vJ p0, .second, vI p1, vI p2, vI p3, vJ p0, .second] [(.int (1 : Int32)), (.int p1)])) t → SP p e below (s₁.setTop (entryFrame m #[(.long p0), (.int p1), (.int p2), (.int p3)] 7)) t := by
    intro t k
    refine pre0 t ?_
    show SP p e below (s₁.setTop (mkF m 0 #[vJ p0, .second, vI p1, vI p2, vI p3, .unset, .unset] [])) _
    refine XS.lloadN X0.here hx rfl (hb hby d14_0) rfl  ?_
    show SP p e below (s₁.setTop (mkF m 1 #[vJ p0, .second, vI p1, vI p2, vI p3, .unset, .unset] [(.long p0)])) _
    refine XS.lstore X0.here hx rfl (hb hby d14_1) rfl (l' := #[vJ p0, .second, vI p1, vI p2, vI p3, vJ p0, .second]) rfl ?_
    show SP p e below (s₁.setTop (mkF m 3 #[vJ p0, .second, vI p1, vI p2, vI p3, vJ p0, .second] [])) _
    refine XS.iloadN X0.here hx rfl (hb hby d14_3) rfl  ?_
    show SP p e below (s₁.setTop (mkF m 4 #[vJ p0, .second, vI p1, vI p2, vI p3, vJ p0, .second] [(.int p1)])) _
    refine XS.iconst X0.here hx rfl (hb hby d14_4) ?_
    exact k
  by_cases hc5 : p1 < (1 : Int32)
  · have pre2 : ∀ t, SP p e below (s₁.setTop (mkF m 18 #[vJ p0, .second, vI p1, vI p2, vI p3, vJ p0, .second] [(.int (2 : Int32)), (.int p1)])) t → SP p e below (s₁.setTop (entryFrame m #[(.long p0), (.int p1), (.int p2), (.int p3)] 7)) t := by
      intro t k
      refine pre1 t ?_
      show SP p e below (s₁.setTop (mkF m 5 #[vJ p0, .second, vI p1, vI p2, vI p3, vJ p0, .second] [(.int (1 : Int32)), (.int p1)])) _
      refine XS.icmpYes X0.here hx rfl (pc0 := 5) (pc' := 16) rfl (hb hby d14_5) rfl (tlt hc5).1 (by decide) (by decide) ?_
      show SP p e below (s₁.setTop (mkF m 16 #[vJ p0, .second, vI p1, vI p2, vI p3, vJ p0, .second] [])) _
      refine XS.iloadN X0.here hx rfl (hb hby d14_16) rfl  ?_
      show SP p e below (s₁.setTop (mkF m 17 #[vJ p0, .second, vI p1, vI p2, vI p3, vJ p0, .second] [(.int p1)])) _
      refine XS.iconst X0.here hx rfl (hb hby d14_17) ?_
      exact k
    by_cases hc18 : p1 < (2 : Int32)
    · obtain ⟨fs, hr, hrun, hended, hW, hsame⟩ := X0.leave (v := some (.long p0)) (fun h => by rw [Bd.returns] at h; cases h) (BodyLoose.notSynchronized Bd)
      refine ⟨_, _, pre2 _ ?_, hrun, hended, _, _, rfl, ?_, ⟨_, rfl⟩, hW, hsame.mono (by decide) (by decide)⟩
      · show SP p e below (s₁.setTop (mkF m 18 #[vJ p0, .second, vI p1, vI p2, vI p3, vJ p0, .second] [(.int (2 : Int32)), (.int p1)])) _
        refine XS.icmpYes X0.here hx rfl (pc0 := 18) (pc' := 30) rfl (hb hby d14_18) rfl (tlt hc18).1 (by decide) (by decide) ?_
        show SP p e below (s₁.setTop (mkF m 30 #[vJ p0, .second, vI p1, vI p2, vI p3, vJ p0, .second] [])) _
        refine XS.lload X0.here hx rfl (hb hby d14_30) rfl  ?_
        show SP p e below (s₁.setTop (mkF m 32 #[vJ p0, .second, vI p1, vI p2, vI p3, vJ p0, .second] [(.long p0)])) _
        exact retOut X0 hx Bd.returns rfl (Or.inr (Or.inl ⟨rfl, rfl, _, rfl⟩)) (hb hby d14_32) hr
      · show Q_14 Z p0 p1 p2 p3 h0 n0 _ s₁.heap _
        rw [e0]
        exact ⟨congrArg (fun z => some (Value.long z)) (by exact ((if_pos hc5).trans (if_pos hc18)).symm : p0 = f_14 p0 p1 p2 p3), N0, rfl⟩
    · have pre4 : ∀ t, SP p e below (s₁.setTop (mkF m 25 #[vJ p0, .second, vI p1, vI p2, vI p3, vJ p0, .second] [(.int p3), (.long p0)])) t → SP p e below (s₁.setTop (entryFrame m #[(.long p0), (.int p1), (.int p2), (.int p3)] 7)) t := by
        intro t k
        refine pre2 t ?_
        show SP p e below (s₁.setTop (mkF m 18 #[vJ p0, .second, vI p1, vI p2, vI p3, vJ p0, .second] [(.int (2 : Int32)), (.int p1)])) _
        refine XS.icmpNo X0.here hx rfl (hb hby d14_18) rfl (flt hc18).1 ?_
        show SP p e below (s₁.setTop (mkF m 21 #[vJ p0, .second, vI p1, vI p2, vI p3, vJ p0, .second] [])) _
        refine XS.lload X0.here hx rfl (hb hby d14_21) rfl  ?_
        show SP p e below (s₁.setTop (mkF m 23 #[vJ p0, .second, vI p1, vI p2, vI p3, vJ p0, .second] [(.long p0)])) _
        refine XS.iload X0.here hx rfl (hb hby d14_23) rfl  ?_
        exact k
      obtain ⟨_, _, ⟨T3, L3, k3, n3⟩, -, X3, ⟨Lc3, hQ3, l3, y3, z3⟩, st3⟩ := Jvm.LawKit.callS X0 hx (y := (⟨"com/example/tern/tern/store/HashIndexHashPinLaw", "step", "(JI)J"⟩ : MethodName)) hown (mvT hZ (ow hw 69 rfl)) (mvT hZ (ow hw 70 rfl)) (mvT hZ (ow hw 3 rfl)) (mvT hZ (ow hw 71 rfl)) (by decide) (backOf (W := 0) (rm_15 l Z a0 hw [] p0 p3 h0 n0 Z0 ) hZ (ow hw 71 rfl) (ow hw 3 rfl) (by decide) (by decide)) (g := (mkF m 25 #[vJ p0, .second, vI p1, vI p2, vI p3, vJ p0, .second] [(.int p3), (.long p0)])) rfl (by rw [hml]; rfl) (argsL := [(.long p0), (.int p3)]) (rest := []) (lenOf pd_0 rfl) rfl own_le0 (hb hby d14_25) (fun _ _ => ⟨rfl, e0, (by decide : 0 + 0 ≤ _), (by decide : 0 + 0 ≤ _)⟩)
      dsimp only [Pt.U, Pt.locs, Pt.cells, Pt.slots] at X3 l3 y3 z3 st3 hQ3
      rw [l3, y3, z3] at X3
      obtain ⟨rfl, N3q, e3⟩ := hQ3
      have N3 := Fr.app N0 N3q
      obtain ⟨v5_28, hv5_28⟩ : ∃ z : Int64, z = (f_15 p0 p3) := ⟨_, rfl⟩
      obtain ⟨fs, hr, hrun, hended, hW, hsame⟩ := X3.leave (v := some (.long v5_28)) (fun h => by rw [Bd.returns] at h; cases h) (BodyLoose.notSynchronized Bd)
      refine ⟨_, _, pre4 _ ?_, hrun, hended, _, _, rfl, ?_, ⟨_, rfl⟩, hW, hsame.mono (by decide) (by decide)⟩
      · show SP p e below (s₁.setTop (mkF m 25 #[vJ p0, .second, vI p1, vI p2, vI p3, vJ p0, .second] [(.int p3), (.long p0)])) _
        refine st3 _ ?_
        show SP p e below (T3.setTop (mkF m 28 #[vJ p0, .second, vI p1, vI p2, vI p3, vJ p0, .second] [(.long (f_15 p0 p3))])) _
        refine XS.lstore X3.here hx rfl (hb hby d14_28) rfl (l' := #[vJ p0, .second, vI p1, vI p2, vI p3, vJ v5_28, .second]) (by rw [hv5_28]; rfl) ?_
        show SP p e below (T3.setTop (mkF m 30 #[vJ p0, .second, vI p1, vI p2, vI p3, vJ v5_28, .second] [])) _
        refine XS.lload X3.here hx rfl (hb hby d14_30) rfl  ?_
        show SP p e below (T3.setTop (mkF m 32 #[vJ p0, .second, vI p1, vI p2, vI p3, vJ v5_28, .second] [(.long v5_28)])) _
        exact retOut X3 hx Bd.returns rfl (Or.inr (Or.inl ⟨rfl, rfl, _, rfl⟩)) (hb hby d14_32) hr
      · show Q_14 Z p0 p1 p2 p3 h0 n0 _ T3.heap _
        rw [e3]
        exact ⟨congrArg (fun z => some (Value.long z)) (by subst hv5_28; exact ((if_pos hc5).trans (if_neg hc18)).symm : v5_28 = f_14 p0 p1 p2 p3), N3, rfl⟩
  · have pre6 : ∀ t, SP p e below (s₁.setTop (mkF m 11 #[vJ p0, .second, vI p1, vI p2, vI p3, vJ p0, .second] [(.int p2), (.long p0)])) t → SP p e below (s₁.setTop (entryFrame m #[(.long p0), (.int p1), (.int p2), (.int p3)] 7)) t := by
      intro t k
      refine pre1 t ?_
      show SP p e below (s₁.setTop (mkF m 5 #[vJ p0, .second, vI p1, vI p2, vI p3, vJ p0, .second] [(.int (1 : Int32)), (.int p1)])) _
      refine XS.icmpNo X0.here hx rfl (hb hby d14_5) rfl (flt hc5).1 ?_
      show SP p e below (s₁.setTop (mkF m 8 #[vJ p0, .second, vI p1, vI p2, vI p3, vJ p0, .second] [])) _
      refine XS.lload X0.here hx rfl (hb hby d14_8) rfl  ?_
      show SP p e below (s₁.setTop (mkF m 10 #[vJ p0, .second, vI p1, vI p2, vI p3, vJ p0, .second] [(.long p0)])) _
      refine XS.iloadN X0.here hx rfl (hb hby d14_10) rfl  ?_
      exact k
    obtain ⟨_, _, ⟨T5, L5, k5, n5⟩, -, X5, ⟨Lc5, hQ5, l5, y5, z5⟩, st5⟩ := Jvm.LawKit.callS X0 hx (y := (⟨"com/example/tern/tern/store/HashIndexHashPinLaw", "step", "(JI)J"⟩ : MethodName)) hown (mvT hZ (ow hw 69 rfl)) (mvT hZ (ow hw 70 rfl)) (mvT hZ (ow hw 3 rfl)) (mvT hZ (ow hw 71 rfl)) (by decide) (backOf (W := 0) (rm_15 l Z a0 hw [] p0 p2 h0 n0 Z0 ) hZ (ow hw 71 rfl) (ow hw 3 rfl) (by decide) (by decide)) (g := (mkF m 11 #[vJ p0, .second, vI p1, vI p2, vI p3, vJ p0, .second] [(.int p2), (.long p0)])) rfl (by rw [hml]; rfl) (argsL := [(.long p0), (.int p2)]) (rest := []) (lenOf pd_0 rfl) rfl own_le0 (hb hby d14_11) (fun _ _ => ⟨rfl, e0, (by decide : 0 + 0 ≤ _), (by decide : 0 + 0 ≤ _)⟩)
    dsimp only [Pt.U, Pt.locs, Pt.cells, Pt.slots] at X5 l5 y5 z5 st5 hQ5
    rw [l5, y5, z5] at X5
    obtain ⟨rfl, N5q, e5⟩ := hQ5
    have N5 := Fr.app N0 N5q
    obtain ⟨v5_14, hv5_14⟩ : ∃ z : Int64, z = (f_15 p0 p2) := ⟨_, rfl⟩
    have pre7 : ∀ t, SP p e below (T5.setTop (mkF m 18 #[vJ p0, .second, vI p1, vI p2, vI p3, vJ v5_14, .second] [(.int (2 : Int32)), (.int p1)])) t → SP p e below (s₁.setTop (entryFrame m #[(.long p0), (.int p1), (.int p2), (.int p3)] 7)) t := by
      intro t k
      refine pre6 t ?_
      show SP p e below (s₁.setTop (mkF m 11 #[vJ p0, .second, vI p1, vI p2, vI p3, vJ p0, .second] [(.int p2), (.long p0)])) _
      refine st5 _ ?_
      show SP p e below (T5.setTop (mkF m 14 #[vJ p0, .second, vI p1, vI p2, vI p3, vJ p0, .second] [(.long (f_15 p0 p2))])) _
      refine XS.lstore X5.here hx rfl (hb hby d14_14) rfl (l' := #[vJ p0, .second, vI p1, vI p2, vI p3, vJ v5_14, .second]) (by rw [hv5_14]; rfl) ?_
      show SP p e below (T5.setTop (mkF m 16 #[vJ p0, .second, vI p1, vI p2, vI p3, vJ v5_14, .second] [])) _
      refine XS.iloadN X5.here hx rfl (hb hby d14_16) rfl  ?_
      show SP p e below (T5.setTop (mkF m 17 #[vJ p0, .second, vI p1, vI p2, vI p3, vJ v5_14, .second] [(.int p1)])) _
      refine XS.iconst X5.here hx rfl (hb hby d14_17) ?_
      exact k
    by_cases hc18 : p1 < (2 : Int32)
    · obtain ⟨fs, hr, hrun, hended, hW, hsame⟩ := X5.leave (v := some (.long v5_14)) (fun h => by rw [Bd.returns] at h; cases h) (BodyLoose.notSynchronized Bd)
      refine ⟨_, _, pre7 _ ?_, hrun, hended, _, _, rfl, ?_, ⟨_, rfl⟩, hW, hsame.mono (by decide) (by decide)⟩
      · show SP p e below (T5.setTop (mkF m 18 #[vJ p0, .second, vI p1, vI p2, vI p3, vJ v5_14, .second] [(.int (2 : Int32)), (.int p1)])) _
        refine XS.icmpYes X5.here hx rfl (pc0 := 18) (pc' := 30) rfl (hb hby d14_18) rfl (tlt hc18).1 (by decide) (by decide) ?_
        show SP p e below (T5.setTop (mkF m 30 #[vJ p0, .second, vI p1, vI p2, vI p3, vJ v5_14, .second] [])) _
        refine XS.lload X5.here hx rfl (hb hby d14_30) rfl  ?_
        show SP p e below (T5.setTop (mkF m 32 #[vJ p0, .second, vI p1, vI p2, vI p3, vJ v5_14, .second] [(.long v5_14)])) _
        exact retOut X5 hx Bd.returns rfl (Or.inr (Or.inl ⟨rfl, rfl, _, rfl⟩)) (hb hby d14_32) hr
      · show Q_14 Z p0 p1 p2 p3 h0 n0 _ T5.heap _
        rw [e5]
        exact ⟨congrArg (fun z => some (Value.long z)) (by subst hv5_14; exact ((if_neg hc5).trans (if_pos hc18)).symm : v5_14 = f_14 p0 p1 p2 p3), N5, rfl⟩
    · have pre9 : ∀ t, SP p e below (T5.setTop (mkF m 25 #[vJ p0, .second, vI p1, vI p2, vI p3, vJ v5_14, .second] [(.int p3), (.long v5_14)])) t → SP p e below (s₁.setTop (entryFrame m #[(.long p0), (.int p1), (.int p2), (.int p3)] 7)) t := by
        intro t k
        refine pre7 t ?_
        show SP p e below (T5.setTop (mkF m 18 #[vJ p0, .second, vI p1, vI p2, vI p3, vJ v5_14, .second] [(.int (2 : Int32)), (.int p1)])) _
        refine XS.icmpNo X5.here hx rfl (hb hby d14_18) rfl (flt hc18).1 ?_
        show SP p e below (T5.setTop (mkF m 21 #[vJ p0, .second, vI p1, vI p2, vI p3, vJ v5_14, .second] [])) _
        refine XS.lload X5.here hx rfl (hb hby d14_21) rfl  ?_
        show SP p e below (T5.setTop (mkF m 23 #[vJ p0, .second, vI p1, vI p2, vI p3, vJ v5_14, .second] [(.long v5_14)])) _
        refine XS.iload X5.here hx rfl (hb hby d14_23) rfl  ?_
        exact k
      obtain ⟨_, _, ⟨T8, L8, k8, n8⟩, -, X8, ⟨Lc8, hQ8, l8, y8, z8⟩, st8⟩ := Jvm.LawKit.callS X5 hx (y := (⟨"com/example/tern/tern/store/HashIndexHashPinLaw", "step", "(JI)J"⟩ : MethodName)) hown (mvT hZ (ow hw 69 rfl)) (mvT hZ (ow hw 70 rfl)) (mvT hZ (ow hw 3 rfl)) (mvT hZ (ow hw 71 rfl)) (by decide) (backOf (W := 0) (rm_15 l Z a0 hw [] v5_14 p3 h0 n0 Z0 ) hZ (ow hw 71 rfl) (ow hw 3 rfl) (by decide) (by decide)) (g := (mkF m 25 #[vJ p0, .second, vI p1, vI p2, vI p3, vJ v5_14, .second] [(.int p3), (.long v5_14)])) rfl (by rw [hml]; rfl) (argsL := [(.long v5_14), (.int p3)]) (rest := []) (lenOf pd_0 rfl) rfl own_le0 (hb hby d14_25) (fun _ _ => ⟨rfl, e5, (by decide : 0 + 0 ≤ _), (by decide : 0 + 0 ≤ _)⟩)
      dsimp only [Pt.U, Pt.locs, Pt.cells, Pt.slots] at X8 l8 y8 z8 st8 hQ8
      rw [l8, y8, z8] at X8
      obtain ⟨rfl, N8q, e8⟩ := hQ8
      have N8 := Fr.app N5 N8q
      obtain ⟨v5_28, hv5_28⟩ : ∃ z : Int64, z = (f_15 v5_14 p3) := ⟨_, rfl⟩
      obtain ⟨fs, hr, hrun, hended, hW, hsame⟩ := X8.leave (v := some (.long v5_28)) (fun h => by rw [Bd.returns] at h; cases h) (BodyLoose.notSynchronized Bd)
      refine ⟨_, _, pre9 _ ?_, hrun, hended, _, _, rfl, ?_, ⟨_, rfl⟩, hW, hsame.mono (by decide) (by decide)⟩
      · show SP p e below (T5.setTop (mkF m 25 #[vJ p0, .second, vI p1, vI p2, vI p3, vJ v5_14, .second] [(.int p3), (.long v5_14)])) _
        refine st8 _ ?_
        show SP p e below (T8.setTop (mkF m 28 #[vJ p0, .second, vI p1, vI p2, vI p3, vJ v5_14, .second] [(.long (f_15 v5_14 p3))])) _
        refine XS.lstore X8.here hx rfl (hb hby d14_28) rfl (l' := #[vJ p0, .second, vI p1, vI p2, vI p3, vJ v5_28, .second]) (by rw [hv5_28]; rfl) ?_
        show SP p e below (T8.setTop (mkF m 30 #[vJ p0, .second, vI p1, vI p2, vI p3, vJ v5_28, .second] [])) _
        refine XS.lload X8.here hx rfl (hb hby d14_30) rfl  ?_
        show SP p e below (T8.setTop (mkF m 32 #[vJ p0, .second, vI p1, vI p2, vI p3, vJ v5_28, .second] [(.long v5_28)])) _
        exact retOut X8 hx Bd.returns rfl (Or.inr (Or.inl ⟨rfl, rfl, _, rfl⟩)) (hb hby d14_32) hr
      · show Q_14 Z p0 p1 p2 p3 h0 n0 _ T8.heap _
        rw [e8]
        exact ⟨congrArg (fun z => some (Value.long z)) (by subst hv5_14 hv5_28; exact ((if_neg hc5).trans (if_neg hc18)).symm : v5_28 = f_14 p0 p1 p2 p3), N8, rfl⟩
theorem d6_0 : decode method_6_code 0 = .ok (.lload_n 0, 1) := by decide +kernel
theorem d6_1 : decode method_6_code 1 = .ok (.lload_n 0, 1) := by decide +kernel
theorem d6_2 : decode method_6_code 2 = .ok (.bipush 33, 2) := by decide +kernel
theorem d6_4 : decode method_6_code 4 = .ok (.lushr, 1) := by decide +kernel
theorem d6_5 : decode method_6_code 5 = .ok (.lxor, 1) := by decide +kernel
theorem d6_6 : decode method_6_code 6 = .ok (.ldc2_w 45, 3) := by decide +kernel
theorem d6_9 : decode method_6_code 9 = .ok (.lmul, 1) := by decide +kernel
theorem d6_10 : decode method_6_code 10 = .ok (.lstore_n 2, 1) := by decide +kernel
theorem d6_11 : decode method_6_code 11 = .ok (.lload_n 2, 1) := by decide +kernel
theorem d6_12 : decode method_6_code 12 = .ok (.lload_n 2, 1) := by decide +kernel
theorem d6_13 : decode method_6_code 13 = .ok (.bipush 33, 2) := by decide +kernel
theorem d6_15 : decode method_6_code 15 = .ok (.lushr, 1) := by decide +kernel
theorem d6_16 : decode method_6_code 16 = .ok (.lxor, 1) := by decide +kernel
theorem d6_17 : decode method_6_code 17 = .ok (.ldc2_w 47, 3) := by decide +kernel
theorem d6_20 : decode method_6_code 20 = .ok (.lmul, 1) := by decide +kernel
theorem d6_21 : decode method_6_code 21 = .ok (.lstore_n 2, 1) := by decide +kernel
theorem d6_22 : decode method_6_code 22 = .ok (.lload_n 2, 1) := by decide +kernel
theorem d6_23 : decode method_6_code 23 = .ok (.lload_n 2, 1) := by decide +kernel
theorem d6_24 : decode method_6_code 24 = .ok (.bipush 33, 2) := by decide +kernel
theorem d6_26 : decode method_6_code 26 = .ok (.lushr, 1) := by decide +kernel
theorem d6_27 : decode method_6_code 27 = .ok (.lxor, 1) := by decide +kernel
theorem d6_28 : decode method_6_code 28 = .ok (.lreturn, 1) := by decide +kernel
theorem pn_6 : plainName "com/example/tern/tern/store/HashIndexHashPinLaw" = true := by first | (simp [plainName, overriddenIn]; done) | decide +kernel
theorem ef_6 (m : MethodId) (p0 : Int64) : entryFrame m #[(.long p0)] 4 = mkF m 0 #[vJ p0, .second, .unset, .unset] [] := by first | (simp [entryFrame, mkF, argsToLocals, Value.category]; done) | rfl
def f_6 (p0 : Int64) : Int64 := let v2_10 : Int64 := ((p0 ^^^ ((p0.toUInt64 >>> ((33 : Int32) &&& 0x3f).toInt64.toUInt64).toInt64)) * (-49064778989728563 : Int64)); let v2_21 : Int64 := ((v2_10 ^^^ ((v2_10.toUInt64 >>> ((33 : Int32) &&& 0x3f).toInt64.toUInt64).toInt64)) * (-4265267296055464877 : Int64)); (v2_21 ^^^ ((v2_21.toUInt64 >>> ((33 : Int32) &&& 0x3f).toInt64.toUInt64).toInt64))
def Q_6 (Z : State) (p0 : Int64)  (h0 : Heap) (n0 : Nat) (v : Option Value) (h : Heap) (L : List Loc) : Prop := v = some (.long (f_6 p0)) ∧ Fr n0 L ∧ h = h0
theorem rm_6 (l : Launch) (Z : State) (a0 : Array Value) (hw : ∀ d ∈ tables_1, d.before a0 Z = true) (ws : List Jvm.Cond) (p0 : Int64)  (h0 : Heap) (n0 : Nat) (Z0 : n0 ≤ h0.size)  :
    MetFree l (⟨"com/example/tern/tern/store/HashIndexHashPinLaw", "mix", "(J)J"⟩ : MethodName) (head1 (Jvm.Cond.code (⟨"com/example/tern/tern/store/HashIndexHashPinLaw", "mix", "(J)J"⟩ : MethodName) method_6_code 4 (some .long) :: ws) (⟨0, 0, 0, 0⟩ : Room)) (fun a U => a = #[(.long p0)] ∧ Z.Warmed39 U.vm ∧ U.heap = h0) (fun _ _ _ _ _ => True) (fun _ U o U' => ∃ v L, o = .returned v ∧ Q_6 Z p0 h0 n0 v U'.heap L ∧ FrameEnd U o U' L 0 0) := by
  refine MetFree.of_bodySF (plainFor_of_name pn_6) hisR ?_
  intro p e s m args below meth c s₁ Bd hml0 hP hK
  obtain ⟨rfl, hZ, hh⟩ := hP
  have hx := Bd.exec
  have hby := Bd.bytes
  have hml : c.maxLocals = 4 := hml0
  have hown : s.vm.findClass "com/example/tern/tern/store/HashIndexHashPinLaw" = some m.cls := findClass_of_methodNamed Bd.named
  have hnm := (name_of_methodNamed Bd.named Bd.method).1
  have X0 : Stand p l e (⟨0, 0, 0, 0⟩ : Room) s m #[(.long p0)] below meth c s₁ [] 0 0 := Stand.of_body Bd
  have e0 : s₁.heap = h0 := by rw [← hh, Bd.state]; rfl
  have N0 := Fr.nil n0
  have K0 : Keep h0 h0 [] := Keep.refl h0 _
  have pre0 : ∀ t, SP p e below (s₁.setTop (mkF m 0 #[vJ p0, .second, .unset, .unset] [])) t → SP p e below (s₁.setTop (entryFrame m #[(.long p0)] 4)) t := fun t k => castTop (ef_6 m p0) k
  obtain ⟨v2_10, hv2_10⟩ : ∃ z : Int64, z = ((p0 ^^^ ((p0.toUInt64 >>> ((33 : Int32) &&& 0x3f).toInt64.toUInt64).toInt64)) * (-49064778989728563 : Int64)) := ⟨_, rfl⟩
  obtain ⟨v2_21, hv2_21⟩ : ∃ z : Int64, z = ((v2_10 ^^^ ((v2_10.toUInt64 >>> ((33 : Int32) &&& 0x3f).toInt64.toUInt64).toInt64)) * (-4265267296055464877 : Int64)) := ⟨_, rfl⟩
  obtain ⟨fs, hr, hrun, hended, hW, hsame⟩ := X0.leave (v := some (.long (v2_21 ^^^ ((v2_21.toUInt64 >>> ((33 : Int32) &&& 0x3f).toInt64.toUInt64).toInt64)))) (fun h => by rw [Bd.returns] at h; cases h) (BodyLoose.notSynchronized Bd)
  refine ⟨_, _, pre0 _ ?_, hrun, hended, _, _, rfl, ?_, ⟨_, rfl⟩, hW, hsame.mono (by decide) (by decide)⟩
  · show SP p e below (s₁.setTop (mkF m 0 #[vJ p0, .second, .unset, .unset] [])) _
    refine XS.lloadN X0.here hx rfl (hb hby d6_0) rfl  ?_
    show SP p e below (s₁.setTop (mkF m 1 #[vJ p0, .second, .unset, .unset] [(.long p0)])) _
    refine XS.lloadN X0.here hx rfl (hb hby d6_1) rfl  ?_
    show SP p e below (s₁.setTop (mkF m 2 #[vJ p0, .second, .unset, .unset] [(.long p0), (.long p0)])) _
    refine XS.bipush X0.here hx rfl (hb hby d6_2) ?_
    show SP p e below (s₁.setTop (mkF m 4 #[vJ p0, .second, .unset, .unset] [(.int (33 : Int32)), (.long p0), (.long p0)])) _
    refine XS.lushr X0.here hx rfl (hb hby d6_4) rfl ?_
    show SP p e below (s₁.setTop (mkF m 5 #[vJ p0, .second, .unset, .unset] [(.long ((p0.toUInt64 >>> ((33 : Int32) &&& 0x3f).toInt64.toUInt64).toInt64)), (.long p0)])) _
    refine XS.lxor X0.here hx rfl (hb hby d6_5) rfl ?_
    show SP p e below (s₁.setTop (mkF m 6 #[vJ p0, .second, .unset, .unset] [(.long (p0 ^^^ ((p0.toUInt64 >>> ((33 : Int32) &&& 0x3f).toInt64.toUInt64).toInt64)))])) _
    refine X0.ldc2Long hx hown (mvT hZ (ow hw 39 rfl)) (g := (mkF m 6 #[vJ p0, .second, .unset, .unset] [(.long (p0 ^^^ ((p0.toUInt64 >>> ((33 : Int32) &&& 0x3f).toInt64.toUInt64).toInt64)))])) rfl (hb hby d6_6) _ ?_
    show SP p e below (s₁.setTop (mkF m 9 #[vJ p0, .second, .unset, .unset] [(.long (-49064778989728563 : Int64)), (.long (p0 ^^^ ((p0.toUInt64 >>> ((33 : Int32) &&& 0x3f).toInt64.toUInt64).toInt64)))])) _
    refine XS.lmul X0.here hx rfl (hb hby d6_9) rfl ?_
    show SP p e below (s₁.setTop (mkF m 10 #[vJ p0, .second, .unset, .unset] [(.long ((p0 ^^^ ((p0.toUInt64 >>> ((33 : Int32) &&& 0x3f).toInt64.toUInt64).toInt64)) * (-49064778989728563 : Int64)))])) _
    refine XS.lstoreN X0.here hx rfl (hb hby d6_10) rfl (l' := #[vJ p0, .second, vJ v2_10, .second]) (by rw [hv2_10]; rfl) ?_
    show SP p e below (s₁.setTop (mkF m 11 #[vJ p0, .second, vJ v2_10, .second] [])) _
    refine XS.lloadN X0.here hx rfl (hb hby d6_11) rfl  ?_
    show SP p e below (s₁.setTop (mkF m 12 #[vJ p0, .second, vJ v2_10, .second] [(.long v2_10)])) _
    refine XS.lloadN X0.here hx rfl (hb hby d6_12) rfl  ?_
    show SP p e below (s₁.setTop (mkF m 13 #[vJ p0, .second, vJ v2_10, .second] [(.long v2_10), (.long v2_10)])) _
    refine XS.bipush X0.here hx rfl (hb hby d6_13) ?_
    show SP p e below (s₁.setTop (mkF m 15 #[vJ p0, .second, vJ v2_10, .second] [(.int (33 : Int32)), (.long v2_10), (.long v2_10)])) _
    refine XS.lushr X0.here hx rfl (hb hby d6_15) rfl ?_
    show SP p e below (s₁.setTop (mkF m 16 #[vJ p0, .second, vJ v2_10, .second] [(.long ((v2_10.toUInt64 >>> ((33 : Int32) &&& 0x3f).toInt64.toUInt64).toInt64)), (.long v2_10)])) _
    refine XS.lxor X0.here hx rfl (hb hby d6_16) rfl ?_
    show SP p e below (s₁.setTop (mkF m 17 #[vJ p0, .second, vJ v2_10, .second] [(.long (v2_10 ^^^ ((v2_10.toUInt64 >>> ((33 : Int32) &&& 0x3f).toInt64.toUInt64).toInt64)))])) _
    refine X0.ldc2Long hx hown (mvT hZ (ow hw 40 rfl)) (g := (mkF m 17 #[vJ p0, .second, vJ v2_10, .second] [(.long (v2_10 ^^^ ((v2_10.toUInt64 >>> ((33 : Int32) &&& 0x3f).toInt64.toUInt64).toInt64)))])) rfl (hb hby d6_17) _ ?_
    show SP p e below (s₁.setTop (mkF m 20 #[vJ p0, .second, vJ v2_10, .second] [(.long (-4265267296055464877 : Int64)), (.long (v2_10 ^^^ ((v2_10.toUInt64 >>> ((33 : Int32) &&& 0x3f).toInt64.toUInt64).toInt64)))])) _
    refine XS.lmul X0.here hx rfl (hb hby d6_20) rfl ?_
    show SP p e below (s₁.setTop (mkF m 21 #[vJ p0, .second, vJ v2_10, .second] [(.long ((v2_10 ^^^ ((v2_10.toUInt64 >>> ((33 : Int32) &&& 0x3f).toInt64.toUInt64).toInt64)) * (-4265267296055464877 : Int64)))])) _
    refine XS.lstoreN X0.here hx rfl (hb hby d6_21) rfl (l' := #[vJ p0, .second, vJ v2_21, .second]) (by rw [hv2_21]; rfl) ?_
    show SP p e below (s₁.setTop (mkF m 22 #[vJ p0, .second, vJ v2_21, .second] [])) _
    refine XS.lloadN X0.here hx rfl (hb hby d6_22) rfl  ?_
    show SP p e below (s₁.setTop (mkF m 23 #[vJ p0, .second, vJ v2_21, .second] [(.long v2_21)])) _
    refine XS.lloadN X0.here hx rfl (hb hby d6_23) rfl  ?_
    show SP p e below (s₁.setTop (mkF m 24 #[vJ p0, .second, vJ v2_21, .second] [(.long v2_21), (.long v2_21)])) _
    refine XS.bipush X0.here hx rfl (hb hby d6_24) ?_
    show SP p e below (s₁.setTop (mkF m 26 #[vJ p0, .second, vJ v2_21, .second] [(.int (33 : Int32)), (.long v2_21), (.long v2_21)])) _
    refine XS.lushr X0.here hx rfl (hb hby d6_26) rfl ?_
    show SP p e below (s₁.setTop (mkF m 27 #[vJ p0, .second, vJ v2_21, .second] [(.long ((v2_21.toUInt64 >>> ((33 : Int32) &&& 0x3f).toInt64.toUInt64).toInt64)), (.long v2_21)])) _
    refine XS.lxor X0.here hx rfl (hb hby d6_27) rfl ?_
    show SP p e below (s₁.setTop (mkF m 28 #[vJ p0, .second, vJ v2_21, .second] [(.long (v2_21 ^^^ ((v2_21.toUInt64 >>> ((33 : Int32) &&& 0x3f).toInt64.toUInt64).toInt64)))])) _
    exact retOut X0 hx Bd.returns rfl (Or.inr (Or.inl ⟨rfl, rfl, _, rfl⟩)) (hb hby d6_28) hr
  · show Q_6 Z p0 h0 n0 _ s₁.heap _
    rw [e0]
    exact ⟨congrArg (fun z => some (Value.long z)) (by subst hv2_10 hv2_21; rfl : (v2_21 ^^^ ((v2_21.toUInt64 >>> ((33 : Int32) &&& 0x3f).toInt64.toUInt64).toInt64)) = f_6 p0), N0, rfl⟩
theorem d23_0 : decode jdk_41_method_11_code 0 = .ok (.iload_n 0, 1) := by decide +kernel
theorem d23_1 : decode jdk_41_method_11_code 1 = .ok (.ifCond .lt 8, 3) := by decide +kernel
theorem d23_4 : decode jdk_41_method_11_code 4 = .ok (.iload_n 0, 1) := by decide +kernel
theorem d23_5 : decode jdk_41_method_11_code 5 = .ok (.iload_n 1, 1) := by decide +kernel
theorem d23_6 : decode jdk_41_method_11_code 6 = .ok (.if_icmp .lt 10, 3) := by decide +kernel
theorem d23_16 : decode jdk_41_method_11_code 16 = .ok (.iload_n 0, 1) := by decide +kernel
theorem d23_17 : decode jdk_41_method_11_code 17 = .ok (.ireturn, 1) := by decide +kernel
theorem pn_23 : plainName "jdk/internal/util/Preconditions" = true := by first | (simp [plainName, overriddenIn]; done) | decide +kernel
theorem ef_23r (m : MethodId) (p0 : Int32) (p1 : Int32) (p2 : Addr) : entryFrame m #[(.int p0), (.int p1), (.ref p2)] 3 = mkF m 0 #[vI p0, vI p1, vR p2] [] := by first | (simp [entryFrame, mkF, argsToLocals, Value.category]; done) | rfl
def f_23r (p0 : Int32) (p1 : Int32) : Int32 := p0
def Q_23r (Z : State) (p0 : Int32) (p1 : Int32) (p2 : Addr)  (h0 : Heap) (n0 : Nat) (v : Option Value) (h : Heap) (L : List Loc) : Prop := v = some (.int (f_23r p0 p1)) ∧ Fr n0 L ∧ h = h0
theorem rm_23r (l : Launch) (Z : State) (a0 : Array Value) (hw : ∀ d ∈ tables_1, d.before a0 Z = true) (ws : List Jvm.Cond) (p0 : Int32) (p1 : Int32) (p2 : Addr)  (h0 : Heap) (n0 : Nat) (Z0 : n0 ≤ h0.size) (hlo : ¬ (p0 < (0 : Int32))) (hhi : p0 < p1) :
    MetFree l (⟨"jdk/internal/util/Preconditions", "checkIndex", "(IILjava/util/function/BiFunction;)I"⟩ : MethodName) (head1 (Jvm.Cond.code (⟨"jdk/internal/util/Preconditions", "checkIndex", "(IILjava/util/function/BiFunction;)I"⟩ : MethodName) jdk_41_method_11_code 3 (some .int) :: ws) (⟨0, 0, 0, 0⟩ : Room)) (fun a U => a = #[(.int p0), (.int p1), (.ref p2)] ∧ Z.Warmed39 U.vm ∧ U.heap = h0) (fun _ _ _ _ _ => True) (fun _ U o U' => ∃ v L, o = .returned v ∧ Q_23r Z p0 p1 p2 h0 n0 v U'.heap L ∧ FrameEnd U o U' L 0 0) := by
  refine MetFree.of_bodySF (plainFor_of_name pn_23) hisR ?_
  intro p e s m args below meth c s₁ Bd hml0 hP hK
  obtain ⟨rfl, hZ, hh⟩ := hP
  have hx := Bd.exec
  have hby := Bd.bytes
  have hml : c.maxLocals = 3 := hml0
  have hown : s.vm.findClass "jdk/internal/util/Preconditions" = some m.cls := findClass_of_methodNamed Bd.named
  have hnm := (name_of_methodNamed Bd.named Bd.method).1
  have X0 : Stand p l e (⟨0, 0, 0, 0⟩ : Room) s m #[(.int p0), (.int p1), (.ref p2)] below meth c s₁ [] 0 0 := Stand.of_body Bd
  have e0 : s₁.heap = h0 := by rw [← hh, Bd.state]; rfl
  have N0 := Fr.nil n0
  have K0 : Keep h0 h0 [] := Keep.refl h0 _
  have pre0 : ∀ t, SP p e below (s₁.setTop (mkF m 0 #[vI p0, vI p1, vR p2] [])) t → SP p e below (s₁.setTop (entryFrame m #[(.int p0), (.int p1), (.ref p2)] 3)) t := fun t k => castTop (ef_23r m p0 p1 p2) k
  obtain ⟨fs, hr, hrun, hended, hW, hsame⟩ := X0.leave (v := some (.int p0)) (fun h => by rw [Bd.returns] at h; cases h) (BodyLoose.notSynchronized Bd)
  refine ⟨_, _, pre0 _ ?_, hrun, hended, _, _, rfl, ?_, ⟨_, rfl⟩, hW, hsame.mono (by decide) (by decide)⟩
  · show SP p e below (s₁.setTop (mkF m 0 #[vI p0, vI p1, vR p2] [])) _
    refine XS.iloadN X0.here hx rfl (hb hby d23_0) rfl  ?_
    show SP p e below (s₁.setTop (mkF m 1 #[vI p0, vI p1, vR p2] [(.int p0)])) _
    refine XS.ifNo X0.here hx rfl (hb hby d23_1) rfl ((if0 _ _).trans (flt (hlo : ¬ (p0 < (0 : Int32)))).1) ?_
    show SP p e below (s₁.setTop (mkF m 4 #[vI p0, vI p1, vR p2] [])) _
    refine XS.iloadN X0.here hx rfl (hb hby d23_4) rfl  ?_
    show SP p e below (s₁.setTop (mkF m 5 #[vI p0, vI p1, vR p2] [(.int p0)])) _
    refine XS.iloadN X0.here hx rfl (hb hby d23_5) rfl  ?_
    show SP p e below (s₁.setTop (mkF m 6 #[vI p0, vI p1, vR p2] [(.int p1), (.int p0)])) _
    refine XS.icmpYes X0.here hx rfl (pc0 := 6) (pc' := 16) rfl (hb hby d23_6) rfl (tlt (hhi : p0 < p1)).1 (by decide) (by decide) ?_
    show SP p e below (s₁.setTop (mkF m 16 #[vI p0, vI p1, vR p2] [])) _
    refine XS.iloadN X0.here hx rfl (hb hby d23_16) rfl  ?_
    show SP p e below (s₁.setTop (mkF m 17 #[vI p0, vI p1, vR p2] [(.int p0)])) _
    exact retI X0 hx Bd.returns (hb hby d23_17) hr
  · show Q_23r Z p0 p1 p2 h0 n0 _ s₁.heap _
    rw [e0]
    exact ⟨congrArg (fun z => some (Value.int z)) (by rfl : p0 = f_23r p0 p1), N0, rfl⟩
theorem ef_23z (m : MethodId) (p0 : Int32) (p1 : Int32) : entryFrame m #[(.int p0), (.int p1), .null] 3 = mkF m 0 #[vI p0, vI p1, .val .null] [] := by first | (simp [entryFrame, mkF, argsToLocals, Value.category]; done) | rfl
def f_23z (p0 : Int32) (p1 : Int32) : Int32 := p0
def Q_23z (Z : State) (p0 : Int32) (p1 : Int32)  (h0 : Heap) (n0 : Nat) (v : Option Value) (h : Heap) (L : List Loc) : Prop := v = some (.int (f_23z p0 p1)) ∧ Fr n0 L ∧ h = h0
theorem rm_23z (l : Launch) (Z : State) (a0 : Array Value) (hw : ∀ d ∈ tables_1, d.before a0 Z = true) (ws : List Jvm.Cond) (p0 : Int32) (p1 : Int32)  (h0 : Heap) (n0 : Nat) (Z0 : n0 ≤ h0.size) (hlo : ¬ (p0 < (0 : Int32))) (hhi : p0 < p1) :
    MetFree l (⟨"jdk/internal/util/Preconditions", "checkIndex", "(IILjava/util/function/BiFunction;)I"⟩ : MethodName) (head1 (Jvm.Cond.code (⟨"jdk/internal/util/Preconditions", "checkIndex", "(IILjava/util/function/BiFunction;)I"⟩ : MethodName) jdk_41_method_11_code 3 (some .int) :: ws) (⟨0, 0, 0, 0⟩ : Room)) (fun a U => a = #[(.int p0), (.int p1), .null] ∧ Z.Warmed39 U.vm ∧ U.heap = h0) (fun _ _ _ _ _ => True) (fun _ U o U' => ∃ v L, o = .returned v ∧ Q_23z Z p0 p1 h0 n0 v U'.heap L ∧ FrameEnd U o U' L 0 0) := by
  refine MetFree.of_bodySF (plainFor_of_name pn_23) hisR ?_
  intro p e s m args below meth c s₁ Bd hml0 hP hK
  obtain ⟨rfl, hZ, hh⟩ := hP
  have hx := Bd.exec
  have hby := Bd.bytes
  have hml : c.maxLocals = 3 := hml0
  have hown : s.vm.findClass "jdk/internal/util/Preconditions" = some m.cls := findClass_of_methodNamed Bd.named
  have hnm := (name_of_methodNamed Bd.named Bd.method).1
  have X0 : Stand p l e (⟨0, 0, 0, 0⟩ : Room) s m #[(.int p0), (.int p1), .null] below meth c s₁ [] 0 0 := Stand.of_body Bd
  have e0 : s₁.heap = h0 := by rw [← hh, Bd.state]; rfl
  have N0 := Fr.nil n0
  have K0 : Keep h0 h0 [] := Keep.refl h0 _
  have pre0 : ∀ t, SP p e below (s₁.setTop (mkF m 0 #[vI p0, vI p1, .val .null] [])) t → SP p e below (s₁.setTop (entryFrame m #[(.int p0), (.int p1), .null] 3)) t := fun t k => castTop (ef_23z m p0 p1) k
  obtain ⟨fs, hr, hrun, hended, hW, hsame⟩ := X0.leave (v := some (.int p0)) (fun h => by rw [Bd.returns] at h; cases h) (BodyLoose.notSynchronized Bd)
  refine ⟨_, _, pre0 _ ?_, hrun, hended, _, _, rfl, ?_, ⟨_, rfl⟩, hW, hsame.mono (by decide) (by decide)⟩
  · show SP p e below (s₁.setTop (mkF m 0 #[vI p0, vI p1, .val .null] [])) _
    refine XS.iloadN X0.here hx rfl (hb hby d23_0) rfl  ?_
    show SP p e below (s₁.setTop (mkF m 1 #[vI p0, vI p1, .val .null] [(.int p0)])) _
    refine XS.ifNo X0.here hx rfl (hb hby d23_1) rfl ((if0 _ _).trans (flt (hlo : ¬ (p0 < (0 : Int32)))).1) ?_
    show SP p e below (s₁.setTop (mkF m 4 #[vI p0, vI p1, .val .null] [])) _
    refine XS.iloadN X0.here hx rfl (hb hby d23_4) rfl  ?_
    show SP p e below (s₁.setTop (mkF m 5 #[vI p0, vI p1, .val .null] [(.int p0)])) _
    refine XS.iloadN X0.here hx rfl (hb hby d23_5) rfl  ?_
    show SP p e below (s₁.setTop (mkF m 6 #[vI p0, vI p1, .val .null] [(.int p1), (.int p0)])) _
    refine XS.icmpYes X0.here hx rfl (pc0 := 6) (pc' := 16) rfl (hb hby d23_6) rfl (tlt (hhi : p0 < p1)).1 (by decide) (by decide) ?_
    show SP p e below (s₁.setTop (mkF m 16 #[vI p0, vI p1, .val .null] [])) _
    refine XS.iloadN X0.here hx rfl (hb hby d23_16) rfl  ?_
    show SP p e below (s₁.setTop (mkF m 17 #[vI p0, vI p1, .val .null] [(.int p0)])) _
    exact retI X0 hx Bd.returns (hb hby d23_17) hr
  · show Q_23z Z p0 p1 h0 n0 _ s₁.heap _
    rw [e0]
    exact ⟨congrArg (fun z => some (Value.int z)) (by rfl : p0 = f_23z p0 p1), N0, rfl⟩
theorem pd_1 : parseMethodDescriptor "(IILjava/util/function/BiFunction;)I" = some ⟨[.int, .int, (.object "java/util/function/BiFunction")], some .int⟩ := by decide +kernel
theorem d22_0 : decode jdk_42_method_155_code 0 = .ok (.iload_n 0, 1) := by decide +kernel
theorem d22_1 : decode jdk_42_method_155_code 1 = .ok (.iload_n 1, 1) := by decide +kernel
theorem d22_2 : decode jdk_42_method_155_code 2 = .ok (.getstatic 1053, 3) := by decide +kernel
theorem d22_5 : decode jdk_42_method_155_code 5 = .ok (.invokestatic 1059, 3) := by decide +kernel
theorem d22_8 : decode jdk_42_method_155_code 8 = .ok (.pop, 1) := by decide +kernel
theorem d22_9 : decode jdk_42_method_155_code 9 = .ok (.return_, 1) := by decide +kernel
theorem pn_22 : plainName "java/lang/String" = true := by first | (simp [plainName, overriddenIn]; done) | decide +kernel
theorem ef_22r (m : MethodId) (p0 : Int32) (p1 : Int32) : entryFrame m #[(.int p0), (.int p1)] 2 = mkF m 0 #[vI p0, vI p1] [] := by first | (simp [entryFrame, mkF, argsToLocals, Value.category]; done) | rfl
def Q_22r (Z : State) (p0 : Int32) (p1 : Int32) (fm_ : Addr) (h0 : Heap) (n0 : Nat) (v : Option Value) (h : Heap) (L : List Loc) : Prop := v = none ∧ Fr n0 L ∧ h = h0
theorem rm_22r (l : Launch) (Z : State) (a0 : Array Value) (hw : ∀ d ∈ tables_1, d.before a0 Z = true) (ws : List Jvm.Cond) (p0 : Int32) (p1 : Int32) (fm_ : Addr) (h0 : Heap) (n0 : Nat) (Z0 : n0 ≤ h0.size) (S_SIOOBE_FORMATTER : Sta Z h0 "jdk/internal/util/Preconditions" "SIOOBE_FORMATTER" "Ljava/util/function/BiFunction;" (.ref fm_)) (hlo : ¬ (p0 < (0 : Int32))) (hhi : p0 < p1) :
    MetFree l (⟨"java/lang/String", "checkIndex", "(II)V"⟩ : MethodName) (head1 (Jvm.Cond.code (⟨"java/lang/String", "checkIndex", "(II)V"⟩ : MethodName) jdk_42_method_155_code 2 none :: ws) (⟨1, 0, 0, 14⟩ : Room)) (fun a U => a = #[(.int p0), (.int p1)] ∧ Z.Warmed39 U.vm ∧ U.heap = h0) (fun _ _ _ _ _ => True) (fun _ U o U' => ∃ v L, o = .returned v ∧ Q_22r Z p0 p1 fm_ h0 n0 v U'.heap L ∧ FrameEnd U o U' L 0 0) := by
  refine MetFree.of_bodySF (plainFor_of_name pn_22) hisR ?_
  intro p e s m args below meth c s₁ Bd hml0 hP hK
  obtain ⟨rfl, hZ, hh⟩ := hP
  have hx := Bd.exec
  have hby := Bd.bytes
  have hml : c.maxLocals = 2 := hml0
  have hown : s.vm.findClass "java/lang/String" = some m.cls := findClass_of_methodNamed Bd.named
  have hnm := (name_of_methodNamed Bd.named Bd.method).1
  have X0 : Stand p l e (⟨1, 0, 0, 14⟩ : Room) s m #[(.int p0), (.int p1)] below meth c s₁ [] 0 0 := Stand.of_body Bd
  have e0 : s₁.heap = h0 := by rw [← hh, Bd.state]; rfl
  have N0 := Fr.nil n0
  have K0 : Keep h0 h0 [] := Keep.refl h0 _
  have pre0 : ∀ t, SP p e below (s₁.setTop (mkF m 0 #[vI p0, vI p1] [])) t → SP p e below (s₁.setTop (entryFrame m #[(.int p0), (.int p1)] 2)) t := fun t k => castTop (ef_22r m p0 p1) k
  have pre1 : ∀ t, SP p e below (s₁.setTop (mkF m 2 #[vI p0, vI p1] [(.int p1), (.int p0)])) t → SP p e below (s₁.setTop (entryFrame m #[(.int p0), (.int p1)] 2)) t := by
    intro t k
    refine pre0 t ?_
    show SP p e below (s₁.setTop (mkF m 0 #[vI p0, vI p1] [])) _
    refine XS.iloadN X0.here hx rfl (hb hby d22_0) rfl  ?_
    show SP p e below (s₁.setTop (mkF m 1 #[vI p0, vI p1] [(.int p0)])) _
    refine XS.iloadN X0.here hx rfl (hb hby d22_1) rfl  ?_
    exact k
  obtain ⟨T2, X2, e2, st2⟩ := getS2 X0 hx hZ hown (host := "") (Or.inl (ow hw 102 rfl)) Via.refl e0 S_SIOOBE_FORMATTER (g := (mkF m 2 #[vI p0, vI p1] [(.int p1), (.int p0)])) rfl (hb hby d22_2)
  have pre4 : ∀ t, SP p e below (T2.setTop (mkF m 5 #[vI p0, vI p1] [(.ref fm_), (.int p1), (.int p0)])) t → SP p e below (s₁.setTop (entryFrame m #[(.int p0), (.int p1)] 2)) t := by
    intro t k
    refine pre1 t ?_
    show SP p e below (s₁.setTop (mkF m 2 #[vI p0, vI p1] [(.int p1), (.int p0)])) _
    refine st2 _ ?_
    exact k
  obtain ⟨_, _, ⟨T3, L3, k3, n3⟩, -, X3, ⟨Lc3, hQ3, l3, y3, z3⟩, st3⟩ := Jvm.LawKit.callS X2 hx (y := (⟨"jdk/internal/util/Preconditions", "checkIndex", "(IILjava/util/function/BiFunction;)I"⟩ : MethodName)) hown (mvT hZ (ow hw 104 rfl)) (mvT hZ (ow hw 105 rfl)) (mvT hZ (ow hw 103 rfl)) (mvT hZ (ow hw 106 rfl)) (by decide) (backOf (W := 0) (rm_23r l Z a0 hw [] p0 p1 fm_ h0 n0 Z0 hlo hhi) hZ (ow hw 106 rfl) (ow hw 103 rfl) (by decide) (by decide)) (g := (mkF m 5 #[vI p0, vI p1] [(.ref fm_), (.int p1), (.int p0)])) rfl (by rw [hml]; rfl) (argsL := [(.int p0), (.int p1), (.ref fm_)]) (rest := []) (lenOf pd_1 rfl) rfl own_le0 (hb hby d22_5) (fun _ _ => ⟨rfl, e2, (by decide : 0 + 0 ≤ _), (by decide : 0 + 0 ≤ _)⟩)
  dsimp only [Pt.U, Pt.locs, Pt.cells, Pt.slots] at X3 l3 y3 z3 st3 hQ3
  rw [l3, y3, z3] at X3
  obtain ⟨rfl, N3q, e3⟩ := hQ3
  have N3 := Fr.app N0 N3q
  obtain ⟨fs, hr, hrun, hended, hW, hsame⟩ := X3.leave (v := none) (fun _ => rfl) (BodyLoose.notSynchronized Bd)
  refine ⟨_, _, pre4 _ ?_, hrun, hended, _, _, rfl, ?_, ⟨_, rfl⟩, hW, hsame.mono (by decide) (by decide)⟩
  · show SP p e below (T2.setTop (mkF m 5 #[vI p0, vI p1] [(.ref fm_), (.int p1), (.int p0)])) _
    refine st3 _ ?_
    show SP p e below (T3.setTop (mkF m 8 #[vI p0, vI p1] [(.int (f_23r p0 p1))])) _
    refine XS.pop X3.here hx rfl (hb hby d22_8) rfl rfl ?_
    show SP p e below (T3.setTop (mkF m 9 #[vI p0, vI p1] [])) _
    exact X3.returnOut hx Bd.returns (hb hby d22_9) hr
  · show Q_22r Z p0 p1 fm_ h0 n0 _ T3.heap _
    rw [e3]
    exact ⟨rfl, N3, rfl⟩
theorem ef_22z (m : MethodId) (p0 : Int32) (p1 : Int32) : entryFrame m #[(.int p0), (.int p1)] 2 = mkF m 0 #[vI p0, vI p1] [] := by first | (simp [entryFrame, mkF, argsToLocals, Value.category]; done) | rfl
def Q_22z (Z : State) (p0 : Int32) (p1 : Int32)  (h0 : Heap) (n0 : Nat) (v : Option Value) (h : Heap) (L : List Loc) : Prop := v = none ∧ Fr n0 L ∧ h = h0
theorem rm_22z (l : Launch) (Z : State) (a0 : Array Value) (hw : ∀ d ∈ tables_1, d.before a0 Z = true) (ws : List Jvm.Cond) (p0 : Int32) (p1 : Int32)  (h0 : Heap) (n0 : Nat) (Z0 : n0 ≤ h0.size) (S_SIOOBE_FORMATTER : Sta Z h0 "jdk/internal/util/Preconditions" "SIOOBE_FORMATTER" "Ljava/util/function/BiFunction;" .null) (hlo : ¬ (p0 < (0 : Int32))) (hhi : p0 < p1) :
    MetFree l (⟨"java/lang/String", "checkIndex", "(II)V"⟩ : MethodName) (head1 (Jvm.Cond.code (⟨"java/lang/String", "checkIndex", "(II)V"⟩ : MethodName) jdk_42_method_155_code 2 none :: ws) (⟨1, 0, 0, 14⟩ : Room)) (fun a U => a = #[(.int p0), (.int p1)] ∧ Z.Warmed39 U.vm ∧ U.heap = h0) (fun _ _ _ _ _ => True) (fun _ U o U' => ∃ v L, o = .returned v ∧ Q_22z Z p0 p1 h0 n0 v U'.heap L ∧ FrameEnd U o U' L 0 0) := by
  refine MetFree.of_bodySF (plainFor_of_name pn_22) hisR ?_
  intro p e s m args below meth c s₁ Bd hml0 hP hK
  obtain ⟨rfl, hZ, hh⟩ := hP
  have hx := Bd.exec
  have hby := Bd.bytes
  have hml : c.maxLocals = 2 := hml0
  have hown : s.vm.findClass "java/lang/String" = some m.cls := findClass_of_methodNamed Bd.named
  have hnm := (name_of_methodNamed Bd.named Bd.method).1
  have X0 : Stand p l e (⟨1, 0, 0, 14⟩ : Room) s m #[(.int p0), (.int p1)] below meth c s₁ [] 0 0 := Stand.of_body Bd
  have e0 : s₁.heap = h0 := by rw [← hh, Bd.state]; rfl
  have N0 := Fr.nil n0
  have K0 : Keep h0 h0 [] := Keep.refl h0 _
  have pre0 : ∀ t, SP p e below (s₁.setTop (mkF m 0 #[vI p0, vI p1] [])) t → SP p e below (s₁.setTop (entryFrame m #[(.int p0), (.int p1)] 2)) t := fun t k => castTop (ef_22z m p0 p1) k
  have pre1 : ∀ t, SP p e below (s₁.setTop (mkF m 2 #[vI p0, vI p1] [(.int p1), (.int p0)])) t → SP p e below (s₁.setTop (entryFrame m #[(.int p0), (.int p1)] 2)) t := by
    intro t k
    refine pre0 t ?_
    show SP p e below (s₁.setTop (mkF m 0 #[vI p0, vI p1] [])) _
    refine XS.iloadN X0.here hx rfl (hb hby d22_0) rfl  ?_
    show SP p e below (s₁.setTop (mkF m 1 #[vI p0, vI p1] [(.int p0)])) _
    refine XS.iloadN X0.here hx rfl (hb hby d22_1) rfl  ?_
    exact k
  obtain ⟨T2, X2, e2, st2⟩ := getS2 X0 hx hZ hown (host := "") (Or.inl (ow hw 102 rfl)) Via.refl e0 S_SIOOBE_FORMATTER (g := (mkF m 2 #[vI p0, vI p1] [(.int p1), (.int p0)])) rfl (hb hby d22_2)
  have pre4 : ∀ t, SP p e below (T2.setTop (mkF m 5 #[vI p0, vI p1] [.null, (.int p1), (.int p0)])) t → SP p e below (s₁.setTop (entryFrame m #[(.int p0), (.int p1)] 2)) t := by
    intro t k
    refine pre1 t ?_
    show SP p e below (s₁.setTop (mkF m 2 #[vI p0, vI p1] [(.int p1), (.int p0)])) _
    refine st2 _ ?_
    exact k
  obtain ⟨_, _, ⟨T3, L3, k3, n3⟩, -, X3, ⟨Lc3, hQ3, l3, y3, z3⟩, st3⟩ := Jvm.LawKit.callS X2 hx (y := (⟨"jdk/internal/util/Preconditions", "checkIndex", "(IILjava/util/function/BiFunction;)I"⟩ : MethodName)) hown (mvT hZ (ow hw 104 rfl)) (mvT hZ (ow hw 105 rfl)) (mvT hZ (ow hw 103 rfl)) (mvT hZ (ow hw 106 rfl)) (by decide) (backOf (W := 0) (rm_23z l Z a0 hw [] p0 p1 h0 n0 Z0 hlo hhi) hZ (ow hw 106 rfl) (ow hw 103 rfl) (by decide) (by decide)) (g := (mkF m 5 #[vI p0, vI p1] [.null, (.int p1), (.int p0)])) rfl (by rw [hml]; rfl) (argsL := [(.int p0), (.int p1), .null]) (rest := []) (lenOf pd_1 rfl) rfl own_le0 (hb hby d22_5) (fun _ _ => ⟨rfl, e2, (by decide : 0 + 0 ≤ _), (by decide : 0 + 0 ≤ _)⟩)
  dsimp only [Pt.U, Pt.locs, Pt.cells, Pt.slots] at X3 l3 y3 z3 st3 hQ3
  rw [l3, y3, z3] at X3
  obtain ⟨rfl, N3q, e3⟩ := hQ3
  have N3 := Fr.app N0 N3q
  obtain ⟨fs, hr, hrun, hended, hW, hsame⟩ := X3.leave (v := none) (fun _ => rfl) (BodyLoose.notSynchronized Bd)
  refine ⟨_, _, pre4 _ ?_, hrun, hended, _, _, rfl, ?_, ⟨_, rfl⟩, hW, hsame.mono (by decide) (by decide)⟩
  · show SP p e below (T2.setTop (mkF m 5 #[vI p0, vI p1] [.null, (.int p1), (.int p0)])) _
    refine st3 _ ?_
    show SP p e below (T3.setTop (mkF m 8 #[vI p0, vI p1] [(.int (f_23z p0 p1))])) _
    refine XS.pop X3.here hx rfl (hb hby d22_8) rfl rfl ?_
    show SP p e below (T3.setTop (mkF m 9 #[vI p0, vI p1] [])) _
    exact X3.returnOut hx Bd.returns (hb hby d22_9) hr
  · show Q_22z Z p0 p1 h0 n0 _ T3.heap _
    rw [e3]
    exact ⟨rfl, N3, rfl⟩
theorem rm_22 (l : Launch) (Z : State) (a0 : Array Value) (hw : ∀ d ∈ tables_1, d.before a0 Z = true) (ws : List Jvm.Cond) (p0 : Int32) (p1 : Int32)  (fm_ : Value) (h0 : Heap) (n0 : Nat) (Z0 : n0 ≤ h0.size) (S_SIOOBE_FORMATTER : Sta Z h0 "jdk/internal/util/Preconditions" "SIOOBE_FORMATTER" "Ljava/util/function/BiFunction;" fm_) (hfm : fm_ = Value.null ∨ ∃ a, fm_ = Value.ref a) (hlo : ¬ (p0 < (0 : Int32))) (hhi : p0 < p1) :
    MetFree l (⟨"java/lang/String", "checkIndex", "(II)V"⟩ : MethodName) (head1 (Jvm.Cond.code (⟨"java/lang/String", "checkIndex", "(II)V"⟩ : MethodName) jdk_42_method_155_code 2 none :: ws) (⟨1, 0, 0, 14⟩ : Room)) (fun a U => a = #[(.int p0), (.int p1)] ∧ Z.Warmed39 U.vm ∧ U.heap = h0) (fun _ _ _ _ _ => True) (fun _ U o U' => ∃ v L, o = .returned v ∧ Q_22z Z p0 p1 h0 n0 v U'.heap L ∧ FrameEnd U o U' L 0 0) := by
  rcases hfm with rfl | ⟨a, rfl⟩
  · exact rm_22z l Z a0 hw ws p0 p1 h0 n0 Z0 S_SIOOBE_FORMATTER hlo hhi
  · exact rm_22r l Z a0 hw ws p0 p1 a h0 n0 Z0 S_SIOOBE_FORMATTER hlo hhi
theorem d32_0 : decode jdk_52_method_6_code 0 = .ok (.aload_n 0, 1) := by decide +kernel
theorem d32_1 : decode jdk_52_method_6_code 1 = .ok (.arraylength, 1) := by decide +kernel
theorem d32_2 : decode jdk_52_method_6_code 2 = .ok (.iconst 1, 1) := by decide +kernel
theorem d32_3 : decode jdk_52_method_6_code 3 = .ok (.ishr, 1) := by decide +kernel
theorem d32_4 : decode jdk_52_method_6_code 4 = .ok (.ireturn, 1) := by decide +kernel
theorem pn_32 : plainName "java/lang/StringUTF16" = true := by first | (simp [plainName, overriddenIn]; done) | decide +kernel
theorem ef_32n2 (m : MethodId) (p0 : Addr) : entryFrame m #[(.ref p0)] 1 = mkF m 0 #[vR p0] [] := by first | (simp [entryFrame, mkF, argsToLocals, Value.category]; done) | rfl
def f_32n2 (x_ : Nat → Int32) : Int32 := (1 : Int32)
def Q_32n2 (Z : State) (p0 : Addr) (x_ : Nat → Int32) (h0 : Heap) (n0 : Nat) (v : Option Value) (h : Heap) (L : List Loc) : Prop := v = some (.int (f_32n2 x_)) ∧ Fr n0 L ∧ h = h0
theorem rm_32n2 (l : Launch) (Z : State) (a0 : Array Value) (hw : ∀ d ∈ tables_1, d.before a0 Z = true) (ws : List Jvm.Cond) (p0 : Addr) (x_ : Nat → Int32) (h0 : Heap) (n0 : Nat) (Z0 : n0 ≤ h0.size) (A_p0 : own_A Z h0 p0 .byte 2 (fun i => .int (x_ i))) :
    MetFree l (⟨"java/lang/StringUTF16", "length", "([B)I"⟩ : MethodName) (head1 (Jvm.Cond.code (⟨"java/lang/StringUTF16", "length", "([B)I"⟩ : MethodName) jdk_52_method_6_code 1 (some .int) :: ws) (⟨0, 0, 0, 0⟩ : Room)) (fun a U => a = #[(.ref p0)] ∧ Z.Warmed39 U.vm ∧ U.heap = h0) (fun _ _ _ _ _ => True) (fun _ U o U' => ∃ v L, o = .returned v ∧ Q_32n2 Z p0 x_ h0 n0 v U'.heap L ∧ FrameEnd U o U' L 0 0) := by
  refine MetFree.of_bodySF (plainFor_of_name pn_32) hisR ?_
  intro p e s m args below meth c s₁ Bd hml0 hP hK
  obtain ⟨rfl, hZ, hh⟩ := hP
  have hx := Bd.exec
  have hby := Bd.bytes
  have hml : c.maxLocals = 1 := hml0
  have hown : s.vm.findClass "java/lang/StringUTF16" = some m.cls := findClass_of_methodNamed Bd.named
  have hnm := (name_of_methodNamed Bd.named Bd.method).1
  have X0 : Stand p l e (⟨0, 0, 0, 0⟩ : Room) s m #[(.ref p0)] below meth c s₁ [] 0 0 := Stand.of_body Bd
  have e0 : s₁.heap = h0 := by rw [← hh, Bd.state]; rfl
  have N0 := Fr.nil n0
  have K0 : Keep h0 h0 [] := Keep.refl h0 _
  have pre0 : ∀ t, SP p e below (s₁.setTop (mkF m 0 #[vR p0] [])) t → SP p e below (s₁.setTop (entryFrame m #[(.ref p0)] 1)) t := fun t k => castTop (ef_32n2 m p0) k
  have pre1 : ∀ t, SP p e below (s₁.setTop (mkF m 4 #[vR p0] [(.int ((2 : Int32) >>> ((1 : Int32) &&& 31)))])) t → SP p e below (s₁.setTop (entryFrame m #[(.ref p0)] 1)) t := by
    intro t k
    refine pre0 t ?_
    show SP p e below (s₁.setTop (mkF m 0 #[vR p0] [])) _
    refine XS.aloadN X0.here hx rfl (hb hby d32_0) rfl rfl ?_
    show SP p e below (s₁.setTop (mkF m 1 #[vR p0] [(.ref p0)])) _
    refine own_len X0 hx hZ e0 A_p0 (z := (2 : Int32)) rfl (g := (mkF m 1 #[vR p0] [(.ref p0)])) rfl rfl (hb hby d32_1) ?_
    show SP p e below (s₁.setTop (mkF m 2 #[vR p0] [(.int (2 : Int32))])) _
    refine XS.iconst X0.here hx rfl (hb hby d32_2) ?_
    show SP p e below (s₁.setTop (mkF m 3 #[vR p0] [(.int (1 : Int32)), (.int (2 : Int32))])) _
    refine XS.ishr X0.here hx rfl (hb hby d32_3) rfl ?_
    exact k
  have hl2 : ((2 : Int32) >>> ((1 : Int32) &&& 31)) = (1 : Int32) := by decide
  have preL2 : ∀ t, SP p e below (s₁.setTop (mkF m 4 #[vR p0] [(.int (1 : Int32))])) t → SP p e below (s₁.setTop (entryFrame m #[(.ref p0)] 1)) t := by
    intro t k_
    refine pre1 t ?_
    rw [hl2]
    exact k_
  obtain ⟨fs, hr, hrun, hended, hW, hsame⟩ := X0.leave (v := some (.int (1 : Int32))) (fun h => by rw [Bd.returns] at h; cases h) (BodyLoose.notSynchronized Bd)
  refine ⟨_, _, preL2 _ ?_, hrun, hended, _, _, rfl, ?_, ⟨_, rfl⟩, hW, hsame.mono (by decide) (by decide)⟩
  · show SP p e below (s₁.setTop (mkF m 4 #[vR p0] [(.int (1 : Int32))])) _
    exact retI X0 hx Bd.returns (hb hby d32_4) hr
  · show Q_32n2 Z p0 x_ h0 n0 _ s₁.heap _
    rw [e0]
    exact ⟨congrArg (fun z => some (Value.int z)) (by rfl : (1 : Int32) = f_32n2 x_), N0, rfl⟩
theorem ef_32n4 (m : MethodId) (p0 : Addr) : entryFrame m #[(.ref p0)] 1 = mkF m 0 #[vR p0] [] := by first | (simp [entryFrame, mkF, argsToLocals, Value.category]; done) | rfl
def f_32n4 (x_ : Nat → Int32) : Int32 := (2 : Int32)
def Q_32n4 (Z : State) (p0 : Addr) (x_ : Nat → Int32) (h0 : Heap) (n0 : Nat) (v : Option Value) (h : Heap) (L : List Loc) : Prop := v = some (.int (f_32n4 x_)) ∧ Fr n0 L ∧ h = h0
theorem rm_32n4 (l : Launch) (Z : State) (a0 : Array Value) (hw : ∀ d ∈ tables_1, d.before a0 Z = true) (ws : List Jvm.Cond) (p0 : Addr) (x_ : Nat → Int32) (h0 : Heap) (n0 : Nat) (Z0 : n0 ≤ h0.size) (A_p0 : own_A Z h0 p0 .byte 4 (fun i => .int (x_ i))) :
    MetFree l (⟨"java/lang/StringUTF16", "length", "([B)I"⟩ : MethodName) (head1 (Jvm.Cond.code (⟨"java/lang/StringUTF16", "length", "([B)I"⟩ : MethodName) jdk_52_method_6_code 1 (some .int) :: ws) (⟨0, 0, 0, 0⟩ : Room)) (fun a U => a = #[(.ref p0)] ∧ Z.Warmed39 U.vm ∧ U.heap = h0) (fun _ _ _ _ _ => True) (fun _ U o U' => ∃ v L, o = .returned v ∧ Q_32n4 Z p0 x_ h0 n0 v U'.heap L ∧ FrameEnd U o U' L 0 0) := by
  refine MetFree.of_bodySF (plainFor_of_name pn_32) hisR ?_
  intro p e s m args below meth c s₁ Bd hml0 hP hK
  obtain ⟨rfl, hZ, hh⟩ := hP
  have hx := Bd.exec
  have hby := Bd.bytes
  have hml : c.maxLocals = 1 := hml0
  have hown : s.vm.findClass "java/lang/StringUTF16" = some m.cls := findClass_of_methodNamed Bd.named
  have hnm := (name_of_methodNamed Bd.named Bd.method).1
  have X0 : Stand p l e (⟨0, 0, 0, 0⟩ : Room) s m #[(.ref p0)] below meth c s₁ [] 0 0 := Stand.of_body Bd
  have e0 : s₁.heap = h0 := by rw [← hh, Bd.state]; rfl
  have N0 := Fr.nil n0
  have K0 : Keep h0 h0 [] := Keep.refl h0 _
  have pre0 : ∀ t, SP p e below (s₁.setTop (mkF m 0 #[vR p0] [])) t → SP p e below (s₁.setTop (entryFrame m #[(.ref p0)] 1)) t := fun t k => castTop (ef_32n4 m p0) k
  have pre1 : ∀ t, SP p e below (s₁.setTop (mkF m 4 #[vR p0] [(.int ((4 : Int32) >>> ((1 : Int32) &&& 31)))])) t → SP p e below (s₁.setTop (entryFrame m #[(.ref p0)] 1)) t := by
    intro t k
    refine pre0 t ?_
    show SP p e below (s₁.setTop (mkF m 0 #[vR p0] [])) _
    refine XS.aloadN X0.here hx rfl (hb hby d32_0) rfl rfl ?_
    show SP p e below (s₁.setTop (mkF m 1 #[vR p0] [(.ref p0)])) _
    refine own_len X0 hx hZ e0 A_p0 (z := (4 : Int32)) rfl (g := (mkF m 1 #[vR p0] [(.ref p0)])) rfl rfl (hb hby d32_1) ?_
    show SP p e below (s₁.setTop (mkF m 2 #[vR p0] [(.int (4 : Int32))])) _
    refine XS.iconst X0.here hx rfl (hb hby d32_2) ?_
    show SP p e below (s₁.setTop (mkF m 3 #[vR p0] [(.int (1 : Int32)), (.int (4 : Int32))])) _
    refine XS.ishr X0.here hx rfl (hb hby d32_3) rfl ?_
    exact k
  have hl2 : ((4 : Int32) >>> ((1 : Int32) &&& 31)) = (2 : Int32) := by decide
  have preL2 : ∀ t, SP p e below (s₁.setTop (mkF m 4 #[vR p0] [(.int (2 : Int32))])) t → SP p e below (s₁.setTop (entryFrame m #[(.ref p0)] 1)) t := by
    intro t k_
    refine pre1 t ?_
    rw [hl2]
    exact k_
  obtain ⟨fs, hr, hrun, hended, hW, hsame⟩ := X0.leave (v := some (.int (2 : Int32))) (fun h => by rw [Bd.returns] at h; cases h) (BodyLoose.notSynchronized Bd)
  refine ⟨_, _, preL2 _ ?_, hrun, hended, _, _, rfl, ?_, ⟨_, rfl⟩, hW, hsame.mono (by decide) (by decide)⟩
  · show SP p e below (s₁.setTop (mkF m 4 #[vR p0] [(.int (2 : Int32))])) _
    exact retI X0 hx Bd.returns (hb hby d32_4) hr
  · show Q_32n4 Z p0 x_ h0 n0 _ s₁.heap _
    rw [e0]
    exact ⟨congrArg (fun z => some (Value.int z)) (by rfl : (2 : Int32) = f_32n4 x_), N0, rfl⟩
theorem pd_2 : parseMethodDescriptor "([B)I" = some ⟨[(.array .byte)], some .int⟩ := by decide +kernel
theorem pd_3 : parseMethodDescriptor "(II)V" = some ⟨[.int, .int], none⟩ := by decide +kernel
theorem d31_0 : decode jdk_52_method_91_code 0 = .ok (.iload_n 0, 1) := by decide +kernel
theorem d31_1 : decode jdk_52_method_91_code 1 = .ok (.aload_n 1, 1) := by decide +kernel
theorem d31_2 : decode jdk_52_method_91_code 2 = .ok (.invokestatic 48, 3) := by decide +kernel
theorem d31_5 : decode jdk_52_method_91_code 5 = .ok (.invokestatic 414, 3) := by decide +kernel
theorem d31_8 : decode jdk_52_method_91_code 8 = .ok (.return_, 1) := by decide +kernel
theorem pn_31 : plainName "java/lang/StringUTF16" = true := by first | (simp [plainName, overriddenIn]; done) | decide +kernel
theorem ef_31a (m : MethodId) (p1 : Addr) : entryFrame m #[(.int (0 : Int32)), (.ref p1)] 2 = mkF m 0 #[vI (0 : Int32), vR p1] [] := by first | (simp [entryFrame, mkF, argsToLocals, Value.category]; done) | rfl
def Q_31a (Z : State) (p1 : Addr) (x_ : Nat → Int32) (fm_ : Value) (h0 : Heap) (n0 : Nat) (v : Option Value) (h : Heap) (L : List Loc) : Prop := v = none ∧ Fr n0 L ∧ h = h0
theorem rm_31a (l : Launch) (Z : State) (a0 : Array Value) (hw : ∀ d ∈ tables_1, d.before a0 Z = true) (ws : List Jvm.Cond) (p1 : Addr) (x_ : Nat → Int32) (fm_ : Value) (h0 : Heap) (n0 : Nat) (Z0 : n0 ≤ h0.size) (A_p1 : own_A Z h0 p1 .byte 2 (fun i => .int (x_ i))) (S_SIOOBE_FORMATTER : Sta Z h0 "jdk/internal/util/Preconditions" "SIOOBE_FORMATTER" "Ljava/util/function/BiFunction;" fm_) (hfm : fm_ = Value.null ∨ ∃ a, fm_ = Value.ref a) :
    MetFree l (⟨"java/lang/StringUTF16", "checkIndex", "(I[B)V"⟩ : MethodName) (head1 (Jvm.Cond.code (⟨"java/lang/StringUTF16", "checkIndex", "(I[B)V"⟩ : MethodName) jdk_52_method_91_code 2 none :: ws) (⟨2, 0, 0, 27⟩ : Room)) (fun a U => a = #[(.int (0 : Int32)), (.ref p1)] ∧ Z.Warmed39 U.vm ∧ U.heap = h0) (fun _ _ _ _ _ => True) (fun _ U o U' => ∃ v L, o = .returned v ∧ Q_31a Z p1 x_ fm_ h0 n0 v U'.heap L ∧ FrameEnd U o U' L 0 0) := by
  refine MetFree.of_bodySF (plainFor_of_name pn_31) hisR ?_
  intro p e s m args below meth c s₁ Bd hml0 hP hK
  obtain ⟨rfl, hZ, hh⟩ := hP
  have hx := Bd.exec
  have hby := Bd.bytes
  have hml : c.maxLocals = 2 := hml0
  have hown : s.vm.findClass "java/lang/StringUTF16" = some m.cls := findClass_of_methodNamed Bd.named
  have hnm := (name_of_methodNamed Bd.named Bd.method).1
  have X0 : Stand p l e (⟨2, 0, 0, 27⟩ : Room) s m #[(.int (0 : Int32)), (.ref p1)] below meth c s₁ [] 0 0 := Stand.of_body Bd
  have e0 : s₁.heap = h0 := by rw [← hh, Bd.state]; rfl
  have N0 := Fr.nil n0
  have K0 : Keep h0 h0 [] := Keep.refl h0 _
  have pre0 : ∀ t, SP p e below (s₁.setTop (mkF m 0 #[vI (0 : Int32), vR p1] [])) t → SP p e below (s₁.setTop (entryFrame m #[(.int (0 : Int32)), (.ref p1)] 2)) t := fun t k => castTop (ef_31a m p1) k
  have pre2 : ∀ t, SP p e below (s₁.setTop (mkF m 2 #[vI (0 : Int32), vR p1] [(.ref p1), (.int (0 : Int32))])) t → SP p e below (s₁.setTop (entryFrame m #[(.int (0 : Int32)), (.ref p1)] 2)) t := by
    intro t k
    refine pre0 t ?_
    show SP p e below (s₁.setTop (mkF m 0 #[vI (0 : Int32), vR p1] [])) _
    refine XS.iloadN X0.here hx rfl (hb hby d31_0) rfl  ?_
    show SP p e below (s₁.setTop (mkF m 1 #[vI (0 : Int32), vR p1] [(.int (0 : Int32))])) _
    refine XS.aloadN X0.here hx rfl (hb hby d31_1) rfl rfl ?_
    exact k
  obtain ⟨_, _, ⟨T1, L1, k1, n1⟩, -, X1, ⟨Lc1, hQ1, l1, y1, z1⟩, st1⟩ := Jvm.LawKit.callS X0 hx (y := (⟨"java/lang/StringUTF16", "length", "([B)I"⟩ : MethodName)) hown (mvT hZ (ow hw 137 rfl)) (mvT hZ (ow hw 138 rfl)) (mvT hZ (ow hw 58 rfl)) (mvT hZ (ow hw 139 rfl)) (by decide) (backOf (W := 1) (rm_32n2 l Z a0 hw [] p1 x_ h0 n0 Z0 A_p1) hZ (ow hw 139 rfl) (ow hw 58 rfl) (by decide) (by decide)) (g := (mkF m 2 #[vI (0 : Int32), vR p1] [(.ref p1), (.int (0 : Int32))])) rfl (by rw [hml]; rfl) (argsL := [(.ref p1)]) (rest := [(.int (0 : Int32))]) (lenOf pd_2 rfl) rfl own_le0 (hb hby d31_2) (fun _ _ => ⟨rfl, e0, (by decide : 0 + 0 ≤ _), (by decide : 0 + 0 ≤ _)⟩)
  dsimp only [Pt.U, Pt.locs, Pt.cells, Pt.slots] at X1 l1 y1 z1 st1 hQ1
  rw [l1, y1, z1] at X1
  obtain ⟨rfl, N1q, e1⟩ := hQ1
  have N1 := Fr.app N0 N1q
  have pre4 : ∀ t, SP p e below (T1.setTop (mkF m 5 #[vI (0 : Int32), vR p1] [(.int (f_32n2 x_)), (.int (0 : Int32))])) t → SP p e below (s₁.setTop (entryFrame m #[(.int (0 : Int32)), (.ref p1)] 2)) t := by
    intro t k
    refine pre2 t ?_
    show SP p e below (s₁.setTop (mkF m 2 #[vI (0 : Int32), vR p1] [(.ref p1), (.int (0 : Int32))])) _
    refine st1 _ ?_
    exact k
  obtain ⟨_, _, ⟨T3, L3, k3, n3⟩, -, X3, ⟨Lc3, hQ3, l3, y3, z3⟩, st3⟩ := Jvm.LawKit.callS X1 hx (y := (⟨"java/lang/String", "checkIndex", "(II)V"⟩ : MethodName)) hown (mvT hZ (ow hw 140 rfl)) (mvT hZ (ow hw 100 rfl)) (mvT hZ (ow hw 7 rfl)) (mvT hZ (ow hw 101 rfl)) (by decide) (backOf (W := 0) (rm_22 l Z a0 hw [] (0 : Int32) (f_32n2 x_) fm_ h0 n0 Z0 S_SIOOBE_FORMATTER hfm (by decide) (by decide : (0 : Int32) < (1 : Int32))) hZ (ow hw 101 rfl) (ow hw 7 rfl) (by decide) (by decide)) (g := (mkF m 5 #[vI (0 : Int32), vR p1] [(.int (f_32n2 x_)), (.int (0 : Int32))])) rfl (by rw [hml]; rfl) (argsL := [(.int (0 : Int32)), (.int (f_32n2 x_))]) (rest := []) (lenOf pd_3 rfl) rfl own_le0 (hb hby d31_5) (fun _ _ => ⟨rfl, e1, (by decide : 0 + 0 ≤ _), (by decide : 0 + 0 ≤ _)⟩)
  dsimp only [Pt.U, Pt.locs, Pt.cells, Pt.slots] at X3 l3 y3 z3 st3 hQ3
  rw [l3, y3, z3] at X3
  obtain ⟨rfl, N3q, e3⟩ := hQ3
  have N3 := Fr.app N1 N3q
  obtain ⟨fs, hr, hrun, hended, hW, hsame⟩ := X3.leave (v := none) (fun _ => rfl) (BodyLoose.notSynchronized Bd)
  refine ⟨_, _, pre4 _ ?_, hrun, hended, _, _, rfl, ?_, ⟨_, rfl⟩, hW, hsame.mono (by decide) (by decide)⟩
  · show SP p e below (T1.setTop (mkF m 5 #[vI (0 : Int32), vR p1] [(.int (f_32n2 x_)), (.int (0 : Int32))])) _
    refine st3 _ ?_
    show SP p e below (T3.setTop (mkF m 8 #[vI (0 : Int32), vR p1] [])) _
    exact X3.returnOut hx Bd.returns (hb hby d31_8) hr
  · show Q_31a Z p1 x_ fm_ h0 n0 _ T3.heap _
    rw [e3]
    exact ⟨rfl, N3, rfl⟩
theorem d28_0 : decode jdk_52_method_5_code 0 = .ok (.getstatic 44, 3) := by decide +kernel
theorem d28_3 : decode jdk_52_method_5_code 3 = .ok (.ifCond .ne 25, 3) := by decide +kernel
theorem d28_28 : decode jdk_52_method_5_code 28 = .ok (.iload_n 1, 1) := by decide +kernel
theorem d28_29 : decode jdk_52_method_5_code 29 = .ok (.iconst 1, 1) := by decide +kernel
theorem d28_30 : decode jdk_52_method_5_code 30 = .ok (.ishl, 1) := by decide +kernel
theorem d28_31 : decode jdk_52_method_5_code 31 = .ok (.istore_n 1, 1) := by decide +kernel
theorem d28_32 : decode jdk_52_method_5_code 32 = .ok (.aload_n 0, 1) := by decide +kernel
theorem d28_33 : decode jdk_52_method_5_code 33 = .ok (.iload_n 1, 1) := by decide +kernel
theorem d28_34 : decode jdk_52_method_5_code 34 = .ok (.iinc 1 1, 3) := by decide +kernel
theorem d28_37 : decode jdk_52_method_5_code 37 = .ok (.baload, 1) := by decide +kernel
theorem d28_38 : decode jdk_52_method_5_code 38 = .ok (.sipush 255, 3) := by decide +kernel
theorem d28_41 : decode jdk_52_method_5_code 41 = .ok (.iand, 1) := by decide +kernel
theorem d28_42 : decode jdk_52_method_5_code 42 = .ok (.getstatic 59, 3) := by decide +kernel
theorem d28_45 : decode jdk_52_method_5_code 45 = .ok (.ishl, 1) := by decide +kernel
theorem d28_46 : decode jdk_52_method_5_code 46 = .ok (.aload_n 0, 1) := by decide +kernel
theorem d28_47 : decode jdk_52_method_5_code 47 = .ok (.iload_n 1, 1) := by decide +kernel
theorem d28_48 : decode jdk_52_method_5_code 48 = .ok (.baload, 1) := by decide +kernel
theorem d28_49 : decode jdk_52_method_5_code 49 = .ok (.sipush 255, 3) := by decide +kernel
theorem d28_52 : decode jdk_52_method_5_code 52 = .ok (.iand, 1) := by decide +kernel
theorem d28_53 : decode jdk_52_method_5_code 53 = .ok (.getstatic 63, 3) := by decide +kernel
theorem d28_56 : decode jdk_52_method_5_code 56 = .ok (.ishl, 1) := by decide +kernel
theorem d28_57 : decode jdk_52_method_5_code 57 = .ok (.ior, 1) := by decide +kernel
theorem d28_58 : decode jdk_52_method_5_code 58 = .ok (.i2c, 1) := by decide +kernel
theorem d28_59 : decode jdk_52_method_5_code 59 = .ok (.ireturn, 1) := by decide +kernel
theorem pn_28 : plainName "java/lang/StringUTF16" = true := by first | (simp [plainName, overriddenIn]; done) | decide +kernel
theorem ef_28a (m : MethodId) (p0 : Addr) : entryFrame m #[(.ref p0), (.int (0 : Int32))] 2 = mkF m 0 #[vR p0, vI (0 : Int32)] [] := by first | (simp [entryFrame, mkF, argsToLocals, Value.category]; done) | rfl
def f_28a (x_ : Nat → Int32) : Int32 := (nar .char (((((x_ 0) &&& (255 : Int32)) <<< ((0 : Int32) &&& 31)) ||| (((x_ 1) &&& (255 : Int32)) <<< ((8 : Int32) &&& 31))).toUInt32.toUInt16.toUInt32.toInt32))
def Q_28a (Z : State) (p0 : Addr) (x_ : Nat → Int32) (h0 : Heap) (n0 : Nat) (v : Option Value) (h : Heap) (L : List Loc) : Prop := v = some (.int (f_28a x_)) ∧ Fr n0 L ∧ h = h0
theorem rm_28a (l : Launch) (Z : State) (a0 : Array Value) (hw : ∀ d ∈ tables_1, d.before a0 Z = true) (ws : List Jvm.Cond) (p0 : Addr) (x_ : Nat → Int32) (h0 : Heap) (n0 : Nat) (Z0 : n0 ≤ h0.size) (A_p0 : own_A Z h0 p0 .byte 2 (fun i => .int (x_ i))) (S__assertionsDisabled : Sta Z h0 "java/lang/StringUTF16" "$assertionsDisabled" "Z" (.int (1 : Int32))) (S_HI_BYTE_SHIFT : Sta Z h0 "java/lang/StringUTF16" "HI_BYTE_SHIFT" "I" (.int (0 : Int32))) (S_LO_BYTE_SHIFT : Sta Z h0 "java/lang/StringUTF16" "LO_BYTE_SHIFT" "I" (.int (8 : Int32))) :
    MetFree l (⟨"java/lang/StringUTF16", "getChar", "([BI)C"⟩ : MethodName) (head1 (Jvm.Cond.code (⟨"java/lang/StringUTF16", "getChar", "([BI)C"⟩ : MethodName) jdk_52_method_5_code 2 (some .char) :: ws) (⟨0, 0, 0, 0⟩ : Room)) (fun a U => a = #[(.ref p0), (.int (0 : Int32))] ∧ Z.Warmed39 U.vm ∧ U.heap = h0) (fun _ _ _ _ _ => True) (fun _ U o U' => ∃ v L, o = .returned v ∧ Q_28a Z p0 x_ h0 n0 v U'.heap L ∧ FrameEnd U o U' L 0 0) := by
  refine MetFree.of_bodySF (plainFor_of_name pn_28) hisR ?_
  intro p e s m args below meth c s₁ Bd hml0 hP hK
  obtain ⟨rfl, hZ, hh⟩ := hP
  have hx := Bd.exec
  have hby := Bd.bytes
  have hml : c.maxLocals = 2 := hml0
  have hown : s.vm.findClass "java/lang/StringUTF16" = some m.cls := findClass_of_methodNamed Bd.named
  have hnm := (name_of_methodNamed Bd.named Bd.method).1
  have X0 : Stand p l e (⟨0, 0, 0, 0⟩ : Room) s m #[(.ref p0), (.int (0 : Int32))] below meth c s₁ [] 0 0 := Stand.of_body Bd
  have e0 : s₁.heap = h0 := by rw [← hh, Bd.state]; rfl
  have N0 := Fr.nil n0
  have K0 : Keep h0 h0 [] := Keep.refl h0 _
  have pre0 : ∀ t, SP p e below (s₁.setTop (mkF m 0 #[vR p0, vI (0 : Int32)] [])) t → SP p e below (s₁.setTop (entryFrame m #[(.ref p0), (.int (0 : Int32))] 2)) t := fun t k => castTop (ef_28a m p0) k
  obtain ⟨T1, X1, e1, st1⟩ := getS2 X0 hx hZ hown (host := "") (Or.inl (ow hw 122 rfl)) Via.refl e0 S__assertionsDisabled (g := (mkF m 0 #[vR p0, vI (0 : Int32)] [])) rfl (hb hby d28_0)
  have pre2 : ∀ t, SP p e below (T1.setTop (mkF m 31 #[vR p0, vI (0 : Int32)] [(.int ((0 : Int32) <<< ((1 : Int32) &&& 31)))])) t → SP p e below (s₁.setTop (entryFrame m #[(.ref p0), (.int (0 : Int32))] 2)) t := by
    intro t k
    refine pre0 t ?_
    show SP p e below (s₁.setTop (mkF m 0 #[vR p0, vI (0 : Int32)] [])) _
    refine st1 _ ?_
    show SP p e below (T1.setTop (mkF m 3 #[vR p0, vI (0 : Int32)] [(.int (1 : Int32))])) _
    refine XS.ifYes X1.here hx rfl (pc0 := 3) (pc' := 28) rfl (hb hby d28_3) rfl ((if0 _ _).trans (feq (by decide : ¬ ((1 : Int32) = (0 : Int32)))).2) (by decide) (by decide) ?_
    show SP p e below (T1.setTop (mkF m 28 #[vR p0, vI (0 : Int32)] [])) _
    refine XS.iloadN X1.here hx rfl (hb hby d28_28) rfl  ?_
    show SP p e below (T1.setTop (mkF m 29 #[vR p0, vI (0 : Int32)] [(.int (0 : Int32))])) _
    refine XS.iconst X1.here hx rfl (hb hby d28_29) ?_
    show SP p e below (T1.setTop (mkF m 30 #[vR p0, vI (0 : Int32)] [(.int (1 : Int32)), (.int (0 : Int32))])) _
    refine XS.ishl X1.here hx rfl (hb hby d28_30) rfl ?_
    exact k
  have hl3 : ((0 : Int32) <<< ((1 : Int32) &&& 31)) = (0 : Int32) := by decide
  have preL3 : ∀ t, SP p e below (T1.setTop (mkF m 31 #[vR p0, vI (0 : Int32)] [(.int (0 : Int32))])) t → SP p e below (s₁.setTop (entryFrame m #[(.ref p0), (.int (0 : Int32))] 2)) t := by
    intro t k_
    refine pre2 t ?_
    rw [hl3]
    exact k_
  have pre4 : ∀ t, SP p e below (T1.setTop (mkF m 42 #[vR p0, vI (1 : Int32)] [(.int ((x_ 0) &&& (255 : Int32)))])) t → SP p e below (s₁.setTop (entryFrame m #[(.ref p0), (.int (0 : Int32))] 2)) t := by
    intro t k
    refine preL3 t ?_
    show SP p e below (T1.setTop (mkF m 31 #[vR p0, vI (0 : Int32)] [(.int (0 : Int32))])) _
    refine XS.istoreN X1.here hx rfl (hb hby d28_31) rfl (l' := #[vR p0, vI (0 : Int32)]) rfl ?_
    show SP p e below (T1.setTop (mkF m 32 #[vR p0, vI (0 : Int32)] [])) _
    refine XS.aloadN X1.here hx rfl (hb hby d28_32) rfl rfl ?_
    show SP p e below (T1.setTop (mkF m 33 #[vR p0, vI (0 : Int32)] [(.ref p0)])) _
    refine XS.iloadN X1.here hx rfl (hb hby d28_33) rfl  ?_
    show SP p e below (T1.setTop (mkF m 34 #[vR p0, vI (0 : Int32)] [(.int (0 : Int32)), (.ref p0)])) _
    refine XS.iinc X1.here hx rfl (hb hby d28_34) rfl (l' := #[vR p0, vI (1 : Int32)]) rfl ?_
    show SP p e below (T1.setTop (mkF m 37 #[vR p0, vI (1 : Int32)] [(.int (0 : Int32)), (.ref p0)])) _
    refine own_ldB X1 hx hZ e1 A_p0 (j := (0 : Int32)) (k := 0) (by decide) (by decide) (by decide) (g := (mkF m 37 #[vR p0, vI (1 : Int32)] [(.int (0 : Int32)), (.ref p0)])) rfl rfl (hb hby d28_37) ?_
    show SP p e below (T1.setTop (mkF m 38 #[vR p0, vI (1 : Int32)] [(.int (x_ 0))])) _
    refine XS.sipush X1.here hx rfl (hb hby d28_38) ?_
    show SP p e below (T1.setTop (mkF m 41 #[vR p0, vI (1 : Int32)] [(.int (255 : Int32)), (.int (x_ 0))])) _
    refine XS.iand X1.here hx rfl (hb hby d28_41) rfl ?_
    exact k
  obtain ⟨T5, X5, e5, st5⟩ := getS2 X1 hx hZ hown (host := "") (Or.inl (ow hw 123 rfl)) Via.refl e1 S_HI_BYTE_SHIFT (g := (mkF m 42 #[vR p0, vI (1 : Int32)] [(.int ((x_ 0) &&& (255 : Int32)))])) rfl (hb hby d28_42)
  have pre6 : ∀ t, SP p e below (T5.setTop (mkF m 53 #[vR p0, vI (1 : Int32)] [(.int ((x_ 1) &&& (255 : Int32))), (.int (((x_ 0) &&& (255 : Int32)) <<< ((0 : Int32) &&& 31)))])) t → SP p e below (s₁.setTop (entryFrame m #[(.ref p0), (.int (0 : Int32))] 2)) t := by
    intro t k
    refine pre4 t ?_
    show SP p e below (T1.setTop (mkF m 42 #[vR p0, vI (1 : Int32)] [(.int ((x_ 0) &&& (255 : Int32)))])) _
    refine st5 _ ?_
    show SP p e below (T5.setTop (mkF m 45 #[vR p0, vI (1 : Int32)] [(.int (0 : Int32)), (.int ((x_ 0) &&& (255 : Int32)))])) _
    refine XS.ishl X5.here hx rfl (hb hby d28_45) rfl ?_
    show SP p e below (T5.setTop (mkF m 46 #[vR p0, vI (1 : Int32)] [(.int (((x_ 0) &&& (255 : Int32)) <<< ((0 : Int32) &&& 31)))])) _
    refine XS.aloadN X5.here hx rfl (hb hby d28_46) rfl rfl ?_
    show SP p e below (T5.setTop (mkF m 47 #[vR p0, vI (1 : Int32)] [(.ref p0), (.int (((x_ 0) &&& (255 : Int32)) <<< ((0 : Int32) &&& 31)))])) _
    refine XS.iloadN X5.here hx rfl (hb hby d28_47) rfl  ?_
    show SP p e below (T5.setTop (mkF m 48 #[vR p0, vI (1 : Int32)] [(.int (1 : Int32)), (.ref p0), (.int (((x_ 0) &&& (255 : Int32)) <<< ((0 : Int32) &&& 31)))])) _
    refine own_ldB X5 hx hZ e5 A_p0 (j := (1 : Int32)) (k := 1) (by decide) (by decide) (by decide) (g := (mkF m 48 #[vR p0, vI (1 : Int32)] [(.int (1 : Int32)), (.ref p0), (.int (((x_ 0) &&& (255 : Int32)) <<< ((0 : Int32) &&& 31)))])) rfl rfl (hb hby d28_48) ?_
    show SP p e below (T5.setTop (mkF m 49 #[vR p0, vI (1 : Int32)] [(.int (x_ 1)), (.int (((x_ 0) &&& (255 : Int32)) <<< ((0 : Int32) &&& 31)))])) _
    refine XS.sipush X5.here hx rfl (hb hby d28_49) ?_
    show SP p e below (T5.setTop (mkF m 52 #[vR p0, vI (1 : Int32)] [(.int (255 : Int32)), (.int (x_ 1)), (.int (((x_ 0) &&& (255 : Int32)) <<< ((0 : Int32) &&& 31)))])) _
    refine XS.iand X5.here hx rfl (hb hby d28_52) rfl ?_
    exact k
  obtain ⟨T7, X7, e7, st7⟩ := getS2 X5 hx hZ hown (host := "") (Or.inl (ow hw 124 rfl)) Via.refl e5 S_LO_BYTE_SHIFT (g := (mkF m 53 #[vR p0, vI (1 : Int32)] [(.int ((x_ 1) &&& (255 : Int32))), (.int (((x_ 0) &&& (255 : Int32)) <<< ((0 : Int32) &&& 31)))])) rfl (hb hby d28_53)
  obtain ⟨fs, hr, hrun, hended, hW, hsame⟩ := X7.leave (v := some (.int (nar .char (((((x_ 0) &&& (255 : Int32)) <<< ((0 : Int32) &&& 31)) ||| (((x_ 1) &&& (255 : Int32)) <<< ((8 : Int32) &&& 31))).toUInt32.toUInt16.toUInt32.toInt32)))) (fun h => by rw [Bd.returns] at h; cases h) (BodyLoose.notSynchronized Bd)
  refine ⟨_, _, pre6 _ ?_, hrun, hended, _, _, rfl, ?_, ⟨_, rfl⟩, hW, hsame.mono (by decide) (by decide)⟩
  · show SP p e below (T5.setTop (mkF m 53 #[vR p0, vI (1 : Int32)] [(.int ((x_ 1) &&& (255 : Int32))), (.int (((x_ 0) &&& (255 : Int32)) <<< ((0 : Int32) &&& 31)))])) _
    refine st7 _ ?_
    show SP p e below (T7.setTop (mkF m 56 #[vR p0, vI (1 : Int32)] [(.int (8 : Int32)), (.int ((x_ 1) &&& (255 : Int32))), (.int (((x_ 0) &&& (255 : Int32)) <<< ((0 : Int32) &&& 31)))])) _
    refine XS.ishl X7.here hx rfl (hb hby d28_56) rfl ?_
    show SP p e below (T7.setTop (mkF m 57 #[vR p0, vI (1 : Int32)] [(.int (((x_ 1) &&& (255 : Int32)) <<< ((8 : Int32) &&& 31))), (.int (((x_ 0) &&& (255 : Int32)) <<< ((0 : Int32) &&& 31)))])) _
    refine XS.ior X7.here hx rfl (hb hby d28_57) rfl ?_
    show SP p e below (T7.setTop (mkF m 58 #[vR p0, vI (1 : Int32)] [(.int ((((x_ 0) &&& (255 : Int32)) <<< ((0 : Int32) &&& 31)) ||| (((x_ 1) &&& (255 : Int32)) <<< ((8 : Int32) &&& 31))))])) _
    refine XS.i2c X7.here hx rfl (hb hby d28_58) rfl ?_
    show SP p e below (T7.setTop (mkF m 59 #[vR p0, vI (1 : Int32)] [(.int (((((x_ 0) &&& (255 : Int32)) <<< ((0 : Int32) &&& 31)) ||| (((x_ 1) &&& (255 : Int32)) <<< ((8 : Int32) &&& 31))).toUInt32.toUInt16.toUInt32.toInt32))])) _
    exact retN X7 hx (t := .char) Bd.returns (by simp) (hb hby d28_59) hr
  · show Q_28a Z p0 x_ h0 n0 _ T7.heap _
    rw [e7]
    exact ⟨congrArg (fun z => some (Value.int z)) (by rfl : (nar .char (((((x_ 0) &&& (255 : Int32)) <<< ((0 : Int32) &&& 31)) ||| (((x_ 1) &&& (255 : Int32)) <<< ((8 : Int32) &&& 31))).toUInt32.toUInt16.toUInt32.toInt32)) = f_28a x_), N0, rfl⟩
theorem d27_0 : decode jdk_52_method_4_code 0 = .ok (.getstatic 44, 3) := by decide +kernel
theorem d27_3 : decode jdk_52_method_4_code 3 = .ok (.ifCond .ne 25, 3) := by decide +kernel
theorem d27_28 : decode jdk_52_method_4_code 28 = .ok (.iload_n 1, 1) := by decide +kernel
theorem d27_29 : decode jdk_52_method_4_code 29 = .ok (.iconst 1, 1) := by decide +kernel
theorem d27_30 : decode jdk_52_method_4_code 30 = .ok (.ishl, 1) := by decide +kernel
theorem d27_31 : decode jdk_52_method_4_code 31 = .ok (.istore_n 1, 1) := by decide +kernel
theorem d27_32 : decode jdk_52_method_4_code 32 = .ok (.aload_n 0, 1) := by decide +kernel
theorem d27_33 : decode jdk_52_method_4_code 33 = .ok (.iload_n 1, 1) := by decide +kernel
theorem d27_34 : decode jdk_52_method_4_code 34 = .ok (.iinc 1 1, 3) := by decide +kernel
theorem d27_37 : decode jdk_52_method_4_code 37 = .ok (.iload_n 2, 1) := by decide +kernel
theorem d27_38 : decode jdk_52_method_4_code 38 = .ok (.getstatic 59, 3) := by decide +kernel
theorem d27_41 : decode jdk_52_method_4_code 41 = .ok (.ishr, 1) := by decide +kernel
theorem d27_42 : decode jdk_52_method_4_code 42 = .ok (.i2b, 1) := by decide +kernel
theorem d27_43 : decode jdk_52_method_4_code 43 = .ok (.bastore, 1) := by decide +kernel
theorem d27_44 : decode jdk_52_method_4_code 44 = .ok (.aload_n 0, 1) := by decide +kernel
theorem d27_45 : decode jdk_52_method_4_code 45 = .ok (.iload_n 1, 1) := by decide +kernel
theorem d27_46 : decode jdk_52_method_4_code 46 = .ok (.iload_n 2, 1) := by decide +kernel
theorem d27_47 : decode jdk_52_method_4_code 47 = .ok (.getstatic 63, 3) := by decide +kernel
theorem d27_50 : decode jdk_52_method_4_code 50 = .ok (.ishr, 1) := by decide +kernel
theorem d27_51 : decode jdk_52_method_4_code 51 = .ok (.i2b, 1) := by decide +kernel
theorem d27_52 : decode jdk_52_method_4_code 52 = .ok (.bastore, 1) := by decide +kernel
theorem d27_53 : decode jdk_52_method_4_code 53 = .ok (.return_, 1) := by decide +kernel
theorem pn_27 : plainName "java/lang/StringUTF16" = true := by first | (simp [plainName, overriddenIn]; done) | decide +kernel
theorem ef_27a (m : MethodId) (p0 : Addr) (p2 : Int32) : entryFrame m #[(.ref p0), (.int (0 : Int32)), (.int p2)] 3 = mkF m 0 #[vR p0, vI (0 : Int32), vI p2] [] := by first | (simp [entryFrame, mkF, argsToLocals, Value.category]; done) | rfl
def f_27a_1 (p2 : Int32) (x_ : Nat → Int32) : Nat → Int32 := let g_43 : Nat → Int32 := (own_upd x_ 0 ((p2 >>> ((0 : Int32) &&& 31)).toInt8.toInt32).toInt8.toInt32); let g_52 : Nat → Int32 := (own_upd g_43 1 ((p2 >>> ((8 : Int32) &&& 31)).toInt8.toInt32).toInt8.toInt32); g_52
def Q_27a (Z : State) (p0 : Addr) (p2 : Int32) (x_ : Nat → Int32) (h0 : Heap) (n0 : Nat) (v : Option Value) (h : Heap) (L : List Loc) : Prop := v = none ∧ Fr n0 L ∧ Keep h0 h [p0] ∧ own_A Z h p0 .byte 2 (fun i => .int ((f_27a_1 p2 x_) i))
theorem rm_27a (l : Launch) (Z : State) (a0 : Array Value) (hw : ∀ d ∈ tables_1, d.before a0 Z = true) (ws : List Jvm.Cond) (p0 : Addr) (p2 : Int32) (x_ : Nat → Int32) (h0 : Heap) (n0 : Nat) (Z0 : n0 ≤ h0.size) (A_p0 : own_A Z h0 p0 .byte 2 (fun i => .int (x_ i))) (ge_p0 : n0 ≤ p0) (S__assertionsDisabled : Sta Z h0 "java/lang/StringUTF16" "$assertionsDisabled" "Z" (.int (1 : Int32))) (S_HI_BYTE_SHIFT : Sta Z h0 "java/lang/StringUTF16" "HI_BYTE_SHIFT" "I" (.int (0 : Int32))) (S_LO_BYTE_SHIFT : Sta Z h0 "java/lang/StringUTF16" "LO_BYTE_SHIFT" "I" (.int (8 : Int32))) :
    MetFree l (⟨"java/lang/StringUTF16", "putChar", "([BII)V"⟩ : MethodName) (head1 (Jvm.Cond.code (⟨"java/lang/StringUTF16", "putChar", "([BII)V"⟩ : MethodName) jdk_52_method_4_code 3 none :: ws) (⟨0, 0, 0, 0⟩ : Room)) (fun a U => a = #[(.ref p0), (.int (0 : Int32)), (.int p2)] ∧ Z.Warmed39 U.vm ∧ U.heap = h0) (fun _ _ _ _ _ => True) (fun _ U o U' => ∃ v L, o = .returned v ∧ Q_27a Z p0 p2 x_ h0 n0 v U'.heap L ∧ FrameEnd U o U' L 0 0) := by
  refine MetFree.of_bodySF (plainFor_of_name pn_27) hisR ?_
  intro p e s m args below meth c s₁ Bd hml0 hP hK
  obtain ⟨rfl, hZ, hh⟩ := hP
  have hx := Bd.exec
  have hby := Bd.bytes
  have hml : c.maxLocals = 3 := hml0
  have hown : s.vm.findClass "java/lang/StringUTF16" = some m.cls := findClass_of_methodNamed Bd.named
  have hnm := (name_of_methodNamed Bd.named Bd.method).1
  have X0 : Stand p l e (⟨0, 0, 0, 0⟩ : Room) s m #[(.ref p0), (.int (0 : Int32)), (.int p2)] below meth c s₁ [] 0 0 := Stand.of_body Bd
  have e0 : s₁.heap = h0 := by rw [← hh, Bd.state]; rfl
  have N0 := Fr.nil n0
  have K0 : Keep h0 h0 [p0] := Keep.refl h0 _
  have pre0 : ∀ t, SP p e below (s₁.setTop (mkF m 0 #[vR p0, vI (0 : Int32), vI p2] [])) t → SP p e below (s₁.setTop (entryFrame m #[(.ref p0), (.int (0 : Int32)), (.int p2)] 3)) t := fun t k => castTop (ef_27a m p0 p2) k
  obtain ⟨T1, X1, e1, st1⟩ := getS2 X0 hx hZ hown (host := "") (Or.inl (ow hw 122 rfl)) Via.refl e0 S__assertionsDisabled (g := (mkF m 0 #[vR p0, vI (0 : Int32), vI p2] [])) rfl (hb hby d27_0)
  have pre2 : ∀ t, SP p e below (T1.setTop (mkF m 31 #[vR p0, vI (0 : Int32), vI p2] [(.int ((0 : Int32) <<< ((1 : Int32) &&& 31)))])) t → SP p e below (s₁.setTop (entryFrame m #[(.ref p0), (.int (0 : Int32)), (.int p2)] 3)) t := by
    intro t k
    refine pre0 t ?_
    show SP p e below (s₁.setTop (mkF m 0 #[vR p0, vI (0 : Int32), vI p2] [])) _
    refine st1 _ ?_
    show SP p e below (T1.setTop (mkF m 3 #[vR p0, vI (0 : Int32), vI p2] [(.int (1 : Int32))])) _
    refine XS.ifYes X1.here hx rfl (pc0 := 3) (pc' := 28) rfl (hb hby d27_3) rfl ((if0 _ _).trans (feq (by decide : ¬ ((1 : Int32) = (0 : Int32)))).2) (by decide) (by decide) ?_
    show SP p e below (T1.setTop (mkF m 28 #[vR p0, vI (0 : Int32), vI p2] [])) _
    refine XS.iloadN X1.here hx rfl (hb hby d27_28) rfl  ?_
    show SP p e below (T1.setTop (mkF m 29 #[vR p0, vI (0 : Int32), vI p2] [(.int (0 : Int32))])) _
    refine XS.iconst X1.here hx rfl (hb hby d27_29) ?_
    show SP p e below (T1.setTop (mkF m 30 #[vR p0, vI (0 : Int32), vI p2] [(.int (1 : Int32)), (.int (0 : Int32))])) _
    refine XS.ishl X1.here hx rfl (hb hby d27_30) rfl ?_
    exact k
  have hl3 : ((0 : Int32) <<< ((1 : Int32) &&& 31)) = (0 : Int32) := by decide
  have preL3 : ∀ t, SP p e below (T1.setTop (mkF m 31 #[vR p0, vI (0 : Int32), vI p2] [(.int (0 : Int32))])) t → SP p e below (s₁.setTop (entryFrame m #[(.ref p0), (.int (0 : Int32)), (.int p2)] 3)) t := by
    intro t k_
    refine pre2 t ?_
    rw [hl3]
    exact k_
  have pre4 : ∀ t, SP p e below (T1.setTop (mkF m 38 #[vR p0, vI (1 : Int32), vI p2] [(.int p2), (.int (0 : Int32)), (.ref p0)])) t → SP p e below (s₁.setTop (entryFrame m #[(.ref p0), (.int (0 : Int32)), (.int p2)] 3)) t := by
    intro t k
    refine preL3 t ?_
    show SP p e below (T1.setTop (mkF m 31 #[vR p0, vI (0 : Int32), vI p2] [(.int (0 : Int32))])) _
    refine XS.istoreN X1.here hx rfl (hb hby d27_31) rfl (l' := #[vR p0, vI (0 : Int32), vI p2]) rfl ?_
    show SP p e below (T1.setTop (mkF m 32 #[vR p0, vI (0 : Int32), vI p2] [])) _
    refine XS.aloadN X1.here hx rfl (hb hby d27_32) rfl rfl ?_
    show SP p e below (T1.setTop (mkF m 33 #[vR p0, vI (0 : Int32), vI p2] [(.ref p0)])) _
    refine XS.iloadN X1.here hx rfl (hb hby d27_33) rfl  ?_
    show SP p e below (T1.setTop (mkF m 34 #[vR p0, vI (0 : Int32), vI p2] [(.int (0 : Int32)), (.ref p0)])) _
    refine XS.iinc X1.here hx rfl (hb hby d27_34) rfl (l' := #[vR p0, vI (1 : Int32), vI p2]) rfl ?_
    show SP p e below (T1.setTop (mkF m 37 #[vR p0, vI (1 : Int32), vI p2] [(.int (0 : Int32)), (.ref p0)])) _
    refine XS.iloadN X1.here hx rfl (hb hby d27_37) rfl  ?_
    exact k
  obtain ⟨T5, X5, e5, st5⟩ := getS2 X1 hx hZ hown (host := "") (Or.inl (ow hw 123 rfl)) Via.refl e1 S_HI_BYTE_SHIFT (g := (mkF m 38 #[vR p0, vI (1 : Int32), vI p2] [(.int p2), (.int (0 : Int32)), (.ref p0)])) rfl (hb hby d27_38)
  have pre6 : ∀ t, SP p e below (T5.setTop (mkF m 43 #[vR p0, vI (1 : Int32), vI p2] [(.int ((p2 >>> ((0 : Int32) &&& 31)).toInt8.toInt32)), (.int (0 : Int32)), (.ref p0)])) t → SP p e below (s₁.setTop (entryFrame m #[(.ref p0), (.int (0 : Int32)), (.int p2)] 3)) t := by
    intro t k
    refine pre4 t ?_
    show SP p e below (T1.setTop (mkF m 38 #[vR p0, vI (1 : Int32), vI p2] [(.int p2), (.int (0 : Int32)), (.ref p0)])) _
    refine st5 _ ?_
    show SP p e below (T5.setTop (mkF m 41 #[vR p0, vI (1 : Int32), vI p2] [(.int (0 : Int32)), (.int p2), (.int (0 : Int32)), (.ref p0)])) _
    refine XS.ishr X5.here hx rfl (hb hby d27_41) rfl ?_
    show SP p e below (T5.setTop (mkF m 42 #[vR p0, vI (1 : Int32), vI p2] [(.int (p2 >>> ((0 : Int32) &&& 31))), (.int (0 : Int32)), (.ref p0)])) _
    refine XS.i2b X5.here hx rfl (hb hby d27_42) rfl ?_
    exact k
  obtain ⟨T7, h7, X7, e7, W7, A7, st7⟩ := own_stB X5 hx hZ e5 A_p0 (j := (0 : Int32)) (x := ((p2 >>> ((0 : Int32) &&& 31)).toInt8.toInt32)) (k := 0) (by decide) (by decide) (by decide) (g := (mkF m 43 #[vR p0, vI (1 : Int32), vI p2] [(.int ((p2 >>> ((0 : Int32) &&& 31)).toInt8.toInt32)), (.int (0 : Int32)), (.ref p0)])) rfl rfl (hb hby d27_43)
  obtain ⟨g_43, hg_43⟩ : ∃ z : Nat → Int32, z = (own_upd x_ 0 ((p2 >>> ((0 : Int32) &&& 31)).toInt8.toInt32).toInt8.toInt32) := ⟨_, rfl⟩
  rw [← hg_43] at A7
  have st__ass_7 := S__assertionsDisabled.wr W7
  have st_HI_B_7 := S_HI_BYTE_SHIFT.wr W7
  have st_LO_B_7 := S_LO_BYTE_SHIFT.wr W7
  have K7 := K0.wr W7 (Or.inl (List.mem_of_getElem? (i := 0) rfl))
  have Z7 := Nat.le_trans Z0 (Nat.le_of_eq W7.size.symm)
  have N7 := Fr.snoc X7 N0 ge_p0
  have pre8 : ∀ t, SP p e below (T7.setTop (mkF m 47 #[vR p0, vI (1 : Int32), vI p2] [(.int p2), (.int (1 : Int32)), (.ref p0)])) t → SP p e below (s₁.setTop (entryFrame m #[(.ref p0), (.int (0 : Int32)), (.int p2)] 3)) t := by
    intro t k
    refine pre6 t ?_
    show SP p e below (T5.setTop (mkF m 43 #[vR p0, vI (1 : Int32), vI p2] [(.int ((p2 >>> ((0 : Int32) &&& 31)).toInt8.toInt32)), (.int (0 : Int32)), (.ref p0)])) _
    refine st7 _ ?_
    show SP p e below (T7.setTop (mkF m 44 #[vR p0, vI (1 : Int32), vI p2] [])) _
    refine XS.aloadN X7.here hx rfl (hb hby d27_44) rfl rfl ?_
    show SP p e below (T7.setTop (mkF m 45 #[vR p0, vI (1 : Int32), vI p2] [(.ref p0)])) _
    refine XS.iloadN X7.here hx rfl (hb hby d27_45) rfl  ?_
    show SP p e below (T7.setTop (mkF m 46 #[vR p0, vI (1 : Int32), vI p2] [(.int (1 : Int32)), (.ref p0)])) _
    refine XS.iloadN X7.here hx rfl (hb hby d27_46) rfl  ?_
    exact k
  obtain ⟨T9, X9, e9, st9⟩ := getS2 X7 hx hZ hown (host := "") (Or.inl (ow hw 124 rfl)) Via.refl e7 st_LO_B_7 (g := (mkF m 47 #[vR p0, vI (1 : Int32), vI p2] [(.int p2), (.int (1 : Int32)), (.ref p0)])) rfl (hb hby d27_47)
  have pre10 : ∀ t, SP p e below (T9.setTop (mkF m 52 #[vR p0, vI (1 : Int32), vI p2] [(.int ((p2 >>> ((8 : Int32) &&& 31)).toInt8.toInt32)), (.int (1 : Int32)), (.ref p0)])) t → SP p e below (s₁.setTop (entryFrame m #[(.ref p0), (.int (0 : Int32)), (.int p2)] 3)) t := by
    intro t k
    refine pre8 t ?_
    show SP p e below (T7.setTop (mkF m 47 #[vR p0, vI (1 : Int32), vI p2] [(.int p2), (.int (1 : Int32)), (.ref p0)])) _
    refine st9 _ ?_
    show SP p e below (T9.setTop (mkF m 50 #[vR p0, vI (1 : Int32), vI p2] [(.int (8 : Int32)), (.int p2), (.int (1 : Int32)), (.ref p0)])) _
    refine XS.ishr X9.here hx rfl (hb hby d27_50) rfl ?_
    show SP p e below (T9.setTop (mkF m 51 #[vR p0, vI (1 : Int32), vI p2] [(.int (p2 >>> ((8 : Int32) &&& 31))), (.int (1 : Int32)), (.ref p0)])) _
    refine XS.i2b X9.here hx rfl (hb hby d27_51) rfl ?_
    exact k
  obtain ⟨T11, h11, X11, e11, W11, A11, st11⟩ := own_stB X9 hx hZ e9 A7 (j := (1 : Int32)) (x := ((p2 >>> ((8 : Int32) &&& 31)).toInt8.toInt32)) (k := 1) (by decide) (by decide) (by decide) (g := (mkF m 52 #[vR p0, vI (1 : Int32), vI p2] [(.int ((p2 >>> ((8 : Int32) &&& 31)).toInt8.toInt32)), (.int (1 : Int32)), (.ref p0)])) rfl rfl (hb hby d27_52)
  obtain ⟨g_52, hg_52⟩ : ∃ z : Nat → Int32, z = (own_upd g_43 1 ((p2 >>> ((8 : Int32) &&& 31)).toInt8.toInt32).toInt8.toInt32) := ⟨_, rfl⟩
  rw [← hg_52] at A11
  have st__ass_11 := st__ass_7.wr W11
  have st_HI_B_11 := st_HI_B_7.wr W11
  have st_LO_B_11 := st_LO_B_7.wr W11
  have K11 := K7.wr W11 (Or.inl (List.mem_of_getElem? (i := 0) rfl))
  have Z11 := Nat.le_trans Z7 (Nat.le_of_eq W11.size.symm)
  have N11 := Fr.snoc X11 N7 ge_p0
  obtain ⟨fs, hr, hrun, hended, hW, hsame⟩ := X11.leave (v := none) (fun _ => rfl) (BodyLoose.notSynchronized Bd)
  refine ⟨_, _, pre10 _ ?_, hrun, hended, _, _, rfl, ?_, ⟨_, rfl⟩, hW, hsame.mono (by decide) (by decide)⟩
  · show SP p e below (T9.setTop (mkF m 52 #[vR p0, vI (1 : Int32), vI p2] [(.int ((p2 >>> ((8 : Int32) &&& 31)).toInt8.toInt32)), (.int (1 : Int32)), (.ref p0)])) _
    refine st11 _ ?_
    show SP p e below (T11.setTop (mkF m 53 #[vR p0, vI (1 : Int32), vI p2] [])) _
    exact X11.returnOut hx Bd.returns (hb hby d27_53) hr
  · show Q_27a Z p0 p2 x_ h0 n0 _ T11.heap _
    rw [e11]
    have o1 := (by subst hg_43 hg_52; rfl : g_52 = f_27a_1 p2 x_)
    have r1 := A11
    rw [o1] at r1
    exact ⟨rfl, N11, K11, r1⟩
theorem pd_4 : parseMethodDescriptor "(I[B)V" = some ⟨[.int, (.array .byte)], none⟩ := by decide +kernel
theorem pd_5 : parseMethodDescriptor "([BI)C" = some ⟨[(.array .byte), .int], some .char⟩ := by decide +kernel
theorem d30_0 : decode jdk_52_method_83_code 0 = .ok (.iload_n 1, 1) := by decide +kernel
theorem d30_1 : decode jdk_52_method_83_code 1 = .ok (.aload_n 0, 1) := by decide +kernel
theorem d30_2 : decode jdk_52_method_83_code 2 = .ok (.invokestatic 67, 3) := by decide +kernel
theorem d30_5 : decode jdk_52_method_83_code 5 = .ok (.aload_n 0, 1) := by decide +kernel
theorem d30_6 : decode jdk_52_method_83_code 6 = .ok (.iload_n 1, 1) := by decide +kernel
theorem d30_7 : decode jdk_52_method_83_code 7 = .ok (.invokestatic 71, 3) := by decide +kernel
theorem d30_10 : decode jdk_52_method_83_code 10 = .ok (.ireturn, 1) := by decide +kernel
theorem pn_30 : plainName "java/lang/StringUTF16" = true := by first | (simp [plainName, overriddenIn]; done) | decide +kernel
theorem ef_30a (m : MethodId) (p0 : Addr) : entryFrame m #[(.ref p0), (.int (0 : Int32))] 2 = mkF m 0 #[vR p0, vI (0 : Int32)] [] := by first | (simp [entryFrame, mkF, argsToLocals, Value.category]; done) | rfl
def f_30a (x_ : Nat → Int32) : Int32 := (nar .char (f_28a x_))
def Q_30a (Z : State) (p0 : Addr) (x_ : Nat → Int32) (fm_ : Value) (h0 : Heap) (n0 : Nat) (v : Option Value) (h : Heap) (L : List Loc) : Prop := v = some (.int (f_30a x_)) ∧ Fr n0 L ∧ h = h0
theorem rm_30a (l : Launch) (Z : State) (a0 : Array Value) (hw : ∀ d ∈ tables_1, d.before a0 Z = true) (ws : List Jvm.Cond) (p0 : Addr) (x_ : Nat → Int32) (fm_ : Value) (h0 : Heap) (n0 : Nat) (Z0 : n0 ≤ h0.size) (A_p0 : own_A Z h0 p0 .byte 2 (fun i => .int (x_ i))) (S__assertionsDisabled : Sta Z h0 "java/lang/StringUTF16" "$assertionsDisabled" "Z" (.int (1 : Int32))) (S_HI_BYTE_SHIFT : Sta Z h0 "java/lang/StringUTF16" "HI_BYTE_SHIFT" "I" (.int (0 : Int32))) (S_LO_BYTE_SHIFT : Sta Z h0 "java/lang/StringUTF16" "LO_BYTE_SHIFT" "I" (.int (8 : Int32))) (S_SIOOBE_FORMATTER : Sta Z h0 "jdk/internal/util/Preconditions" "SIOOBE_FORMATTER" "Ljava/util/function/BiFunction;" fm_) (hfm : fm_ = Value.null ∨ ∃ a, fm_ = Value.ref a) :
    MetFree l (⟨"java/lang/StringUTF16", "charAt", "([BI)C"⟩ : MethodName) (head1 (Jvm.Cond.code (⟨"java/lang/StringUTF16", "charAt", "([BI)C"⟩ : MethodName) jdk_52_method_83_code 2 (some .char) :: ws) (⟨3, 0, 0, 40⟩ : Room)) (fun a U => a = #[(.ref p0), (.int (0 : Int32))] ∧ Z.Warmed39 U.vm ∧ U.heap = h0) (fun _ _ _ _ _ => True) (fun _ U o U' => ∃ v L, o = .returned v ∧ Q_30a Z p0 x_ fm_ h0 n0 v U'.heap L ∧ FrameEnd U o U' L 0 0) := by
  refine MetFree.of_bodySF (plainFor_of_name pn_30) hisR ?_
  intro p e s m args below meth c s₁ Bd hml0 hP hK
  obtain ⟨rfl, hZ, hh⟩ := hP
  have hx := Bd.exec
  have hby := Bd.bytes
  have hml : c.maxLocals = 2 := hml0
  have hown : s.vm.findClass "java/lang/StringUTF16" = some m.cls := findClass_of_methodNamed Bd.named
  have hnm := (name_of_methodNamed Bd.named Bd.method).1
  have X0 : Stand p l e (⟨3, 0, 0, 40⟩ : Room) s m #[(.ref p0), (.int (0 : Int32))] below meth c s₁ [] 0 0 := Stand.of_body Bd
  have e0 : s₁.heap = h0 := by rw [← hh, Bd.state]; rfl
  have N0 := Fr.nil n0
  have K0 : Keep h0 h0 [] := Keep.refl h0 _
  have pre0 : ∀ t, SP p e below (s₁.setTop (mkF m 0 #[vR p0, vI (0 : Int32)] [])) t → SP p e below (s₁.setTop (entryFrame m #[(.ref p0), (.int (0 : Int32))] 2)) t := fun t k => castTop (ef_30a m p0) k
  have pre2 : ∀ t, SP p e below (s₁.setTop (mkF m 2 #[vR p0, vI (0 : Int32)] [(.ref p0), (.int (0 : Int32))])) t → SP p e below (s₁.setTop (entryFrame m #[(.ref p0), (.int (0 : Int32))] 2)) t := by
    intro t k
    refine pre0 t ?_
    show SP p e below (s₁.setTop (mkF m 0 #[vR p0, vI (0 : Int32)] [])) _
    refine XS.iloadN X0.here hx rfl (hb hby d30_0) rfl  ?_
    show SP p e below (s₁.setTop (mkF m 1 #[vR p0, vI (0 : Int32)] [(.int (0 : Int32))])) _
    refine XS.aloadN X0.here hx rfl (hb hby d30_1) rfl rfl ?_
    exact k
  obtain ⟨_, _, ⟨T1, L1, k1, n1⟩, -, X1, ⟨Lc1, hQ1, l1, y1, z1⟩, st1⟩ := Jvm.LawKit.callS X0 hx (y := (⟨"java/lang/StringUTF16", "checkIndex", "(I[B)V"⟩ : MethodName)) hown (mvT hZ (ow hw 134 rfl)) (mvT hZ (ow hw 135 rfl)) (mvT hZ (ow hw 58 rfl)) (mvT hZ (ow hw 136 rfl)) (by decide) (backOf (W := 0) (rm_31a l Z a0 hw [] p0 x_ fm_ h0 n0 Z0 A_p0 S_SIOOBE_FORMATTER hfm) hZ (ow hw 136 rfl) (ow hw 58 rfl) (by decide) (by decide)) (g := (mkF m 2 #[vR p0, vI (0 : Int32)] [(.ref p0), (.int (0 : Int32))])) rfl (by rw [hml]; rfl) (argsL := [(.int (0 : Int32)), (.ref p0)]) (rest := []) (lenOf pd_4 rfl) rfl own_le0 (hb hby d30_2) (fun _ _ => ⟨rfl, e0, (by decide : 0 + 0 ≤ _), (by decide : 0 + 0 ≤ _)⟩)
  dsimp only [Pt.U, Pt.locs, Pt.cells, Pt.slots] at X1 l1 y1 z1 st1 hQ1
  rw [l1, y1, z1] at X1
  obtain ⟨rfl, N1q, e1⟩ := hQ1
  have N1 := Fr.app N0 N1q
  have pre4 : ∀ t, SP p e below (T1.setTop (mkF m 7 #[vR p0, vI (0 : Int32)] [(.int (0 : Int32)), (.ref p0)])) t → SP p e below (s₁.setTop (entryFrame m #[(.ref p0), (.int (0 : Int32))] 2)) t := by
    intro t k
    refine pre2 t ?_
    show SP p e below (s₁.setTop (mkF m 2 #[vR p0, vI (0 : Int32)] [(.ref p0), (.int (0 : Int32))])) _
    refine st1 _ ?_
    show SP p e below (T1.setTop (mkF m 5 #[vR p0, vI (0 : Int32)] [])) _
    refine XS.aloadN X1.here hx rfl (hb hby d30_5) rfl rfl ?_
    show SP p e below (T1.setTop (mkF m 6 #[vR p0, vI (0 : Int32)] [(.ref p0)])) _
    refine XS.iloadN X1.here hx rfl (hb hby d30_6) rfl  ?_
    exact k
  obtain ⟨_, _, ⟨T3, L3, k3, n3⟩, -, X3, ⟨Lc3, hQ3, l3, y3, z3⟩, st3⟩ := Jvm.LawKit.callS X1 hx (y := (⟨"java/lang/StringUTF16", "getChar", "([BI)C"⟩ : MethodName)) hown (mvT hZ (ow hw 125 rfl)) (mvT hZ (ow hw 126 rfl)) (mvT hZ (ow hw 58 rfl)) (mvT hZ (ow hw 127 rfl)) (by decide) (backOf (W := 0) (rm_28a l Z a0 hw [] p0 x_ h0 n0 Z0 A_p0 S__assertionsDisabled S_HI_BYTE_SHIFT S_LO_BYTE_SHIFT) hZ (ow hw 127 rfl) (ow hw 58 rfl) (by decide) (by decide)) (g := (mkF m 7 #[vR p0, vI (0 : Int32)] [(.int (0 : Int32)), (.ref p0)])) rfl (by rw [hml]; rfl) (argsL := [(.ref p0), (.int (0 : Int32))]) (rest := []) (lenOf pd_5 rfl) rfl own_le0 (hb hby d30_7) (fun _ _ => ⟨rfl, e1, (by decide : 0 + 0 ≤ _), (by decide : 0 + 0 ≤ _)⟩)
  dsimp only [Pt.U, Pt.locs, Pt.cells, Pt.slots] at X3 l3 y3 z3 st3 hQ3
  rw [l3, y3, z3] at X3
  obtain ⟨rfl, N3q, e3⟩ := hQ3
  have N3 := Fr.app N1 N3q
  obtain ⟨fs, hr, hrun, hended, hW, hsame⟩ := X3.leave (v := some (.int (nar .char (f_28a x_)))) (fun h => by rw [Bd.returns] at h; cases h) (BodyLoose.notSynchronized Bd)
  refine ⟨_, _, pre4 _ ?_, hrun, hended, _, _, rfl, ?_, ⟨_, rfl⟩, hW, hsame.mono (by decide) (by decide)⟩
  · show SP p e below (T1.setTop (mkF m 7 #[vR p0, vI (0 : Int32)] [(.int (0 : Int32)), (.ref p0)])) _
    refine st3 _ ?_
    show SP p e below (T3.setTop (mkF m 10 #[vR p0, vI (0 : Int32)] [(.int (f_28a x_))])) _
    exact retN X3 hx (t := .char) Bd.returns (by simp) (hb hby d30_10) hr
  · show Q_30a Z p0 x_ fm_ h0 n0 _ T3.heap _
    rw [e3]
    exact ⟨congrArg (fun z => some (Value.int z)) (by rfl : (nar .char (f_28a x_)) = f_30a x_), N3, rfl⟩
theorem ef_31b (m : MethodId) (p1 : Addr) : entryFrame m #[(.int (0 : Int32)), (.ref p1)] 2 = mkF m 0 #[vI (0 : Int32), vR p1] [] := by first | (simp [entryFrame, mkF, argsToLocals, Value.category]; done) | rfl
def Q_31b (Z : State) (p1 : Addr) (x_ : Nat → Int32) (fm_ : Value) (h0 : Heap) (n0 : Nat) (v : Option Value) (h : Heap) (L : List Loc) : Prop := v = none ∧ Fr n0 L ∧ h = h0
theorem rm_31b (l : Launch) (Z : State) (a0 : Array Value) (hw : ∀ d ∈ tables_1, d.before a0 Z = true) (ws : List Jvm.Cond) (p1 : Addr) (x_ : Nat → Int32) (fm_ : Value) (h0 : Heap) (n0 : Nat) (Z0 : n0 ≤ h0.size) (A_p1 : own_A Z h0 p1 .byte 4 (fun i => .int (x_ i))) (S_SIOOBE_FORMATTER : Sta Z h0 "jdk/internal/util/Preconditions" "SIOOBE_FORMATTER" "Ljava/util/function/BiFunction;" fm_) (hfm : fm_ = Value.null ∨ ∃ a, fm_ = Value.ref a) :
    MetFree l (⟨"java/lang/StringUTF16", "checkIndex", "(I[B)V"⟩ : MethodName) (head1 (Jvm.Cond.code (⟨"java/lang/StringUTF16", "checkIndex", "(I[B)V"⟩ : MethodName) jdk_52_method_91_code 2 none :: ws) (⟨2, 0, 0, 27⟩ : Room)) (fun a U => a = #[(.int (0 : Int32)), (.ref p1)] ∧ Z.Warmed39 U.vm ∧ U.heap = h0) (fun _ _ _ _ _ => True) (fun _ U o U' => ∃ v L, o = .returned v ∧ Q_31b Z p1 x_ fm_ h0 n0 v U'.heap L ∧ FrameEnd U o U' L 0 0) := by
  refine MetFree.of_bodySF (plainFor_of_name pn_31) hisR ?_
  intro p e s m args below meth c s₁ Bd hml0 hP hK
  obtain ⟨rfl, hZ, hh⟩ := hP
  have hx := Bd.exec
  have hby := Bd.bytes
  have hml : c.maxLocals = 2 := hml0
  have hown : s.vm.findClass "java/lang/StringUTF16" = some m.cls := findClass_of_methodNamed Bd.named
  have hnm := (name_of_methodNamed Bd.named Bd.method).1
  have X0 : Stand p l e (⟨2, 0, 0, 27⟩ : Room) s m #[(.int (0 : Int32)), (.ref p1)] below meth c s₁ [] 0 0 := Stand.of_body Bd
  have e0 : s₁.heap = h0 := by rw [← hh, Bd.state]; rfl
  have N0 := Fr.nil n0
  have K0 : Keep h0 h0 [] := Keep.refl h0 _
  have pre0 : ∀ t, SP p e below (s₁.setTop (mkF m 0 #[vI (0 : Int32), vR p1] [])) t → SP p e below (s₁.setTop (entryFrame m #[(.int (0 : Int32)), (.ref p1)] 2)) t := fun t k => castTop (ef_31b m p1) k
  have pre2 : ∀ t, SP p e below (s₁.setTop (mkF m 2 #[vI (0 : Int32), vR p1] [(.ref p1), (.int (0 : Int32))])) t → SP p e below (s₁.setTop (entryFrame m #[(.int (0 : Int32)), (.ref p1)] 2)) t := by
    intro t k
    refine pre0 t ?_
    show SP p e below (s₁.setTop (mkF m 0 #[vI (0 : Int32), vR p1] [])) _
    refine XS.iloadN X0.here hx rfl (hb hby d31_0) rfl  ?_
    show SP p e below (s₁.setTop (mkF m 1 #[vI (0 : Int32), vR p1] [(.int (0 : Int32))])) _
    refine XS.aloadN X0.here hx rfl (hb hby d31_1) rfl rfl ?_
    exact k
  obtain ⟨_, _, ⟨T1, L1, k1, n1⟩, -, X1, ⟨Lc1, hQ1, l1, y1, z1⟩, st1⟩ := Jvm.LawKit.callS X0 hx (y := (⟨"java/lang/StringUTF16", "length", "([B)I"⟩ : MethodName)) hown (mvT hZ (ow hw 137 rfl)) (mvT hZ (ow hw 138 rfl)) (mvT hZ (ow hw 58 rfl)) (mvT hZ (ow hw 139 rfl)) (by decide) (backOf (W := 1) (rm_32n4 l Z a0 hw [] p1 x_ h0 n0 Z0 A_p1) hZ (ow hw 139 rfl) (ow hw 58 rfl) (by decide) (by decide)) (g := (mkF m 2 #[vI (0 : Int32), vR p1] [(.ref p1), (.int (0 : Int32))])) rfl (by rw [hml]; rfl) (argsL := [(.ref p1)]) (rest := [(.int (0 : Int32))]) (lenOf pd_2 rfl) rfl own_le0 (hb hby d31_2) (fun _ _ => ⟨rfl, e0, (by decide : 0 + 0 ≤ _), (by decide : 0 + 0 ≤ _)⟩)
  dsimp only [Pt.U, Pt.locs, Pt.cells, Pt.slots] at X1 l1 y1 z1 st1 hQ1
  rw [l1, y1, z1] at X1
  obtain ⟨rfl, N1q, e1⟩ := hQ1
  have N1 := Fr.app N0 N1q
  have pre4 : ∀ t, SP p e below (T1.setTop (mkF m 5 #[vI (0 : Int32), vR p1] [(.int (f_32n4 x_)), (.int (0 : Int32))])) t → SP p e below (s₁.setTop (entryFrame m #[(.int (0 : Int32)), (.ref p1)] 2)) t := by
    intro t k
    refine pre2 t ?_
    show SP p e below (s₁.setTop (mkF m 2 #[vI (0 : Int32), vR p1] [(.ref p1), (.int (0 : Int32))])) _
    refine st1 _ ?_
    exact k
  obtain ⟨_, _, ⟨T3, L3, k3, n3⟩, -, X3, ⟨Lc3, hQ3, l3, y3, z3⟩, st3⟩ := Jvm.LawKit.callS X1 hx (y := (⟨"java/lang/String", "checkIndex", "(II)V"⟩ : MethodName)) hown (mvT hZ (ow hw 140 rfl)) (mvT hZ (ow hw 100 rfl)) (mvT hZ (ow hw 7 rfl)) (mvT hZ (ow hw 101 rfl)) (by decide) (backOf (W := 0) (rm_22 l Z a0 hw [] (0 : Int32) (f_32n4 x_) fm_ h0 n0 Z0 S_SIOOBE_FORMATTER hfm (by decide) (by decide : (0 : Int32) < (2 : Int32))) hZ (ow hw 101 rfl) (ow hw 7 rfl) (by decide) (by decide)) (g := (mkF m 5 #[vI (0 : Int32), vR p1] [(.int (f_32n4 x_)), (.int (0 : Int32))])) rfl (by rw [hml]; rfl) (argsL := [(.int (0 : Int32)), (.int (f_32n4 x_))]) (rest := []) (lenOf pd_3 rfl) rfl own_le0 (hb hby d31_5) (fun _ _ => ⟨rfl, e1, (by decide : 0 + 0 ≤ _), (by decide : 0 + 0 ≤ _)⟩)
  dsimp only [Pt.U, Pt.locs, Pt.cells, Pt.slots] at X3 l3 y3 z3 st3 hQ3
  rw [l3, y3, z3] at X3
  obtain ⟨rfl, N3q, e3⟩ := hQ3
  have N3 := Fr.app N1 N3q
  obtain ⟨fs, hr, hrun, hended, hW, hsame⟩ := X3.leave (v := none) (fun _ => rfl) (BodyLoose.notSynchronized Bd)
  refine ⟨_, _, pre4 _ ?_, hrun, hended, _, _, rfl, ?_, ⟨_, rfl⟩, hW, hsame.mono (by decide) (by decide)⟩
  · show SP p e below (T1.setTop (mkF m 5 #[vI (0 : Int32), vR p1] [(.int (f_32n4 x_)), (.int (0 : Int32))])) _
    refine st3 _ ?_
    show SP p e below (T3.setTop (mkF m 8 #[vI (0 : Int32), vR p1] [])) _
    exact X3.returnOut hx Bd.returns (hb hby d31_8) hr
  · show Q_31b Z p1 x_ fm_ h0 n0 _ T3.heap _
    rw [e3]
    exact ⟨rfl, N3, rfl⟩
theorem ef_28b (m : MethodId) (p0 : Addr) : entryFrame m #[(.ref p0), (.int (0 : Int32))] 2 = mkF m 0 #[vR p0, vI (0 : Int32)] [] := by first | (simp [entryFrame, mkF, argsToLocals, Value.category]; done) | rfl
def f_28b (x_ : Nat → Int32) : Int32 := (nar .char (((((x_ 0) &&& (255 : Int32)) <<< ((0 : Int32) &&& 31)) ||| (((x_ 1) &&& (255 : Int32)) <<< ((8 : Int32) &&& 31))).toUInt32.toUInt16.toUInt32.toInt32))
def Q_28b (Z : State) (p0 : Addr) (x_ : Nat → Int32) (h0 : Heap) (n0 : Nat) (v : Option Value) (h : Heap) (L : List Loc) : Prop := v = some (.int (f_28b x_)) ∧ Fr n0 L ∧ h = h0
theorem rm_28b (l : Launch) (Z : State) (a0 : Array Value) (hw : ∀ d ∈ tables_1, d.before a0 Z = true) (ws : List Jvm.Cond) (p0 : Addr) (x_ : Nat → Int32) (h0 : Heap) (n0 : Nat) (Z0 : n0 ≤ h0.size) (A_p0 : own_A Z h0 p0 .byte 4 (fun i => .int (x_ i))) (S__assertionsDisabled : Sta Z h0 "java/lang/StringUTF16" "$assertionsDisabled" "Z" (.int (1 : Int32))) (S_HI_BYTE_SHIFT : Sta Z h0 "java/lang/StringUTF16" "HI_BYTE_SHIFT" "I" (.int (0 : Int32))) (S_LO_BYTE_SHIFT : Sta Z h0 "java/lang/StringUTF16" "LO_BYTE_SHIFT" "I" (.int (8 : Int32))) :
    MetFree l (⟨"java/lang/StringUTF16", "getChar", "([BI)C"⟩ : MethodName) (head1 (Jvm.Cond.code (⟨"java/lang/StringUTF16", "getChar", "([BI)C"⟩ : MethodName) jdk_52_method_5_code 2 (some .char) :: ws) (⟨0, 0, 0, 0⟩ : Room)) (fun a U => a = #[(.ref p0), (.int (0 : Int32))] ∧ Z.Warmed39 U.vm ∧ U.heap = h0) (fun _ _ _ _ _ => True) (fun _ U o U' => ∃ v L, o = .returned v ∧ Q_28b Z p0 x_ h0 n0 v U'.heap L ∧ FrameEnd U o U' L 0 0) := by
  refine MetFree.of_bodySF (plainFor_of_name pn_28) hisR ?_
  intro p e s m args below meth c s₁ Bd hml0 hP hK
  obtain ⟨rfl, hZ, hh⟩ := hP
  have hx := Bd.exec
  have hby := Bd.bytes
  have hml : c.maxLocals = 2 := hml0
  have hown : s.vm.findClass "java/lang/StringUTF16" = some m.cls := findClass_of_methodNamed Bd.named
  have hnm := (name_of_methodNamed Bd.named Bd.method).1
  have X0 : Stand p l e (⟨0, 0, 0, 0⟩ : Room) s m #[(.ref p0), (.int (0 : Int32))] below meth c s₁ [] 0 0 := Stand.of_body Bd
  have e0 : s₁.heap = h0 := by rw [← hh, Bd.state]; rfl
  have N0 := Fr.nil n0
  have K0 : Keep h0 h0 [] := Keep.refl h0 _
  have pre0 : ∀ t, SP p e below (s₁.setTop (mkF m 0 #[vR p0, vI (0 : Int32)] [])) t → SP p e below (s₁.setTop (entryFrame m #[(.ref p0), (.int (0 : Int32))] 2)) t := fun t k => castTop (ef_28b m p0) k
  obtain ⟨T1, X1, e1, st1⟩ := getS2 X0 hx hZ hown (host := "") (Or.inl (ow hw 122 rfl)) Via.refl e0 S__assertionsDisabled (g := (mkF m 0 #[vR p0, vI (0 : Int32)] [])) rfl (hb hby d28_0)
  have pre2 : ∀ t, SP p e below (T1.setTop (mkF m 31 #[vR p0, vI (0 : Int32)] [(.int ((0 : Int32) <<< ((1 : Int32) &&& 31)))])) t → SP p e below (s₁.setTop (entryFrame m #[(.ref p0), (.int (0 : Int32))] 2)) t := by
    intro t k
    refine pre0 t ?_
    show SP p e below (s₁.setTop (mkF m 0 #[vR p0, vI (0 : Int32)] [])) _
    refine st1 _ ?_
    show SP p e below (T1.setTop (mkF m 3 #[vR p0, vI (0 : Int32)] [(.int (1 : Int32))])) _
    refine XS.ifYes X1.here hx rfl (pc0 := 3) (pc' := 28) rfl (hb hby d28_3) rfl ((if0 _ _).trans (feq (by decide : ¬ ((1 : Int32) = (0 : Int32)))).2) (by decide) (by decide) ?_
    show SP p e below (T1.setTop (mkF m 28 #[vR p0, vI (0 : Int32)] [])) _
    refine XS.iloadN X1.here hx rfl (hb hby d28_28) rfl  ?_
    show SP p e below (T1.setTop (mkF m 29 #[vR p0, vI (0 : Int32)] [(.int (0 : Int32))])) _
    refine XS.iconst X1.here hx rfl (hb hby d28_29) ?_
    show SP p e below (T1.setTop (mkF m 30 #[vR p0, vI (0 : Int32)] [(.int (1 : Int32)), (.int (0 : Int32))])) _
    refine XS.ishl X1.here hx rfl (hb hby d28_30) rfl ?_
    exact k
  have hl3 : ((0 : Int32) <<< ((1 : Int32) &&& 31)) = (0 : Int32) := by decide
  have preL3 : ∀ t, SP p e below (T1.setTop (mkF m 31 #[vR p0, vI (0 : Int32)] [(.int (0 : Int32))])) t → SP p e below (s₁.setTop (entryFrame m #[(.ref p0), (.int (0 : Int32))] 2)) t := by
    intro t k_
    refine pre2 t ?_
    rw [hl3]
    exact k_
  have pre4 : ∀ t, SP p e below (T1.setTop (mkF m 42 #[vR p0, vI (1 : Int32)] [(.int ((x_ 0) &&& (255 : Int32)))])) t → SP p e below (s₁.setTop (entryFrame m #[(.ref p0), (.int (0 : Int32))] 2)) t := by
    intro t k
    refine preL3 t ?_
    show SP p e below (T1.setTop (mkF m 31 #[vR p0, vI (0 : Int32)] [(.int (0 : Int32))])) _
    refine XS.istoreN X1.here hx rfl (hb hby d28_31) rfl (l' := #[vR p0, vI (0 : Int32)]) rfl ?_
    show SP p e below (T1.setTop (mkF m 32 #[vR p0, vI (0 : Int32)] [])) _
    refine XS.aloadN X1.here hx rfl (hb hby d28_32) rfl rfl ?_
    show SP p e below (T1.setTop (mkF m 33 #[vR p0, vI (0 : Int32)] [(.ref p0)])) _
    refine XS.iloadN X1.here hx rfl (hb hby d28_33) rfl  ?_
    show SP p e below (T1.setTop (mkF m 34 #[vR p0, vI (0 : Int32)] [(.int (0 : Int32)), (.ref p0)])) _
    refine XS.iinc X1.here hx rfl (hb hby d28_34) rfl (l' := #[vR p0, vI (1 : Int32)]) rfl ?_
    show SP p e below (T1.setTop (mkF m 37 #[vR p0, vI (1 : Int32)] [(.int (0 : Int32)), (.ref p0)])) _
    refine own_ldB X1 hx hZ e1 A_p0 (j := (0 : Int32)) (k := 0) (by decide) (by decide) (by decide) (g := (mkF m 37 #[vR p0, vI (1 : Int32)] [(.int (0 : Int32)), (.ref p0)])) rfl rfl (hb hby d28_37) ?_
    show SP p e below (T1.setTop (mkF m 38 #[vR p0, vI (1 : Int32)] [(.int (x_ 0))])) _
    refine XS.sipush X1.here hx rfl (hb hby d28_38) ?_
    show SP p e below (T1.setTop (mkF m 41 #[vR p0, vI (1 : Int32)] [(.int (255 : Int32)), (.int (x_ 0))])) _
    refine XS.iand X1.here hx rfl (hb hby d28_41) rfl ?_
    exact k
  obtain ⟨T5, X5, e5, st5⟩ := getS2 X1 hx hZ hown (host := "") (Or.inl (ow hw 123 rfl)) Via.refl e1 S_HI_BYTE_SHIFT (g := (mkF m 42 #[vR p0, vI (1 : Int32)] [(.int ((x_ 0) &&& (255 : Int32)))])) rfl (hb hby d28_42)
  have pre6 : ∀ t, SP p e below (T5.setTop (mkF m 53 #[vR p0, vI (1 : Int32)] [(.int ((x_ 1) &&& (255 : Int32))), (.int (((x_ 0) &&& (255 : Int32)) <<< ((0 : Int32) &&& 31)))])) t → SP p e below (s₁.setTop (entryFrame m #[(.ref p0), (.int (0 : Int32))] 2)) t := by
    intro t k
    refine pre4 t ?_
    show SP p e below (T1.setTop (mkF m 42 #[vR p0, vI (1 : Int32)] [(.int ((x_ 0) &&& (255 : Int32)))])) _
    refine st5 _ ?_
    show SP p e below (T5.setTop (mkF m 45 #[vR p0, vI (1 : Int32)] [(.int (0 : Int32)), (.int ((x_ 0) &&& (255 : Int32)))])) _
    refine XS.ishl X5.here hx rfl (hb hby d28_45) rfl ?_
    show SP p e below (T5.setTop (mkF m 46 #[vR p0, vI (1 : Int32)] [(.int (((x_ 0) &&& (255 : Int32)) <<< ((0 : Int32) &&& 31)))])) _
    refine XS.aloadN X5.here hx rfl (hb hby d28_46) rfl rfl ?_
    show SP p e below (T5.setTop (mkF m 47 #[vR p0, vI (1 : Int32)] [(.ref p0), (.int (((x_ 0) &&& (255 : Int32)) <<< ((0 : Int32) &&& 31)))])) _
    refine XS.iloadN X5.here hx rfl (hb hby d28_47) rfl  ?_
    show SP p e below (T5.setTop (mkF m 48 #[vR p0, vI (1 : Int32)] [(.int (1 : Int32)), (.ref p0), (.int (((x_ 0) &&& (255 : Int32)) <<< ((0 : Int32) &&& 31)))])) _
    refine own_ldB X5 hx hZ e5 A_p0 (j := (1 : Int32)) (k := 1) (by decide) (by decide) (by decide) (g := (mkF m 48 #[vR p0, vI (1 : Int32)] [(.int (1 : Int32)), (.ref p0), (.int (((x_ 0) &&& (255 : Int32)) <<< ((0 : Int32) &&& 31)))])) rfl rfl (hb hby d28_48) ?_
    show SP p e below (T5.setTop (mkF m 49 #[vR p0, vI (1 : Int32)] [(.int (x_ 1)), (.int (((x_ 0) &&& (255 : Int32)) <<< ((0 : Int32) &&& 31)))])) _
    refine XS.sipush X5.here hx rfl (hb hby d28_49) ?_
    show SP p e below (T5.setTop (mkF m 52 #[vR p0, vI (1 : Int32)] [(.int (255 : Int32)), (.int (x_ 1)), (.int (((x_ 0) &&& (255 : Int32)) <<< ((0 : Int32) &&& 31)))])) _
    refine XS.iand X5.here hx rfl (hb hby d28_52) rfl ?_
    exact k
  obtain ⟨T7, X7, e7, st7⟩ := getS2 X5 hx hZ hown (host := "") (Or.inl (ow hw 124 rfl)) Via.refl e5 S_LO_BYTE_SHIFT (g := (mkF m 53 #[vR p0, vI (1 : Int32)] [(.int ((x_ 1) &&& (255 : Int32))), (.int (((x_ 0) &&& (255 : Int32)) <<< ((0 : Int32) &&& 31)))])) rfl (hb hby d28_53)
  obtain ⟨fs, hr, hrun, hended, hW, hsame⟩ := X7.leave (v := some (.int (nar .char (((((x_ 0) &&& (255 : Int32)) <<< ((0 : Int32) &&& 31)) ||| (((x_ 1) &&& (255 : Int32)) <<< ((8 : Int32) &&& 31))).toUInt32.toUInt16.toUInt32.toInt32)))) (fun h => by rw [Bd.returns] at h; cases h) (BodyLoose.notSynchronized Bd)
  refine ⟨_, _, pre6 _ ?_, hrun, hended, _, _, rfl, ?_, ⟨_, rfl⟩, hW, hsame.mono (by decide) (by decide)⟩
  · show SP p e below (T5.setTop (mkF m 53 #[vR p0, vI (1 : Int32)] [(.int ((x_ 1) &&& (255 : Int32))), (.int (((x_ 0) &&& (255 : Int32)) <<< ((0 : Int32) &&& 31)))])) _
    refine st7 _ ?_
    show SP p e below (T7.setTop (mkF m 56 #[vR p0, vI (1 : Int32)] [(.int (8 : Int32)), (.int ((x_ 1) &&& (255 : Int32))), (.int (((x_ 0) &&& (255 : Int32)) <<< ((0 : Int32) &&& 31)))])) _
    refine XS.ishl X7.here hx rfl (hb hby d28_56) rfl ?_
    show SP p e below (T7.setTop (mkF m 57 #[vR p0, vI (1 : Int32)] [(.int (((x_ 1) &&& (255 : Int32)) <<< ((8 : Int32) &&& 31))), (.int (((x_ 0) &&& (255 : Int32)) <<< ((0 : Int32) &&& 31)))])) _
    refine XS.ior X7.here hx rfl (hb hby d28_57) rfl ?_
    show SP p e below (T7.setTop (mkF m 58 #[vR p0, vI (1 : Int32)] [(.int ((((x_ 0) &&& (255 : Int32)) <<< ((0 : Int32) &&& 31)) ||| (((x_ 1) &&& (255 : Int32)) <<< ((8 : Int32) &&& 31))))])) _
    refine XS.i2c X7.here hx rfl (hb hby d28_58) rfl ?_
    show SP p e below (T7.setTop (mkF m 59 #[vR p0, vI (1 : Int32)] [(.int (((((x_ 0) &&& (255 : Int32)) <<< ((0 : Int32) &&& 31)) ||| (((x_ 1) &&& (255 : Int32)) <<< ((8 : Int32) &&& 31))).toUInt32.toUInt16.toUInt32.toInt32))])) _
    exact retN X7 hx (t := .char) Bd.returns (by simp) (hb hby d28_59) hr
  · show Q_28b Z p0 x_ h0 n0 _ T7.heap _
    rw [e7]
    exact ⟨congrArg (fun z => some (Value.int z)) (by rfl : (nar .char (((((x_ 0) &&& (255 : Int32)) <<< ((0 : Int32) &&& 31)) ||| (((x_ 1) &&& (255 : Int32)) <<< ((8 : Int32) &&& 31))).toUInt32.toUInt16.toUInt32.toInt32)) = f_28b x_), N0, rfl⟩
theorem ef_27b (m : MethodId) (p0 : Addr) (p2 : Int32) : entryFrame m #[(.ref p0), (.int (0 : Int32)), (.int p2)] 3 = mkF m 0 #[vR p0, vI (0 : Int32), vI p2] [] := by first | (simp [entryFrame, mkF, argsToLocals, Value.category]; done) | rfl
def f_27b_1 (p2 : Int32) (x_ : Nat → Int32) : Nat → Int32 := let g_43 : Nat → Int32 := (own_upd x_ 0 ((p2 >>> ((0 : Int32) &&& 31)).toInt8.toInt32).toInt8.toInt32); let g_52 : Nat → Int32 := (own_upd g_43 1 ((p2 >>> ((8 : Int32) &&& 31)).toInt8.toInt32).toInt8.toInt32); g_52
def Q_27b (Z : State) (p0 : Addr) (p2 : Int32) (x_ : Nat → Int32) (h0 : Heap) (n0 : Nat) (v : Option Value) (h : Heap) (L : List Loc) : Prop := v = none ∧ Fr n0 L ∧ Keep h0 h [p0] ∧ own_A Z h p0 .byte 4 (fun i => .int ((f_27b_1 p2 x_) i))
theorem rm_27b (l : Launch) (Z : State) (a0 : Array Value) (hw : ∀ d ∈ tables_1, d.before a0 Z = true) (ws : List Jvm.Cond) (p0 : Addr) (p2 : Int32) (x_ : Nat → Int32) (h0 : Heap) (n0 : Nat) (Z0 : n0 ≤ h0.size) (A_p0 : own_A Z h0 p0 .byte 4 (fun i => .int (x_ i))) (ge_p0 : n0 ≤ p0) (S__assertionsDisabled : Sta Z h0 "java/lang/StringUTF16" "$assertionsDisabled" "Z" (.int (1 : Int32))) (S_HI_BYTE_SHIFT : Sta Z h0 "java/lang/StringUTF16" "HI_BYTE_SHIFT" "I" (.int (0 : Int32))) (S_LO_BYTE_SHIFT : Sta Z h0 "java/lang/StringUTF16" "LO_BYTE_SHIFT" "I" (.int (8 : Int32))) :
    MetFree l (⟨"java/lang/StringUTF16", "putChar", "([BII)V"⟩ : MethodName) (head1 (Jvm.Cond.code (⟨"java/lang/StringUTF16", "putChar", "([BII)V"⟩ : MethodName) jdk_52_method_4_code 3 none :: ws) (⟨0, 0, 0, 0⟩ : Room)) (fun a U => a = #[(.ref p0), (.int (0 : Int32)), (.int p2)] ∧ Z.Warmed39 U.vm ∧ U.heap = h0) (fun _ _ _ _ _ => True) (fun _ U o U' => ∃ v L, o = .returned v ∧ Q_27b Z p0 p2 x_ h0 n0 v U'.heap L ∧ FrameEnd U o U' L 0 0) := by
  refine MetFree.of_bodySF (plainFor_of_name pn_27) hisR ?_
  intro p e s m args below meth c s₁ Bd hml0 hP hK
  obtain ⟨rfl, hZ, hh⟩ := hP
  have hx := Bd.exec
  have hby := Bd.bytes
  have hml : c.maxLocals = 3 := hml0
  have hown : s.vm.findClass "java/lang/StringUTF16" = some m.cls := findClass_of_methodNamed Bd.named
  have hnm := (name_of_methodNamed Bd.named Bd.method).1
  have X0 : Stand p l e (⟨0, 0, 0, 0⟩ : Room) s m #[(.ref p0), (.int (0 : Int32)), (.int p2)] below meth c s₁ [] 0 0 := Stand.of_body Bd
  have e0 : s₁.heap = h0 := by rw [← hh, Bd.state]; rfl
  have N0 := Fr.nil n0
  have K0 : Keep h0 h0 [p0] := Keep.refl h0 _
  have pre0 : ∀ t, SP p e below (s₁.setTop (mkF m 0 #[vR p0, vI (0 : Int32), vI p2] [])) t → SP p e below (s₁.setTop (entryFrame m #[(.ref p0), (.int (0 : Int32)), (.int p2)] 3)) t := fun t k => castTop (ef_27b m p0 p2) k
  obtain ⟨T1, X1, e1, st1⟩ := getS2 X0 hx hZ hown (host := "") (Or.inl (ow hw 122 rfl)) Via.refl e0 S__assertionsDisabled (g := (mkF m 0 #[vR p0, vI (0 : Int32), vI p2] [])) rfl (hb hby d27_0)
  have pre2 : ∀ t, SP p e below (T1.setTop (mkF m 31 #[vR p0, vI (0 : Int32), vI p2] [(.int ((0 : Int32) <<< ((1 : Int32) &&& 31)))])) t → SP p e below (s₁.setTop (entryFrame m #[(.ref p0), (.int (0 : Int32)), (.int p2)] 3)) t := by
    intro t k
    refine pre0 t ?_
    show SP p e below (s₁.setTop (mkF m 0 #[vR p0, vI (0 : Int32), vI p2] [])) _
    refine st1 _ ?_
    show SP p e below (T1.setTop (mkF m 3 #[vR p0, vI (0 : Int32), vI p2] [(.int (1 : Int32))])) _
    refine XS.ifYes X1.here hx rfl (pc0 := 3) (pc' := 28) rfl (hb hby d27_3) rfl ((if0 _ _).trans (feq (by decide : ¬ ((1 : Int32) = (0 : Int32)))).2) (by decide) (by decide) ?_
    show SP p e below (T1.setTop (mkF m 28 #[vR p0, vI (0 : Int32), vI p2] [])) _
    refine XS.iloadN X1.here hx rfl (hb hby d27_28) rfl  ?_
    show SP p e below (T1.setTop (mkF m 29 #[vR p0, vI (0 : Int32), vI p2] [(.int (0 : Int32))])) _
    refine XS.iconst X1.here hx rfl (hb hby d27_29) ?_
    show SP p e below (T1.setTop (mkF m 30 #[vR p0, vI (0 : Int32), vI p2] [(.int (1 : Int32)), (.int (0 : Int32))])) _
    refine XS.ishl X1.here hx rfl (hb hby d27_30) rfl ?_
    exact k
  have hl3 : ((0 : Int32) <<< ((1 : Int32) &&& 31)) = (0 : Int32) := by decide
  have preL3 : ∀ t, SP p e below (T1.setTop (mkF m 31 #[vR p0, vI (0 : Int32), vI p2] [(.int (0 : Int32))])) t → SP p e below (s₁.setTop (entryFrame m #[(.ref p0), (.int (0 : Int32)), (.int p2)] 3)) t := by
    intro t k_
    refine pre2 t ?_
    rw [hl3]
    exact k_
  have pre4 : ∀ t, SP p e below (T1.setTop (mkF m 38 #[vR p0, vI (1 : Int32), vI p2] [(.int p2), (.int (0 : Int32)), (.ref p0)])) t → SP p e below (s₁.setTop (entryFrame m #[(.ref p0), (.int (0 : Int32)), (.int p2)] 3)) t := by
    intro t k
    refine preL3 t ?_
    show SP p e below (T1.setTop (mkF m 31 #[vR p0, vI (0 : Int32), vI p2] [(.int (0 : Int32))])) _
    refine XS.istoreN X1.here hx rfl (hb hby d27_31) rfl (l' := #[vR p0, vI (0 : Int32), vI p2]) rfl ?_
    show SP p e below (T1.setTop (mkF m 32 #[vR p0, vI (0 : Int32), vI p2] [])) _
    refine XS.aloadN X1.here hx rfl (hb hby d27_32) rfl rfl ?_
    show SP p e below (T1.setTop (mkF m 33 #[vR p0, vI (0 : Int32), vI p2] [(.ref p0)])) _
    refine XS.iloadN X1.here hx rfl (hb hby d27_33) rfl  ?_
    show SP p e below (T1.setTop (mkF m 34 #[vR p0, vI (0 : Int32), vI p2] [(.int (0 : Int32)), (.ref p0)])) _
    refine XS.iinc X1.here hx rfl (hb hby d27_34) rfl (l' := #[vR p0, vI (1 : Int32), vI p2]) rfl ?_
    show SP p e below (T1.setTop (mkF m 37 #[vR p0, vI (1 : Int32), vI p2] [(.int (0 : Int32)), (.ref p0)])) _
    refine XS.iloadN X1.here hx rfl (hb hby d27_37) rfl  ?_
    exact k
  obtain ⟨T5, X5, e5, st5⟩ := getS2 X1 hx hZ hown (host := "") (Or.inl (ow hw 123 rfl)) Via.refl e1 S_HI_BYTE_SHIFT (g := (mkF m 38 #[vR p0, vI (1 : Int32), vI p2] [(.int p2), (.int (0 : Int32)), (.ref p0)])) rfl (hb hby d27_38)
  have pre6 : ∀ t, SP p e below (T5.setTop (mkF m 43 #[vR p0, vI (1 : Int32), vI p2] [(.int ((p2 >>> ((0 : Int32) &&& 31)).toInt8.toInt32)), (.int (0 : Int32)), (.ref p0)])) t → SP p e below (s₁.setTop (entryFrame m #[(.ref p0), (.int (0 : Int32)), (.int p2)] 3)) t := by
    intro t k
    refine pre4 t ?_
    show SP p e below (T1.setTop (mkF m 38 #[vR p0, vI (1 : Int32), vI p2] [(.int p2), (.int (0 : Int32)), (.ref p0)])) _
    refine st5 _ ?_
    show SP p e below (T5.setTop (mkF m 41 #[vR p0, vI (1 : Int32), vI p2] [(.int (0 : Int32)), (.int p2), (.int (0 : Int32)), (.ref p0)])) _
    refine XS.ishr X5.here hx rfl (hb hby d27_41) rfl ?_
    show SP p e below (T5.setTop (mkF m 42 #[vR p0, vI (1 : Int32), vI p2] [(.int (p2 >>> ((0 : Int32) &&& 31))), (.int (0 : Int32)), (.ref p0)])) _
    refine XS.i2b X5.here hx rfl (hb hby d27_42) rfl ?_
    exact k
  obtain ⟨T7, h7, X7, e7, W7, A7, st7⟩ := own_stB X5 hx hZ e5 A_p0 (j := (0 : Int32)) (x := ((p2 >>> ((0 : Int32) &&& 31)).toInt8.toInt32)) (k := 0) (by decide) (by decide) (by decide) (g := (mkF m 43 #[vR p0, vI (1 : Int32), vI p2] [(.int ((p2 >>> ((0 : Int32) &&& 31)).toInt8.toInt32)), (.int (0 : Int32)), (.ref p0)])) rfl rfl (hb hby d27_43)
  obtain ⟨g_43, hg_43⟩ : ∃ z : Nat → Int32, z = (own_upd x_ 0 ((p2 >>> ((0 : Int32) &&& 31)).toInt8.toInt32).toInt8.toInt32) := ⟨_, rfl⟩
  rw [← hg_43] at A7
  have st__ass_7 := S__assertionsDisabled.wr W7
  have st_HI_B_7 := S_HI_BYTE_SHIFT.wr W7
  have st_LO_B_7 := S_LO_BYTE_SHIFT.wr W7
  have K7 := K0.wr W7 (Or.inl (List.mem_of_getElem? (i := 0) rfl))
  have Z7 := Nat.le_trans Z0 (Nat.le_of_eq W7.size.symm)
  have N7 := Fr.snoc X7 N0 ge_p0
  have pre8 : ∀ t, SP p e below (T7.setTop (mkF m 47 #[vR p0, vI (1 : Int32), vI p2] [(.int p2), (.int (1 : Int32)), (.ref p0)])) t → SP p e below (s₁.setTop (entryFrame m #[(.ref p0), (.int (0 : Int32)), (.int p2)] 3)) t := by
    intro t k
    refine pre6 t ?_
    show SP p e below (T5.setTop (mkF m 43 #[vR p0, vI (1 : Int32), vI p2] [(.int ((p2 >>> ((0 : Int32) &&& 31)).toInt8.toInt32)), (.int (0 : Int32)), (.ref p0)])) _
    refine st7 _ ?_
    show SP p e below (T7.setTop (mkF m 44 #[vR p0, vI (1 : Int32), vI p2] [])) _
    refine XS.aloadN X7.here hx rfl (hb hby d27_44) rfl rfl ?_
    show SP p e below (T7.setTop (mkF m 45 #[vR p0, vI (1 : Int32), vI p2] [(.ref p0)])) _
    refine XS.iloadN X7.here hx rfl (hb hby d27_45) rfl  ?_
    show SP p e below (T7.setTop (mkF m 46 #[vR p0, vI (1 : Int32), vI p2] [(.int (1 : Int32)), (.ref p0)])) _
    refine XS.iloadN X7.here hx rfl (hb hby d27_46) rfl  ?_
    exact k
  obtain ⟨T9, X9, e9, st9⟩ := getS2 X7 hx hZ hown (host := "") (Or.inl (ow hw 124 rfl)) Via.refl e7 st_LO_B_7 (g := (mkF m 47 #[vR p0, vI (1 : Int32), vI p2] [(.int p2), (.int (1 : Int32)), (.ref p0)])) rfl (hb hby d27_47)
  have pre10 : ∀ t, SP p e below (T9.setTop (mkF m 52 #[vR p0, vI (1 : Int32), vI p2] [(.int ((p2 >>> ((8 : Int32) &&& 31)).toInt8.toInt32)), (.int (1 : Int32)), (.ref p0)])) t → SP p e below (s₁.setTop (entryFrame m #[(.ref p0), (.int (0 : Int32)), (.int p2)] 3)) t := by
    intro t k
    refine pre8 t ?_
    show SP p e below (T7.setTop (mkF m 47 #[vR p0, vI (1 : Int32), vI p2] [(.int p2), (.int (1 : Int32)), (.ref p0)])) _
    refine st9 _ ?_
    show SP p e below (T9.setTop (mkF m 50 #[vR p0, vI (1 : Int32), vI p2] [(.int (8 : Int32)), (.int p2), (.int (1 : Int32)), (.ref p0)])) _
    refine XS.ishr X9.here hx rfl (hb hby d27_50) rfl ?_
    show SP p e below (T9.setTop (mkF m 51 #[vR p0, vI (1 : Int32), vI p2] [(.int (p2 >>> ((8 : Int32) &&& 31))), (.int (1 : Int32)), (.ref p0)])) _
    refine XS.i2b X9.here hx rfl (hb hby d27_51) rfl ?_
    exact k
  obtain ⟨T11, h11, X11, e11, W11, A11, st11⟩ := own_stB X9 hx hZ e9 A7 (j := (1 : Int32)) (x := ((p2 >>> ((8 : Int32) &&& 31)).toInt8.toInt32)) (k := 1) (by decide) (by decide) (by decide) (g := (mkF m 52 #[vR p0, vI (1 : Int32), vI p2] [(.int ((p2 >>> ((8 : Int32) &&& 31)).toInt8.toInt32)), (.int (1 : Int32)), (.ref p0)])) rfl rfl (hb hby d27_52)
  obtain ⟨g_52, hg_52⟩ : ∃ z : Nat → Int32, z = (own_upd g_43 1 ((p2 >>> ((8 : Int32) &&& 31)).toInt8.toInt32).toInt8.toInt32) := ⟨_, rfl⟩
  rw [← hg_52] at A11
  have st__ass_11 := st__ass_7.wr W11
  have st_HI_B_11 := st_HI_B_7.wr W11
  have st_LO_B_11 := st_LO_B_7.wr W11
  have K11 := K7.wr W11 (Or.inl (List.mem_of_getElem? (i := 0) rfl))
  have Z11 := Nat.le_trans Z7 (Nat.le_of_eq W11.size.symm)
  have N11 := Fr.snoc X11 N7 ge_p0
  obtain ⟨fs, hr, hrun, hended, hW, hsame⟩ := X11.leave (v := none) (fun _ => rfl) (BodyLoose.notSynchronized Bd)
  refine ⟨_, _, pre10 _ ?_, hrun, hended, _, _, rfl, ?_, ⟨_, rfl⟩, hW, hsame.mono (by decide) (by decide)⟩
  · show SP p e below (T9.setTop (mkF m 52 #[vR p0, vI (1 : Int32), vI p2] [(.int ((p2 >>> ((8 : Int32) &&& 31)).toInt8.toInt32)), (.int (1 : Int32)), (.ref p0)])) _
    refine st11 _ ?_
    show SP p e below (T11.setTop (mkF m 53 #[vR p0, vI (1 : Int32), vI p2] [])) _
    exact X11.returnOut hx Bd.returns (hb hby d27_53) hr
  · show Q_27b Z p0 p2 x_ h0 n0 _ T11.heap _
    rw [e11]
    have o1 := (by subst hg_43 hg_52; rfl : g_52 = f_27b_1 p2 x_)
    have r1 := A11
    rw [o1] at r1
    exact ⟨rfl, N11, K11, r1⟩
theorem ef_30b (m : MethodId) (p0 : Addr) : entryFrame m #[(.ref p0), (.int (0 : Int32))] 2 = mkF m 0 #[vR p0, vI (0 : Int32)] [] := by first | (simp [entryFrame, mkF, argsToLocals, Value.category]; done) | rfl
def f_30b (x_ : Nat → Int32) : Int32 := (nar .char (f_28b x_))
def Q_30b (Z : State) (p0 : Addr) (x_ : Nat → Int32) (fm_ : Value) (h0 : Heap) (n0 : Nat) (v : Option Value) (h : Heap) (L : List Loc) : Prop := v = some (.int (f_30b x_)) ∧ Fr n0 L ∧ h = h0
theorem rm_30b (l : Launch) (Z : State) (a0 : Array Value) (hw : ∀ d ∈ tables_1, d.before a0 Z = true) (ws : List Jvm.Cond) (p0 : Addr) (x_ : Nat → Int32) (fm_ : Value) (h0 : Heap) (n0 : Nat) (Z0 : n0 ≤ h0.size) (A_p0 : own_A Z h0 p0 .byte 4 (fun i => .int (x_ i))) (S__assertionsDisabled : Sta Z h0 "java/lang/StringUTF16" "$assertionsDisabled" "Z" (.int (1 : Int32))) (S_HI_BYTE_SHIFT : Sta Z h0 "java/lang/StringUTF16" "HI_BYTE_SHIFT" "I" (.int (0 : Int32))) (S_LO_BYTE_SHIFT : Sta Z h0 "java/lang/StringUTF16" "LO_BYTE_SHIFT" "I" (.int (8 : Int32))) (S_SIOOBE_FORMATTER : Sta Z h0 "jdk/internal/util/Preconditions" "SIOOBE_FORMATTER" "Ljava/util/function/BiFunction;" fm_) (hfm : fm_ = Value.null ∨ ∃ a, fm_ = Value.ref a) :
    MetFree l (⟨"java/lang/StringUTF16", "charAt", "([BI)C"⟩ : MethodName) (head1 (Jvm.Cond.code (⟨"java/lang/StringUTF16", "charAt", "([BI)C"⟩ : MethodName) jdk_52_method_83_code 2 (some .char) :: ws) (⟨3, 0, 0, 40⟩ : Room)) (fun a U => a = #[(.ref p0), (.int (0 : Int32))] ∧ Z.Warmed39 U.vm ∧ U.heap = h0) (fun _ _ _ _ _ => True) (fun _ U o U' => ∃ v L, o = .returned v ∧ Q_30b Z p0 x_ fm_ h0 n0 v U'.heap L ∧ FrameEnd U o U' L 0 0) := by
  refine MetFree.of_bodySF (plainFor_of_name pn_30) hisR ?_
  intro p e s m args below meth c s₁ Bd hml0 hP hK
  obtain ⟨rfl, hZ, hh⟩ := hP
  have hx := Bd.exec
  have hby := Bd.bytes
  have hml : c.maxLocals = 2 := hml0
  have hown : s.vm.findClass "java/lang/StringUTF16" = some m.cls := findClass_of_methodNamed Bd.named
  have hnm := (name_of_methodNamed Bd.named Bd.method).1
  have X0 : Stand p l e (⟨3, 0, 0, 40⟩ : Room) s m #[(.ref p0), (.int (0 : Int32))] below meth c s₁ [] 0 0 := Stand.of_body Bd
  have e0 : s₁.heap = h0 := by rw [← hh, Bd.state]; rfl
  have N0 := Fr.nil n0
  have K0 : Keep h0 h0 [] := Keep.refl h0 _
  have pre0 : ∀ t, SP p e below (s₁.setTop (mkF m 0 #[vR p0, vI (0 : Int32)] [])) t → SP p e below (s₁.setTop (entryFrame m #[(.ref p0), (.int (0 : Int32))] 2)) t := fun t k => castTop (ef_30b m p0) k
  have pre2 : ∀ t, SP p e below (s₁.setTop (mkF m 2 #[vR p0, vI (0 : Int32)] [(.ref p0), (.int (0 : Int32))])) t → SP p e below (s₁.setTop (entryFrame m #[(.ref p0), (.int (0 : Int32))] 2)) t := by
    intro t k
    refine pre0 t ?_
    show SP p e below (s₁.setTop (mkF m 0 #[vR p0, vI (0 : Int32)] [])) _
    refine XS.iloadN X0.here hx rfl (hb hby d30_0) rfl  ?_
    show SP p e below (s₁.setTop (mkF m 1 #[vR p0, vI (0 : Int32)] [(.int (0 : Int32))])) _
    refine XS.aloadN X0.here hx rfl (hb hby d30_1) rfl rfl ?_
    exact k
  obtain ⟨_, _, ⟨T1, L1, k1, n1⟩, -, X1, ⟨Lc1, hQ1, l1, y1, z1⟩, st1⟩ := Jvm.LawKit.callS X0 hx (y := (⟨"java/lang/StringUTF16", "checkIndex", "(I[B)V"⟩ : MethodName)) hown (mvT hZ (ow hw 134 rfl)) (mvT hZ (ow hw 135 rfl)) (mvT hZ (ow hw 58 rfl)) (mvT hZ (ow hw 136 rfl)) (by decide) (backOf (W := 0) (rm_31b l Z a0 hw [] p0 x_ fm_ h0 n0 Z0 A_p0 S_SIOOBE_FORMATTER hfm) hZ (ow hw 136 rfl) (ow hw 58 rfl) (by decide) (by decide)) (g := (mkF m 2 #[vR p0, vI (0 : Int32)] [(.ref p0), (.int (0 : Int32))])) rfl (by rw [hml]; rfl) (argsL := [(.int (0 : Int32)), (.ref p0)]) (rest := []) (lenOf pd_4 rfl) rfl own_le0 (hb hby d30_2) (fun _ _ => ⟨rfl, e0, (by decide : 0 + 0 ≤ _), (by decide : 0 + 0 ≤ _)⟩)
  dsimp only [Pt.U, Pt.locs, Pt.cells, Pt.slots] at X1 l1 y1 z1 st1 hQ1
  rw [l1, y1, z1] at X1
  obtain ⟨rfl, N1q, e1⟩ := hQ1
  have N1 := Fr.app N0 N1q
  have pre4 : ∀ t, SP p e below (T1.setTop (mkF m 7 #[vR p0, vI (0 : Int32)] [(.int (0 : Int32)), (.ref p0)])) t → SP p e below (s₁.setTop (entryFrame m #[(.ref p0), (.int (0 : Int32))] 2)) t := by
    intro t k
    refine pre2 t ?_
    show SP p e below (s₁.setTop (mkF m 2 #[vR p0, vI (0 : Int32)] [(.ref p0), (.int (0 : Int32))])) _
    refine st1 _ ?_
    show SP p e below (T1.setTop (mkF m 5 #[vR p0, vI (0 : Int32)] [])) _
    refine XS.aloadN X1.here hx rfl (hb hby d30_5) rfl rfl ?_
    show SP p e below (T1.setTop (mkF m 6 #[vR p0, vI (0 : Int32)] [(.ref p0)])) _
    refine XS.iloadN X1.here hx rfl (hb hby d30_6) rfl  ?_
    exact k
  obtain ⟨_, _, ⟨T3, L3, k3, n3⟩, -, X3, ⟨Lc3, hQ3, l3, y3, z3⟩, st3⟩ := Jvm.LawKit.callS X1 hx (y := (⟨"java/lang/StringUTF16", "getChar", "([BI)C"⟩ : MethodName)) hown (mvT hZ (ow hw 125 rfl)) (mvT hZ (ow hw 126 rfl)) (mvT hZ (ow hw 58 rfl)) (mvT hZ (ow hw 127 rfl)) (by decide) (backOf (W := 0) (rm_28b l Z a0 hw [] p0 x_ h0 n0 Z0 A_p0 S__assertionsDisabled S_HI_BYTE_SHIFT S_LO_BYTE_SHIFT) hZ (ow hw 127 rfl) (ow hw 58 rfl) (by decide) (by decide)) (g := (mkF m 7 #[vR p0, vI (0 : Int32)] [(.int (0 : Int32)), (.ref p0)])) rfl (by rw [hml]; rfl) (argsL := [(.ref p0), (.int (0 : Int32))]) (rest := []) (lenOf pd_5 rfl) rfl own_le0 (hb hby d30_7) (fun _ _ => ⟨rfl, e1, (by decide : 0 + 0 ≤ _), (by decide : 0 + 0 ≤ _)⟩)
  dsimp only [Pt.U, Pt.locs, Pt.cells, Pt.slots] at X3 l3 y3 z3 st3 hQ3
  rw [l3, y3, z3] at X3
  obtain ⟨rfl, N3q, e3⟩ := hQ3
  have N3 := Fr.app N1 N3q
  obtain ⟨fs, hr, hrun, hended, hW, hsame⟩ := X3.leave (v := some (.int (nar .char (f_28b x_)))) (fun h => by rw [Bd.returns] at h; cases h) (BodyLoose.notSynchronized Bd)
  refine ⟨_, _, pre4 _ ?_, hrun, hended, _, _, rfl, ?_, ⟨_, rfl⟩, hW, hsame.mono (by decide) (by decide)⟩
  · show SP p e below (T1.setTop (mkF m 7 #[vR p0, vI (0 : Int32)] [(.int (0 : Int32)), (.ref p0)])) _
    refine st3 _ ?_
    show SP p e below (T3.setTop (mkF m 10 #[vR p0, vI (0 : Int32)] [(.int (f_28b x_))])) _
    exact retN X3 hx (t := .char) Bd.returns (by simp) (hb hby d30_10) hr
  · show Q_30b Z p0 x_ fm_ h0 n0 _ T3.heap _
    rw [e3]
    exact ⟨congrArg (fun z => some (Value.int z)) (by rfl : (nar .char (f_28b x_)) = f_30b x_), N3, rfl⟩
theorem ef_31c (m : MethodId) (p1 : Addr) : entryFrame m #[(.int (1 : Int32)), (.ref p1)] 2 = mkF m 0 #[vI (1 : Int32), vR p1] [] := by first | (simp [entryFrame, mkF, argsToLocals, Value.category]; done) | rfl
def Q_31c (Z : State) (p1 : Addr) (x_ : Nat → Int32) (fm_ : Value) (h0 : Heap) (n0 : Nat) (v : Option Value) (h : Heap) (L : List Loc) : Prop := v = none ∧ Fr n0 L ∧ h = h0
theorem rm_31c (l : Launch) (Z : State) (a0 : Array Value) (hw : ∀ d ∈ tables_1, d.before a0 Z = true) (ws : List Jvm.Cond) (p1 : Addr) (x_ : Nat → Int32) (fm_ : Value) (h0 : Heap) (n0 : Nat) (Z0 : n0 ≤ h0.size) (A_p1 : own_A Z h0 p1 .byte 4 (fun i => .int (x_ i))) (S_SIOOBE_FORMATTER : Sta Z h0 "jdk/internal/util/Preconditions" "SIOOBE_FORMATTER" "Ljava/util/function/BiFunction;" fm_) (hfm : fm_ = Value.null ∨ ∃ a, fm_ = Value.ref a) :
    MetFree l (⟨"java/lang/StringUTF16", "checkIndex", "(I[B)V"⟩ : MethodName) (head1 (Jvm.Cond.code (⟨"java/lang/StringUTF16", "checkIndex", "(I[B)V"⟩ : MethodName) jdk_52_method_91_code 2 none :: ws) (⟨2, 0, 0, 27⟩ : Room)) (fun a U => a = #[(.int (1 : Int32)), (.ref p1)] ∧ Z.Warmed39 U.vm ∧ U.heap = h0) (fun _ _ _ _ _ => True) (fun _ U o U' => ∃ v L, o = .returned v ∧ Q_31c Z p1 x_ fm_ h0 n0 v U'.heap L ∧ FrameEnd U o U' L 0 0) := by
  refine MetFree.of_bodySF (plainFor_of_name pn_31) hisR ?_
  intro p e s m args below meth c s₁ Bd hml0 hP hK
  obtain ⟨rfl, hZ, hh⟩ := hP
  have hx := Bd.exec
  have hby := Bd.bytes
  have hml : c.maxLocals = 2 := hml0
  have hown : s.vm.findClass "java/lang/StringUTF16" = some m.cls := findClass_of_methodNamed Bd.named
  have hnm := (name_of_methodNamed Bd.named Bd.method).1
  have X0 : Stand p l e (⟨2, 0, 0, 27⟩ : Room) s m #[(.int (1 : Int32)), (.ref p1)] below meth c s₁ [] 0 0 := Stand.of_body Bd
  have e0 : s₁.heap = h0 := by rw [← hh, Bd.state]; rfl
  have N0 := Fr.nil n0
  have K0 : Keep h0 h0 [] := Keep.refl h0 _
  have pre0 : ∀ t, SP p e below (s₁.setTop (mkF m 0 #[vI (1 : Int32), vR p1] [])) t → SP p e below (s₁.setTop (entryFrame m #[(.int (1 : Int32)), (.ref p1)] 2)) t := fun t k => castTop (ef_31c m p1) k
  have pre2 : ∀ t, SP p e below (s₁.setTop (mkF m 2 #[vI (1 : Int32), vR p1] [(.ref p1), (.int (1 : Int32))])) t → SP p e below (s₁.setTop (entryFrame m #[(.int (1 : Int32)), (.ref p1)] 2)) t := by
    intro t k
    refine pre0 t ?_
    show SP p e below (s₁.setTop (mkF m 0 #[vI (1 : Int32), vR p1] [])) _
    refine XS.iloadN X0.here hx rfl (hb hby d31_0) rfl  ?_
    show SP p e below (s₁.setTop (mkF m 1 #[vI (1 : Int32), vR p1] [(.int (1 : Int32))])) _
    refine XS.aloadN X0.here hx rfl (hb hby d31_1) rfl rfl ?_
    exact k
  obtain ⟨_, _, ⟨T1, L1, k1, n1⟩, -, X1, ⟨Lc1, hQ1, l1, y1, z1⟩, st1⟩ := Jvm.LawKit.callS X0 hx (y := (⟨"java/lang/StringUTF16", "length", "([B)I"⟩ : MethodName)) hown (mvT hZ (ow hw 137 rfl)) (mvT hZ (ow hw 138 rfl)) (mvT hZ (ow hw 58 rfl)) (mvT hZ (ow hw 139 rfl)) (by decide) (backOf (W := 1) (rm_32n4 l Z a0 hw [] p1 x_ h0 n0 Z0 A_p1) hZ (ow hw 139 rfl) (ow hw 58 rfl) (by decide) (by decide)) (g := (mkF m 2 #[vI (1 : Int32), vR p1] [(.ref p1), (.int (1 : Int32))])) rfl (by rw [hml]; rfl) (argsL := [(.ref p1)]) (rest := [(.int (1 : Int32))]) (lenOf pd_2 rfl) rfl own_le0 (hb hby d31_2) (fun _ _ => ⟨rfl, e0, (by decide : 0 + 0 ≤ _), (by decide : 0 + 0 ≤ _)⟩)
  dsimp only [Pt.U, Pt.locs, Pt.cells, Pt.slots] at X1 l1 y1 z1 st1 hQ1
  rw [l1, y1, z1] at X1
  obtain ⟨rfl, N1q, e1⟩ := hQ1
  have N1 := Fr.app N0 N1q
  have pre4 : ∀ t, SP p e below (T1.setTop (mkF m 5 #[vI (1 : Int32), vR p1] [(.int (f_32n4 x_)), (.int (1 : Int32))])) t → SP p e below (s₁.setTop (entryFrame m #[(.int (1 : Int32)), (.ref p1)] 2)) t := by
    intro t k
    refine pre2 t ?_
    show SP p e below (s₁.setTop (mkF m 2 #[vI (1 : Int32), vR p1] [(.ref p1), (.int (1 : Int32))])) _
    refine st1 _ ?_
    exact k
  obtain ⟨_, _, ⟨T3, L3, k3, n3⟩, -, X3, ⟨Lc3, hQ3, l3, y3, z3⟩, st3⟩ := Jvm.LawKit.callS X1 hx (y := (⟨"java/lang/String", "checkIndex", "(II)V"⟩ : MethodName)) hown (mvT hZ (ow hw 140 rfl)) (mvT hZ (ow hw 100 rfl)) (mvT hZ (ow hw 7 rfl)) (mvT hZ (ow hw 101 rfl)) (by decide) (backOf (W := 0) (rm_22 l Z a0 hw [] (1 : Int32) (f_32n4 x_) fm_ h0 n0 Z0 S_SIOOBE_FORMATTER hfm (by decide) (by decide : (1 : Int32) < (2 : Int32))) hZ (ow hw 101 rfl) (ow hw 7 rfl) (by decide) (by decide)) (g := (mkF m 5 #[vI (1 : Int32), vR p1] [(.int (f_32n4 x_)), (.int (1 : Int32))])) rfl (by rw [hml]; rfl) (argsL := [(.int (1 : Int32)), (.int (f_32n4 x_))]) (rest := []) (lenOf pd_3 rfl) rfl own_le0 (hb hby d31_5) (fun _ _ => ⟨rfl, e1, (by decide : 0 + 0 ≤ _), (by decide : 0 + 0 ≤ _)⟩)
  dsimp only [Pt.U, Pt.locs, Pt.cells, Pt.slots] at X3 l3 y3 z3 st3 hQ3
  rw [l3, y3, z3] at X3
  obtain ⟨rfl, N3q, e3⟩ := hQ3
  have N3 := Fr.app N1 N3q
  obtain ⟨fs, hr, hrun, hended, hW, hsame⟩ := X3.leave (v := none) (fun _ => rfl) (BodyLoose.notSynchronized Bd)
  refine ⟨_, _, pre4 _ ?_, hrun, hended, _, _, rfl, ?_, ⟨_, rfl⟩, hW, hsame.mono (by decide) (by decide)⟩
  · show SP p e below (T1.setTop (mkF m 5 #[vI (1 : Int32), vR p1] [(.int (f_32n4 x_)), (.int (1 : Int32))])) _
    refine st3 _ ?_
    show SP p e below (T3.setTop (mkF m 8 #[vI (1 : Int32), vR p1] [])) _
    exact X3.returnOut hx Bd.returns (hb hby d31_8) hr
  · show Q_31c Z p1 x_ fm_ h0 n0 _ T3.heap _
    rw [e3]
    exact ⟨rfl, N3, rfl⟩
theorem ef_28c (m : MethodId) (p0 : Addr) : entryFrame m #[(.ref p0), (.int (1 : Int32))] 2 = mkF m 0 #[vR p0, vI (1 : Int32)] [] := by first | (simp [entryFrame, mkF, argsToLocals, Value.category]; done) | rfl
def f_28c (x_ : Nat → Int32) : Int32 := (nar .char (((((x_ 2) &&& (255 : Int32)) <<< ((0 : Int32) &&& 31)) ||| (((x_ 3) &&& (255 : Int32)) <<< ((8 : Int32) &&& 31))).toUInt32.toUInt16.toUInt32.toInt32))
def Q_28c (Z : State) (p0 : Addr) (x_ : Nat → Int32) (h0 : Heap) (n0 : Nat) (v : Option Value) (h : Heap) (L : List Loc) : Prop := v = some (.int (f_28c x_)) ∧ Fr n0 L ∧ h = h0
theorem rm_28c (l : Launch) (Z : State) (a0 : Array Value) (hw : ∀ d ∈ tables_1, d.before a0 Z = true) (ws : List Jvm.Cond) (p0 : Addr) (x_ : Nat → Int32) (h0 : Heap) (n0 : Nat) (Z0 : n0 ≤ h0.size) (A_p0 : own_A Z h0 p0 .byte 4 (fun i => .int (x_ i))) (S__assertionsDisabled : Sta Z h0 "java/lang/StringUTF16" "$assertionsDisabled" "Z" (.int (1 : Int32))) (S_HI_BYTE_SHIFT : Sta Z h0 "java/lang/StringUTF16" "HI_BYTE_SHIFT" "I" (.int (0 : Int32))) (S_LO_BYTE_SHIFT : Sta Z h0 "java/lang/StringUTF16" "LO_BYTE_SHIFT" "I" (.int (8 : Int32))) :
    MetFree l (⟨"java/lang/StringUTF16", "getChar", "([BI)C"⟩ : MethodName) (head1 (Jvm.Cond.code (⟨"java/lang/StringUTF16", "getChar", "([BI)C"⟩ : MethodName) jdk_52_method_5_code 2 (some .char) :: ws) (⟨0, 0, 0, 0⟩ : Room)) (fun a U => a = #[(.ref p0), (.int (1 : Int32))] ∧ Z.Warmed39 U.vm ∧ U.heap = h0) (fun _ _ _ _ _ => True) (fun _ U o U' => ∃ v L, o = .returned v ∧ Q_28c Z p0 x_ h0 n0 v U'.heap L ∧ FrameEnd U o U' L 0 0) := by
  refine MetFree.of_bodySF (plainFor_of_name pn_28) hisR ?_
  intro p e s m args below meth c s₁ Bd hml0 hP hK
  obtain ⟨rfl, hZ, hh⟩ := hP
  have hx := Bd.exec
  have hby := Bd.bytes
  have hml : c.maxLocals = 2 := hml0
  have hown : s.vm.findClass "java/lang/StringUTF16" = some m.cls := findClass_of_methodNamed Bd.named
  have hnm := (name_of_methodNamed Bd.named Bd.method).1
  have X0 : Stand p l e (⟨0, 0, 0, 0⟩ : Room) s m #[(.ref p0), (.int (1 : Int32))] below meth c s₁ [] 0 0 := Stand.of_body Bd
  have e0 : s₁.heap = h0 := by rw [← hh, Bd.state]; rfl
  have N0 := Fr.nil n0
  have K0 : Keep h0 h0 [] := Keep.refl h0 _
  have pre0 : ∀ t, SP p e below (s₁.setTop (mkF m 0 #[vR p0, vI (1 : Int32)] [])) t → SP p e below (s₁.setTop (entryFrame m #[(.ref p0), (.int (1 : Int32))] 2)) t := fun t k => castTop (ef_28c m p0) k
  obtain ⟨T1, X1, e1, st1⟩ := getS2 X0 hx hZ hown (host := "") (Or.inl (ow hw 122 rfl)) Via.refl e0 S__assertionsDisabled (g := (mkF m 0 #[vR p0, vI (1 : Int32)] [])) rfl (hb hby d28_0)
  have pre2 : ∀ t, SP p e below (T1.setTop (mkF m 31 #[vR p0, vI (1 : Int32)] [(.int ((1 : Int32) <<< ((1 : Int32) &&& 31)))])) t → SP p e below (s₁.setTop (entryFrame m #[(.ref p0), (.int (1 : Int32))] 2)) t := by
    intro t k
    refine pre0 t ?_
    show SP p e below (s₁.setTop (mkF m 0 #[vR p0, vI (1 : Int32)] [])) _
    refine st1 _ ?_
    show SP p e below (T1.setTop (mkF m 3 #[vR p0, vI (1 : Int32)] [(.int (1 : Int32))])) _
    refine XS.ifYes X1.here hx rfl (pc0 := 3) (pc' := 28) rfl (hb hby d28_3) rfl ((if0 _ _).trans (feq (by decide : ¬ ((1 : Int32) = (0 : Int32)))).2) (by decide) (by decide) ?_
    show SP p e below (T1.setTop (mkF m 28 #[vR p0, vI (1 : Int32)] [])) _
    refine XS.iloadN X1.here hx rfl (hb hby d28_28) rfl  ?_
    show SP p e below (T1.setTop (mkF m 29 #[vR p0, vI (1 : Int32)] [(.int (1 : Int32))])) _
    refine XS.iconst X1.here hx rfl (hb hby d28_29) ?_
    show SP p e below (T1.setTop (mkF m 30 #[vR p0, vI (1 : Int32)] [(.int (1 : Int32)), (.int (1 : Int32))])) _
    refine XS.ishl X1.here hx rfl (hb hby d28_30) rfl ?_
    exact k
  have hl3 : ((1 : Int32) <<< ((1 : Int32) &&& 31)) = (2 : Int32) := by decide
  have preL3 : ∀ t, SP p e below (T1.setTop (mkF m 31 #[vR p0, vI (1 : Int32)] [(.int (2 : Int32))])) t → SP p e below (s₁.setTop (entryFrame m #[(.ref p0), (.int (1 : Int32))] 2)) t := by
    intro t k_
    refine pre2 t ?_
    rw [hl3]
    exact k_
  have pre4 : ∀ t, SP p e below (T1.setTop (mkF m 42 #[vR p0, vI (3 : Int32)] [(.int ((x_ 2) &&& (255 : Int32)))])) t → SP p e below (s₁.setTop (entryFrame m #[(.ref p0), (.int (1 : Int32))] 2)) t := by
    intro t k
    refine preL3 t ?_
    show SP p e below (T1.setTop (mkF m 31 #[vR p0, vI (1 : Int32)] [(.int (2 : Int32))])) _
    refine XS.istoreN X1.here hx rfl (hb hby d28_31) rfl (l' := #[vR p0, vI (2 : Int32)]) rfl ?_
    show SP p e below (T1.setTop (mkF m 32 #[vR p0, vI (2 : Int32)] [])) _
    refine XS.aloadN X1.here hx rfl (hb hby d28_32) rfl rfl ?_
    show SP p e below (T1.setTop (mkF m 33 #[vR p0, vI (2 : Int32)] [(.ref p0)])) _
    refine XS.iloadN X1.here hx rfl (hb hby d28_33) rfl  ?_
    show SP p e below (T1.setTop (mkF m 34 #[vR p0, vI (2 : Int32)] [(.int (2 : Int32)), (.ref p0)])) _
    refine XS.iinc X1.here hx rfl (hb hby d28_34) rfl (l' := #[vR p0, vI (3 : Int32)]) rfl ?_
    show SP p e below (T1.setTop (mkF m 37 #[vR p0, vI (3 : Int32)] [(.int (2 : Int32)), (.ref p0)])) _
    refine own_ldB X1 hx hZ e1 A_p0 (j := (2 : Int32)) (k := 2) (by decide) (by decide) (by decide) (g := (mkF m 37 #[vR p0, vI (3 : Int32)] [(.int (2 : Int32)), (.ref p0)])) rfl rfl (hb hby d28_37) ?_
    show SP p e below (T1.setTop (mkF m 38 #[vR p0, vI (3 : Int32)] [(.int (x_ 2))])) _
    refine XS.sipush X1.here hx rfl (hb hby d28_38) ?_
    show SP p e below (T1.setTop (mkF m 41 #[vR p0, vI (3 : Int32)] [(.int (255 : Int32)), (.int (x_ 2))])) _
    refine XS.iand X1.here hx rfl (hb hby d28_41) rfl ?_
    exact k
  obtain ⟨T5, X5, e5, st5⟩ := getS2 X1 hx hZ hown (host := "") (Or.inl (ow hw 123 rfl)) Via.refl e1 S_HI_BYTE_SHIFT (g := (mkF m 42 #[vR p0, vI (3 : Int32)] [(.int ((x_ 2) &&& (255 : Int32)))])) rfl (hb hby d28_42)
  have pre6 : ∀ t, SP p e below (T5.setTop (mkF m 53 #[vR p0, vI (3 : Int32)] [(.int ((x_ 3) &&& (255 : Int32))), (.int (((x_ 2) &&& (255 : Int32)) <<< ((0 : Int32) &&& 31)))])) t → SP p e below (s₁.setTop (entryFrame m #[(.ref p0), (.int (1 : Int32))] 2)) t := by
    intro t k
    refine pre4 t ?_
    show SP p e below (T1.setTop (mkF m 42 #[vR p0, vI (3 : Int32)] [(.int ((x_ 2) &&& (255 : Int32)))])) _
    refine st5 _ ?_
    show SP p e below (T5.setTop (mkF m 45 #[vR p0, vI (3 : Int32)] [(.int (0 : Int32)), (.int ((x_ 2) &&& (255 : Int32)))])) _
    refine XS.ishl X5.here hx rfl (hb hby d28_45) rfl ?_
    show SP p e below (T5.setTop (mkF m 46 #[vR p0, vI (3 : Int32)] [(.int (((x_ 2) &&& (255 : Int32)) <<< ((0 : Int32) &&& 31)))])) _
    refine XS.aloadN X5.here hx rfl (hb hby d28_46) rfl rfl ?_
    show SP p e below (T5.setTop (mkF m 47 #[vR p0, vI (3 : Int32)] [(.ref p0), (.int (((x_ 2) &&& (255 : Int32)) <<< ((0 : Int32) &&& 31)))])) _
    refine XS.iloadN X5.here hx rfl (hb hby d28_47) rfl  ?_
    show SP p e below (T5.setTop (mkF m 48 #[vR p0, vI (3 : Int32)] [(.int (3 : Int32)), (.ref p0), (.int (((x_ 2) &&& (255 : Int32)) <<< ((0 : Int32) &&& 31)))])) _
    refine own_ldB X5 hx hZ e5 A_p0 (j := (3 : Int32)) (k := 3) (by decide) (by decide) (by decide) (g := (mkF m 48 #[vR p0, vI (3 : Int32)] [(.int (3 : Int32)), (.ref p0), (.int (((x_ 2) &&& (255 : Int32)) <<< ((0 : Int32) &&& 31)))])) rfl rfl (hb hby d28_48) ?_
    show SP p e below (T5.setTop (mkF m 49 #[vR p0, vI (3 : Int32)] [(.int (x_ 3)), (.int (((x_ 2) &&& (255 : Int32)) <<< ((0 : Int32) &&& 31)))])) _
    refine XS.sipush X5.here hx rfl (hb hby d28_49) ?_
    show SP p e below (T5.setTop (mkF m 52 #[vR p0, vI (3 : Int32)] [(.int (255 : Int32)), (.int (x_ 3)), (.int (((x_ 2) &&& (255 : Int32)) <<< ((0 : Int32) &&& 31)))])) _
    refine XS.iand X5.here hx rfl (hb hby d28_52) rfl ?_
    exact k
  obtain ⟨T7, X7, e7, st7⟩ := getS2 X5 hx hZ hown (host := "") (Or.inl (ow hw 124 rfl)) Via.refl e5 S_LO_BYTE_SHIFT (g := (mkF m 53 #[vR p0, vI (3 : Int32)] [(.int ((x_ 3) &&& (255 : Int32))), (.int (((x_ 2) &&& (255 : Int32)) <<< ((0 : Int32) &&& 31)))])) rfl (hb hby d28_53)
  obtain ⟨fs, hr, hrun, hended, hW, hsame⟩ := X7.leave (v := some (.int (nar .char (((((x_ 2) &&& (255 : Int32)) <<< ((0 : Int32) &&& 31)) ||| (((x_ 3) &&& (255 : Int32)) <<< ((8 : Int32) &&& 31))).toUInt32.toUInt16.toUInt32.toInt32)))) (fun h => by rw [Bd.returns] at h; cases h) (BodyLoose.notSynchronized Bd)
  refine ⟨_, _, pre6 _ ?_, hrun, hended, _, _, rfl, ?_, ⟨_, rfl⟩, hW, hsame.mono (by decide) (by decide)⟩
  · show SP p e below (T5.setTop (mkF m 53 #[vR p0, vI (3 : Int32)] [(.int ((x_ 3) &&& (255 : Int32))), (.int (((x_ 2) &&& (255 : Int32)) <<< ((0 : Int32) &&& 31)))])) _
    refine st7 _ ?_
    show SP p e below (T7.setTop (mkF m 56 #[vR p0, vI (3 : Int32)] [(.int (8 : Int32)), (.int ((x_ 3) &&& (255 : Int32))), (.int (((x_ 2) &&& (255 : Int32)) <<< ((0 : Int32) &&& 31)))])) _
    refine XS.ishl X7.here hx rfl (hb hby d28_56) rfl ?_
    show SP p e below (T7.setTop (mkF m 57 #[vR p0, vI (3 : Int32)] [(.int (((x_ 3) &&& (255 : Int32)) <<< ((8 : Int32) &&& 31))), (.int (((x_ 2) &&& (255 : Int32)) <<< ((0 : Int32) &&& 31)))])) _
    refine XS.ior X7.here hx rfl (hb hby d28_57) rfl ?_
    show SP p e below (T7.setTop (mkF m 58 #[vR p0, vI (3 : Int32)] [(.int ((((x_ 2) &&& (255 : Int32)) <<< ((0 : Int32) &&& 31)) ||| (((x_ 3) &&& (255 : Int32)) <<< ((8 : Int32) &&& 31))))])) _
    refine XS.i2c X7.here hx rfl (hb hby d28_58) rfl ?_
    show SP p e below (T7.setTop (mkF m 59 #[vR p0, vI (3 : Int32)] [(.int (((((x_ 2) &&& (255 : Int32)) <<< ((0 : Int32) &&& 31)) ||| (((x_ 3) &&& (255 : Int32)) <<< ((8 : Int32) &&& 31))).toUInt32.toUInt16.toUInt32.toInt32))])) _
    exact retN X7 hx (t := .char) Bd.returns (by simp) (hb hby d28_59) hr
  · show Q_28c Z p0 x_ h0 n0 _ T7.heap _
    rw [e7]
    exact ⟨congrArg (fun z => some (Value.int z)) (by rfl : (nar .char (((((x_ 2) &&& (255 : Int32)) <<< ((0 : Int32) &&& 31)) ||| (((x_ 3) &&& (255 : Int32)) <<< ((8 : Int32) &&& 31))).toUInt32.toUInt16.toUInt32.toInt32)) = f_28c x_), N0, rfl⟩
theorem ef_27c (m : MethodId) (p0 : Addr) (p2 : Int32) : entryFrame m #[(.ref p0), (.int (1 : Int32)), (.int p2)] 3 = mkF m 0 #[vR p0, vI (1 : Int32), vI p2] [] := by first | (simp [entryFrame, mkF, argsToLocals, Value.category]; done) | rfl
def f_27c_1 (p2 : Int32) (x_ : Nat → Int32) : Nat → Int32 := let g_43 : Nat → Int32 := (own_upd x_ 2 ((p2 >>> ((0 : Int32) &&& 31)).toInt8.toInt32).toInt8.toInt32); let g_52 : Nat → Int32 := (own_upd g_43 3 ((p2 >>> ((8 : Int32) &&& 31)).toInt8.toInt32).toInt8.toInt32); g_52
def Q_27c (Z : State) (p0 : Addr) (p2 : Int32) (x_ : Nat → Int32) (h0 : Heap) (n0 : Nat) (v : Option Value) (h : Heap) (L : List Loc) : Prop := v = none ∧ Fr n0 L ∧ Keep h0 h [p0] ∧ own_A Z h p0 .byte 4 (fun i => .int ((f_27c_1 p2 x_) i))
theorem rm_27c (l : Launch) (Z : State) (a0 : Array Value) (hw : ∀ d ∈ tables_1, d.before a0 Z = true) (ws : List Jvm.Cond) (p0 : Addr) (p2 : Int32) (x_ : Nat → Int32) (h0 : Heap) (n0 : Nat) (Z0 : n0 ≤ h0.size) (A_p0 : own_A Z h0 p0 .byte 4 (fun i => .int (x_ i))) (ge_p0 : n0 ≤ p0) (S__assertionsDisabled : Sta Z h0 "java/lang/StringUTF16" "$assertionsDisabled" "Z" (.int (1 : Int32))) (S_HI_BYTE_SHIFT : Sta Z h0 "java/lang/StringUTF16" "HI_BYTE_SHIFT" "I" (.int (0 : Int32))) (S_LO_BYTE_SHIFT : Sta Z h0 "java/lang/StringUTF16" "LO_BYTE_SHIFT" "I" (.int (8 : Int32))) :
    MetFree l (⟨"java/lang/StringUTF16", "putChar", "([BII)V"⟩ : MethodName) (head1 (Jvm.Cond.code (⟨"java/lang/StringUTF16", "putChar", "([BII)V"⟩ : MethodName) jdk_52_method_4_code 3 none :: ws) (⟨0, 0, 0, 0⟩ : Room)) (fun a U => a = #[(.ref p0), (.int (1 : Int32)), (.int p2)] ∧ Z.Warmed39 U.vm ∧ U.heap = h0) (fun _ _ _ _ _ => True) (fun _ U o U' => ∃ v L, o = .returned v ∧ Q_27c Z p0 p2 x_ h0 n0 v U'.heap L ∧ FrameEnd U o U' L 0 0) := by
  refine MetFree.of_bodySF (plainFor_of_name pn_27) hisR ?_
  intro p e s m args below meth c s₁ Bd hml0 hP hK
  obtain ⟨rfl, hZ, hh⟩ := hP
  have hx := Bd.exec
  have hby := Bd.bytes
  have hml : c.maxLocals = 3 := hml0
  have hown : s.vm.findClass "java/lang/StringUTF16" = some m.cls := findClass_of_methodNamed Bd.named
  have hnm := (name_of_methodNamed Bd.named Bd.method).1
  have X0 : Stand p l e (⟨0, 0, 0, 0⟩ : Room) s m #[(.ref p0), (.int (1 : Int32)), (.int p2)] below meth c s₁ [] 0 0 := Stand.of_body Bd
  have e0 : s₁.heap = h0 := by rw [← hh, Bd.state]; rfl
  have N0 := Fr.nil n0
  have K0 : Keep h0 h0 [p0] := Keep.refl h0 _
  have pre0 : ∀ t, SP p e below (s₁.setTop (mkF m 0 #[vR p0, vI (1 : Int32), vI p2] [])) t → SP p e below (s₁.setTop (entryFrame m #[(.ref p0), (.int (1 : Int32)), (.int p2)] 3)) t := fun t k => castTop (ef_27c m p0 p2) k
  obtain ⟨T1, X1, e1, st1⟩ := getS2 X0 hx hZ hown (host := "") (Or.inl (ow hw 122 rfl)) Via.refl e0 S__assertionsDisabled (g := (mkF m 0 #[vR p0, vI (1 : Int32), vI p2] [])) rfl (hb hby d27_0)
  have pre2 : ∀ t, SP p e below (T1.setTop (mkF m 31 #[vR p0, vI (1 : Int32), vI p2] [(.int ((1 : Int32) <<< ((1 : Int32) &&& 31)))])) t → SP p e below (s₁.setTop (entryFrame m #[(.ref p0), (.int (1 : Int32)), (.int p2)] 3)) t := by
    intro t k
    refine pre0 t ?_
    show SP p e below (s₁.setTop (mkF m 0 #[vR p0, vI (1 : Int32), vI p2] [])) _
    refine st1 _ ?_
    show SP p e below (T1.setTop (mkF m 3 #[vR p0, vI (1 : Int32), vI p2] [(.int (1 : Int32))])) _
    refine XS.ifYes X1.here hx rfl (pc0 := 3) (pc' := 28) rfl (hb hby d27_3) rfl ((if0 _ _).trans (feq (by decide : ¬ ((1 : Int32) = (0 : Int32)))).2) (by decide) (by decide) ?_
    show SP p e below (T1.setTop (mkF m 28 #[vR p0, vI (1 : Int32), vI p2] [])) _
    refine XS.iloadN X1.here hx rfl (hb hby d27_28) rfl  ?_
    show SP p e below (T1.setTop (mkF m 29 #[vR p0, vI (1 : Int32), vI p2] [(.int (1 : Int32))])) _
    refine XS.iconst X1.here hx rfl (hb hby d27_29) ?_
    show SP p e below (T1.setTop (mkF m 30 #[vR p0, vI (1 : Int32), vI p2] [(.int (1 : Int32)), (.int (1 : Int32))])) _
    refine XS.ishl X1.here hx rfl (hb hby d27_30) rfl ?_
    exact k
  have hl3 : ((1 : Int32) <<< ((1 : Int32) &&& 31)) = (2 : Int32) := by decide
  have preL3 : ∀ t, SP p e below (T1.setTop (mkF m 31 #[vR p0, vI (1 : Int32), vI p2] [(.int (2 : Int32))])) t → SP p e below (s₁.setTop (entryFrame m #[(.ref p0), (.int (1 : Int32)), (.int p2)] 3)) t := by
    intro t k_
    refine pre2 t ?_
    rw [hl3]
    exact k_
  have pre4 : ∀ t, SP p e below (T1.setTop (mkF m 38 #[vR p0, vI (3 : Int32), vI p2] [(.int p2), (.int (2 : Int32)), (.ref p0)])) t → SP p e below (s₁.setTop (entryFrame m #[(.ref p0), (.int (1 : Int32)), (.int p2)] 3)) t := by
    intro t k
    refine preL3 t ?_
    show SP p e below (T1.setTop (mkF m 31 #[vR p0, vI (1 : Int32), vI p2] [(.int (2 : Int32))])) _
    refine XS.istoreN X1.here hx rfl (hb hby d27_31) rfl (l' := #[vR p0, vI (2 : Int32), vI p2]) rfl ?_
    show SP p e below (T1.setTop (mkF m 32 #[vR p0, vI (2 : Int32), vI p2] [])) _
    refine XS.aloadN X1.here hx rfl (hb hby d27_32) rfl rfl ?_
    show SP p e below (T1.setTop (mkF m 33 #[vR p0, vI (2 : Int32), vI p2] [(.ref p0)])) _
    refine XS.iloadN X1.here hx rfl (hb hby d27_33) rfl  ?_
    show SP p e below (T1.setTop (mkF m 34 #[vR p0, vI (2 : Int32), vI p2] [(.int (2 : Int32)), (.ref p0)])) _
    refine XS.iinc X1.here hx rfl (hb hby d27_34) rfl (l' := #[vR p0, vI (3 : Int32), vI p2]) rfl ?_
    show SP p e below (T1.setTop (mkF m 37 #[vR p0, vI (3 : Int32), vI p2] [(.int (2 : Int32)), (.ref p0)])) _
    refine XS.iloadN X1.here hx rfl (hb hby d27_37) rfl  ?_
    exact k
  obtain ⟨T5, X5, e5, st5⟩ := getS2 X1 hx hZ hown (host := "") (Or.inl (ow hw 123 rfl)) Via.refl e1 S_HI_BYTE_SHIFT (g := (mkF m 38 #[vR p0, vI (3 : Int32), vI p2] [(.int p2), (.int (2 : Int32)), (.ref p0)])) rfl (hb hby d27_38)
  have pre6 : ∀ t, SP p e below (T5.setTop (mkF m 43 #[vR p0, vI (3 : Int32), vI p2] [(.int ((p2 >>> ((0 : Int32) &&& 31)).toInt8.toInt32)), (.int (2 : Int32)), (.ref p0)])) t → SP p e below (s₁.setTop (entryFrame m #[(.ref p0), (.int (1 : Int32)), (.int p2)] 3)) t := by
    intro t k
    refine pre4 t ?_
    show SP p e below (T1.setTop (mkF m 38 #[vR p0, vI (3 : Int32), vI p2] [(.int p2), (.int (2 : Int32)), (.ref p0)])) _
    refine st5 _ ?_
    show SP p e below (T5.setTop (mkF m 41 #[vR p0, vI (3 : Int32), vI p2] [(.int (0 : Int32)), (.int p2), (.int (2 : Int32)), (.ref p0)])) _
    refine XS.ishr X5.here hx rfl (hb hby d27_41) rfl ?_
    show SP p e below (T5.setTop (mkF m 42 #[vR p0, vI (3 : Int32), vI p2] [(.int (p2 >>> ((0 : Int32) &&& 31))), (.int (2 : Int32)), (.ref p0)])) _
    refine XS.i2b X5.here hx rfl (hb hby d27_42) rfl ?_
    exact k
  obtain ⟨T7, h7, X7, e7, W7, A7, st7⟩ := own_stB X5 hx hZ e5 A_p0 (j := (2 : Int32)) (x := ((p2 >>> ((0 : Int32) &&& 31)).toInt8.toInt32)) (k := 2) (by decide) (by decide) (by decide) (g := (mkF m 43 #[vR p0, vI (3 : Int32), vI p2] [(.int ((p2 >>> ((0 : Int32) &&& 31)).toInt8.toInt32)), (.int (2 : Int32)), (.ref p0)])) rfl rfl (hb hby d27_43)
  obtain ⟨g_43, hg_43⟩ : ∃ z : Nat → Int32, z = (own_upd x_ 2 ((p2 >>> ((0 : Int32) &&& 31)).toInt8.toInt32).toInt8.toInt32) := ⟨_, rfl⟩
  rw [← hg_43] at A7
  have st__ass_7 := S__assertionsDisabled.wr W7
  have st_HI_B_7 := S_HI_BYTE_SHIFT.wr W7
  have st_LO_B_7 := S_LO_BYTE_SHIFT.wr W7
  have K7 := K0.wr W7 (Or.inl (List.mem_of_getElem? (i := 0) rfl))
  have Z7 := Nat.le_trans Z0 (Nat.le_of_eq W7.size.symm)
  have N7 := Fr.snoc X7 N0 ge_p0
  have pre8 : ∀ t, SP p e below (T7.setTop (mkF m 47 #[vR p0, vI (3 : Int32), vI p2] [(.int p2), (.int (3 : Int32)), (.ref p0)])) t → SP p e below (s₁.setTop (entryFrame m #[(.ref p0), (.int (1 : Int32)), (.int p2)] 3)) t := by
    intro t k
    refine pre6 t ?_
    show SP p e below (T5.setTop (mkF m 43 #[vR p0, vI (3 : Int32), vI p2] [(.int ((p2 >>> ((0 : Int32) &&& 31)).toInt8.toInt32)), (.int (2 : Int32)), (.ref p0)])) _
    refine st7 _ ?_
    show SP p e below (T7.setTop (mkF m 44 #[vR p0, vI (3 : Int32), vI p2] [])) _
    refine XS.aloadN X7.here hx rfl (hb hby d27_44) rfl rfl ?_
    show SP p e below (T7.setTop (mkF m 45 #[vR p0, vI (3 : Int32), vI p2] [(.ref p0)])) _
    refine XS.iloadN X7.here hx rfl (hb hby d27_45) rfl  ?_
    show SP p e below (T7.setTop (mkF m 46 #[vR p0, vI (3 : Int32), vI p2] [(.int (3 : Int32)), (.ref p0)])) _
    refine XS.iloadN X7.here hx rfl (hb hby d27_46) rfl  ?_
    exact k
  obtain ⟨T9, X9, e9, st9⟩ := getS2 X7 hx hZ hown (host := "") (Or.inl (ow hw 124 rfl)) Via.refl e7 st_LO_B_7 (g := (mkF m 47 #[vR p0, vI (3 : Int32), vI p2] [(.int p2), (.int (3 : Int32)), (.ref p0)])) rfl (hb hby d27_47)
  have pre10 : ∀ t, SP p e below (T9.setTop (mkF m 52 #[vR p0, vI (3 : Int32), vI p2] [(.int ((p2 >>> ((8 : Int32) &&& 31)).toInt8.toInt32)), (.int (3 : Int32)), (.ref p0)])) t → SP p e below (s₁.setTop (entryFrame m #[(.ref p0), (.int (1 : Int32)), (.int p2)] 3)) t := by
    intro t k
    refine pre8 t ?_
    show SP p e below (T7.setTop (mkF m 47 #[vR p0, vI (3 : Int32), vI p2] [(.int p2), (.int (3 : Int32)), (.ref p0)])) _
    refine st9 _ ?_
    show SP p e below (T9.setTop (mkF m 50 #[vR p0, vI (3 : Int32), vI p2] [(.int (8 : Int32)), (.int p2), (.int (3 : Int32)), (.ref p0)])) _
    refine XS.ishr X9.here hx rfl (hb hby d27_50) rfl ?_
    show SP p e below (T9.setTop (mkF m 51 #[vR p0, vI (3 : Int32), vI p2] [(.int (p2 >>> ((8 : Int32) &&& 31))), (.int (3 : Int32)), (.ref p0)])) _
    refine XS.i2b X9.here hx rfl (hb hby d27_51) rfl ?_
    exact k
  obtain ⟨T11, h11, X11, e11, W11, A11, st11⟩ := own_stB X9 hx hZ e9 A7 (j := (3 : Int32)) (x := ((p2 >>> ((8 : Int32) &&& 31)).toInt8.toInt32)) (k := 3) (by decide) (by decide) (by decide) (g := (mkF m 52 #[vR p0, vI (3 : Int32), vI p2] [(.int ((p2 >>> ((8 : Int32) &&& 31)).toInt8.toInt32)), (.int (3 : Int32)), (.ref p0)])) rfl rfl (hb hby d27_52)
  obtain ⟨g_52, hg_52⟩ : ∃ z : Nat → Int32, z = (own_upd g_43 3 ((p2 >>> ((8 : Int32) &&& 31)).toInt8.toInt32).toInt8.toInt32) := ⟨_, rfl⟩
  rw [← hg_52] at A11
  have st__ass_11 := st__ass_7.wr W11
  have st_HI_B_11 := st_HI_B_7.wr W11
  have st_LO_B_11 := st_LO_B_7.wr W11
  have K11 := K7.wr W11 (Or.inl (List.mem_of_getElem? (i := 0) rfl))
  have Z11 := Nat.le_trans Z7 (Nat.le_of_eq W11.size.symm)
  have N11 := Fr.snoc X11 N7 ge_p0
  obtain ⟨fs, hr, hrun, hended, hW, hsame⟩ := X11.leave (v := none) (fun _ => rfl) (BodyLoose.notSynchronized Bd)
  refine ⟨_, _, pre10 _ ?_, hrun, hended, _, _, rfl, ?_, ⟨_, rfl⟩, hW, hsame.mono (by decide) (by decide)⟩
  · show SP p e below (T9.setTop (mkF m 52 #[vR p0, vI (3 : Int32), vI p2] [(.int ((p2 >>> ((8 : Int32) &&& 31)).toInt8.toInt32)), (.int (3 : Int32)), (.ref p0)])) _
    refine st11 _ ?_
    show SP p e below (T11.setTop (mkF m 53 #[vR p0, vI (3 : Int32), vI p2] [])) _
    exact X11.returnOut hx Bd.returns (hb hby d27_53) hr
  · show Q_27c Z p0 p2 x_ h0 n0 _ T11.heap _
    rw [e11]
    have o1 := (by subst hg_43 hg_52; rfl : g_52 = f_27c_1 p2 x_)
    have r1 := A11
    rw [o1] at r1
    exact ⟨rfl, N11, K11, r1⟩
theorem ef_30c (m : MethodId) (p0 : Addr) : entryFrame m #[(.ref p0), (.int (1 : Int32))] 2 = mkF m 0 #[vR p0, vI (1 : Int32)] [] := by first | (simp [entryFrame, mkF, argsToLocals, Value.category]; done) | rfl
def f_30c (x_ : Nat → Int32) : Int32 := (nar .char (f_28c x_))
def Q_30c (Z : State) (p0 : Addr) (x_ : Nat → Int32) (fm_ : Value) (h0 : Heap) (n0 : Nat) (v : Option Value) (h : Heap) (L : List Loc) : Prop := v = some (.int (f_30c x_)) ∧ Fr n0 L ∧ h = h0
theorem rm_30c (l : Launch) (Z : State) (a0 : Array Value) (hw : ∀ d ∈ tables_1, d.before a0 Z = true) (ws : List Jvm.Cond) (p0 : Addr) (x_ : Nat → Int32) (fm_ : Value) (h0 : Heap) (n0 : Nat) (Z0 : n0 ≤ h0.size) (A_p0 : own_A Z h0 p0 .byte 4 (fun i => .int (x_ i))) (S__assertionsDisabled : Sta Z h0 "java/lang/StringUTF16" "$assertionsDisabled" "Z" (.int (1 : Int32))) (S_HI_BYTE_SHIFT : Sta Z h0 "java/lang/StringUTF16" "HI_BYTE_SHIFT" "I" (.int (0 : Int32))) (S_LO_BYTE_SHIFT : Sta Z h0 "java/lang/StringUTF16" "LO_BYTE_SHIFT" "I" (.int (8 : Int32))) (S_SIOOBE_FORMATTER : Sta Z h0 "jdk/internal/util/Preconditions" "SIOOBE_FORMATTER" "Ljava/util/function/BiFunction;" fm_) (hfm : fm_ = Value.null ∨ ∃ a, fm_ = Value.ref a) :
    MetFree l (⟨"java/lang/StringUTF16", "charAt", "([BI)C"⟩ : MethodName) (head1 (Jvm.Cond.code (⟨"java/lang/StringUTF16", "charAt", "([BI)C"⟩ : MethodName) jdk_52_method_83_code 2 (some .char) :: ws) (⟨3, 0, 0, 40⟩ : Room)) (fun a U => a = #[(.ref p0), (.int (1 : Int32))] ∧ Z.Warmed39 U.vm ∧ U.heap = h0) (fun _ _ _ _ _ => True) (fun _ U o U' => ∃ v L, o = .returned v ∧ Q_30c Z p0 x_ fm_ h0 n0 v U'.heap L ∧ FrameEnd U o U' L 0 0) := by
  refine MetFree.of_bodySF (plainFor_of_name pn_30) hisR ?_
  intro p e s m args below meth c s₁ Bd hml0 hP hK
  obtain ⟨rfl, hZ, hh⟩ := hP
  have hx := Bd.exec
  have hby := Bd.bytes
  have hml : c.maxLocals = 2 := hml0
  have hown : s.vm.findClass "java/lang/StringUTF16" = some m.cls := findClass_of_methodNamed Bd.named
  have hnm := (name_of_methodNamed Bd.named Bd.method).1
  have X0 : Stand p l e (⟨3, 0, 0, 40⟩ : Room) s m #[(.ref p0), (.int (1 : Int32))] below meth c s₁ [] 0 0 := Stand.of_body Bd
  have e0 : s₁.heap = h0 := by rw [← hh, Bd.state]; rfl
  have N0 := Fr.nil n0
  have K0 : Keep h0 h0 [] := Keep.refl h0 _
  have pre0 : ∀ t, SP p e below (s₁.setTop (mkF m 0 #[vR p0, vI (1 : Int32)] [])) t → SP p e below (s₁.setTop (entryFrame m #[(.ref p0), (.int (1 : Int32))] 2)) t := fun t k => castTop (ef_30c m p0) k
  have pre2 : ∀ t, SP p e below (s₁.setTop (mkF m 2 #[vR p0, vI (1 : Int32)] [(.ref p0), (.int (1 : Int32))])) t → SP p e below (s₁.setTop (entryFrame m #[(.ref p0), (.int (1 : Int32))] 2)) t := by
    intro t k
    refine pre0 t ?_
    show SP p e below (s₁.setTop (mkF m 0 #[vR p0, vI (1 : Int32)] [])) _
    refine XS.iloadN X0.here hx rfl (hb hby d30_0) rfl  ?_
    show SP p e below (s₁.setTop (mkF m 1 #[vR p0, vI (1 : Int32)] [(.int (1 : Int32))])) _
    refine XS.aloadN X0.here hx rfl (hb hby d30_1) rfl rfl ?_
    exact k
  obtain ⟨_, _, ⟨T1, L1, k1, n1⟩, -, X1, ⟨Lc1, hQ1, l1, y1, z1⟩, st1⟩ := Jvm.LawKit.callS X0 hx (y := (⟨"java/lang/StringUTF16", "checkIndex", "(I[B)V"⟩ : MethodName)) hown (mvT hZ (ow hw 134 rfl)) (mvT hZ (ow hw 135 rfl)) (mvT hZ (ow hw 58 rfl)) (mvT hZ (ow hw 136 rfl)) (by decide) (backOf (W := 0) (rm_31c l Z a0 hw [] p0 x_ fm_ h0 n0 Z0 A_p0 S_SIOOBE_FORMATTER hfm) hZ (ow hw 136 rfl) (ow hw 58 rfl) (by decide) (by decide)) (g := (mkF m 2 #[vR p0, vI (1 : Int32)] [(.ref p0), (.int (1 : Int32))])) rfl (by rw [hml]; rfl) (argsL := [(.int (1 : Int32)), (.ref p0)]) (rest := []) (lenOf pd_4 rfl) rfl own_le0 (hb hby d30_2) (fun _ _ => ⟨rfl, e0, (by decide : 0 + 0 ≤ _), (by decide : 0 + 0 ≤ _)⟩)
  dsimp only [Pt.U, Pt.locs, Pt.cells, Pt.slots] at X1 l1 y1 z1 st1 hQ1
  rw [l1, y1, z1] at X1
  obtain ⟨rfl, N1q, e1⟩ := hQ1
  have N1 := Fr.app N0 N1q
  have pre4 : ∀ t, SP p e below (T1.setTop (mkF m 7 #[vR p0, vI (1 : Int32)] [(.int (1 : Int32)), (.ref p0)])) t → SP p e below (s₁.setTop (entryFrame m #[(.ref p0), (.int (1 : Int32))] 2)) t := by
    intro t k
    refine pre2 t ?_
    show SP p e below (s₁.setTop (mkF m 2 #[vR p0, vI (1 : Int32)] [(.ref p0), (.int (1 : Int32))])) _
    refine st1 _ ?_
    show SP p e below (T1.setTop (mkF m 5 #[vR p0, vI (1 : Int32)] [])) _
    refine XS.aloadN X1.here hx rfl (hb hby d30_5) rfl rfl ?_
    show SP p e below (T1.setTop (mkF m 6 #[vR p0, vI (1 : Int32)] [(.ref p0)])) _
    refine XS.iloadN X1.here hx rfl (hb hby d30_6) rfl  ?_
    exact k
  obtain ⟨_, _, ⟨T3, L3, k3, n3⟩, -, X3, ⟨Lc3, hQ3, l3, y3, z3⟩, st3⟩ := Jvm.LawKit.callS X1 hx (y := (⟨"java/lang/StringUTF16", "getChar", "([BI)C"⟩ : MethodName)) hown (mvT hZ (ow hw 125 rfl)) (mvT hZ (ow hw 126 rfl)) (mvT hZ (ow hw 58 rfl)) (mvT hZ (ow hw 127 rfl)) (by decide) (backOf (W := 0) (rm_28c l Z a0 hw [] p0 x_ h0 n0 Z0 A_p0 S__assertionsDisabled S_HI_BYTE_SHIFT S_LO_BYTE_SHIFT) hZ (ow hw 127 rfl) (ow hw 58 rfl) (by decide) (by decide)) (g := (mkF m 7 #[vR p0, vI (1 : Int32)] [(.int (1 : Int32)), (.ref p0)])) rfl (by rw [hml]; rfl) (argsL := [(.ref p0), (.int (1 : Int32))]) (rest := []) (lenOf pd_5 rfl) rfl own_le0 (hb hby d30_7) (fun _ _ => ⟨rfl, e1, (by decide : 0 + 0 ≤ _), (by decide : 0 + 0 ≤ _)⟩)
  dsimp only [Pt.U, Pt.locs, Pt.cells, Pt.slots] at X3 l3 y3 z3 st3 hQ3
  rw [l3, y3, z3] at X3
  obtain ⟨rfl, N3q, e3⟩ := hQ3
  have N3 := Fr.app N1 N3q
  obtain ⟨fs, hr, hrun, hended, hW, hsame⟩ := X3.leave (v := some (.int (nar .char (f_28c x_)))) (fun h => by rw [Bd.returns] at h; cases h) (BodyLoose.notSynchronized Bd)
  refine ⟨_, _, pre4 _ ?_, hrun, hended, _, _, rfl, ?_, ⟨_, rfl⟩, hW, hsame.mono (by decide) (by decide)⟩
  · show SP p e below (T1.setTop (mkF m 7 #[vR p0, vI (1 : Int32)] [(.int (1 : Int32)), (.ref p0)])) _
    refine st3 _ ?_
    show SP p e below (T3.setTop (mkF m 10 #[vR p0, vI (1 : Int32)] [(.int (f_28c x_))])) _
    exact retN X3 hx (t := .char) Bd.returns (by simp) (hb hby d30_10) hr
  · show Q_30c Z p0 x_ fm_ h0 n0 _ T3.heap _
    rw [e3]
    exact ⟨congrArg (fun z => some (Value.int z)) (by rfl : (nar .char (f_28c x_)) = f_30c x_), N3, rfl⟩
theorem pd_6 : parseMethodDescriptor "([BII)V" = some ⟨[(.array .byte), .int, .int], none⟩ := by decide +kernel
theorem d29_0 : decode jdk_52_method_24_code 0 = .ok (.iconst 2, 1) := by decide +kernel
theorem d29_1 : decode jdk_52_method_24_code 1 = .ok (.newarray .byte, 2) := by decide +kernel
theorem d29_3 : decode jdk_52_method_24_code 3 = .ok (.astore_n 1, 1) := by decide +kernel
theorem d29_4 : decode jdk_52_method_24_code 4 = .ok (.aload_n 1, 1) := by decide +kernel
theorem d29_5 : decode jdk_52_method_24_code 5 = .ok (.iconst 0, 1) := by decide +kernel
theorem d29_6 : decode jdk_52_method_24_code 6 = .ok (.iload_n 0, 1) := by decide +kernel
theorem d29_7 : decode jdk_52_method_24_code 7 = .ok (.invokestatic 111, 3) := by decide +kernel
theorem d29_10 : decode jdk_52_method_24_code 10 = .ok (.aload_n 1, 1) := by decide +kernel
theorem d29_11 : decode jdk_52_method_24_code 11 = .ok (.areturn, 1) := by decide +kernel
theorem pn_29 : plainName "java/lang/StringUTF16" = true := by first | (simp [plainName, overriddenIn]; done) | decide +kernel
theorem ef_29 (m : MethodId) (p0 : Int32) : entryFrame m #[(.int p0)] 2 = mkF m 0 #[vI p0, .unset] [] := by first | (simp [entryFrame, mkF, argsToLocals, Value.category]; done) | rfl
def f_29_1 (p0 : Int32) : Nat → Int32 := (f_27a_1 p0 own_zI)
def Q_29 (Z : State) (p0 : Int32)  (h0 : Heap) (n0 : Nat) (v : Option Value) (h : Heap) (L : List Loc) : Prop := ∃ r : Addr, v = some (.ref r) ∧ Fr n0 L ∧ h0.size ≤ r ∧ Keep h0 h [] ∧ own_A Z h r .byte 2 (fun i => .int ((f_29_1 p0) i))
theorem rm_29 (l : Launch) (Z : State) (a0 : Array Value) (hw : ∀ d ∈ tables_1, d.before a0 Z = true) (ws : List Jvm.Cond) (p0 : Int32)  (h0 : Heap) (n0 : Nat) (Z0 : n0 ≤ h0.size) (S__assertionsDisabled : Sta Z h0 "java/lang/StringUTF16" "$assertionsDisabled" "Z" (.int (1 : Int32))) (S_HI_BYTE_SHIFT : Sta Z h0 "java/lang/StringUTF16" "HI_BYTE_SHIFT" "I" (.int (0 : Int32))) (S_LO_BYTE_SHIFT : Sta Z h0 "java/lang/StringUTF16" "LO_BYTE_SHIFT" "I" (.int (8 : Int32))) :
    MetFree l (⟨"java/lang/StringUTF16", "toBytes", "(C)[B"⟩ : MethodName) (head1 (Jvm.Cond.code (⟨"java/lang/StringUTF16", "toBytes", "(C)[B"⟩ : MethodName) jdk_52_method_24_code 2 (some (.array .byte)) :: ws) (⟨1, 1, 2, 14⟩ : Room)) (fun a U => a = #[(.int p0)] ∧ Z.Warmed39 U.vm ∧ U.heap = h0) (fun _ _ _ _ _ => True) (fun _ U o U' => ∃ v L, o = .returned v ∧ Q_29 Z p0 h0 n0 v U'.heap L ∧ FrameEnd U o U' L 1 2) := by
  refine MetFree.of_bodySF (plainFor_of_name pn_29) hisR ?_
  intro p e s m args below meth c s₁ Bd hml0 hP hK
  obtain ⟨rfl, hZ, hh⟩ := hP
  have hx := Bd.exec
  have hby := Bd.bytes
  have hml : c.maxLocals = 2 := hml0
  have hown : s.vm.findClass "java/lang/StringUTF16" = some m.cls := findClass_of_methodNamed Bd.named
  have hnm := (name_of_methodNamed Bd.named Bd.method).1
  have X0 : Stand p l e (⟨1, 1, 2, 14⟩ : Room) s m #[(.int p0)] below meth c s₁ [] 0 0 := Stand.of_body Bd
  have e0 : s₁.heap = h0 := by rw [← hh, Bd.state]; rfl
  have N0 := Fr.nil n0
  have K0 : Keep h0 h0 [] := Keep.refl h0 _
  have pre0 : ∀ t, SP p e below (s₁.setTop (mkF m 0 #[vI p0, .unset] [])) t → SP p e below (s₁.setTop (entryFrame m #[(.int p0)] 2)) t := fun t k => castTop (ef_29 m p0) k
  have pre1 : ∀ t, SP p e below (s₁.setTop (mkF m 1 #[vI p0, .unset] [(.int (2 : Int32))])) t → SP p e below (s₁.setTop (entryFrame m #[(.int p0)] 2)) t := by
    intro t k
    refine pre0 t ?_
    show SP p e below (s₁.setTop (mkF m 0 #[vI p0, .unset] [])) _
    refine XS.iconst X0.here hx rfl (hb hby d29_0) ?_
    exact k
  obtain ⟨T2, h2, b2, gb2, X2, e2, E2, A2, st2⟩ := own_newP X0 hx hZ (ow hw 20 rfl) e0 (g := (mkF m 1 #[vI p0, .unset] [(.int (2 : Int32))])) rfl (hb hby d29_1) rfl (by decide) (n := 2) rfl (G := fun i => .int (own_zI i)) (fun _ => rfl) (cap := 2) (by decide) (by decide) (by decide) (by decide)
  have sz_b2 : h0.size ≤ b2 := Nat.le_trans K0.1 (Nat.le_of_eq gb2.symm)
  have ge_b2 : n0 ≤ b2 := Nat.le_trans Z0 (Nat.le_of_eq gb2.symm)
  have st__ass_2 := S__assertionsDisabled.ext E2
  have st_HI_B_2 := S_HI_BYTE_SHIFT.ext E2
  have st_LO_B_2 := S_LO_BYTE_SHIFT.ext E2
  have K2 := K0.ext E2
  have Z2 := Nat.le_trans Z0 E2.1
  have pre4 : ∀ t, SP p e below (T2.setTop (mkF m 7 #[vI p0, vR b2] [(.int p0), (.int (0 : Int32)), (.ref b2)])) t → SP p e below (s₁.setTop (entryFrame m #[(.int p0)] 2)) t := by
    intro t k
    refine pre1 t ?_
    show SP p e below (s₁.setTop (mkF m 1 #[vI p0, .unset] [(.int (2 : Int32))])) _
    refine st2 _ ?_
    show SP p e below (T2.setTop (mkF m 3 #[vI p0, .unset] [(.ref b2)])) _
    refine XS.astoreN X2.here hx rfl (hb hby d29_3) rfl rfl (l' := #[vI p0, vR b2]) rfl ?_
    show SP p e below (T2.setTop (mkF m 4 #[vI p0, vR b2] [])) _
    refine XS.aloadN X2.here hx rfl (hb hby d29_4) rfl rfl ?_
    show SP p e below (T2.setTop (mkF m 5 #[vI p0, vR b2] [(.ref b2)])) _
    refine XS.iconst X2.here hx rfl (hb hby d29_5) ?_
    show SP p e below (T2.setTop (mkF m 6 #[vI p0, vR b2] [(.int (0 : Int32)), (.ref b2)])) _
    refine XS.iloadN X2.here hx rfl (hb hby d29_6) rfl  ?_
    exact k
  obtain ⟨_, _, ⟨T3, L3, k3, n3⟩, -, X3, ⟨Lc3, hQ3, l3, y3, z3⟩, st3⟩ := Jvm.LawKit.callS X2 hx (y := (⟨"java/lang/StringUTF16", "putChar", "([BII)V"⟩ : MethodName)) hown (mvT hZ (ow hw 119 rfl)) (mvT hZ (ow hw 120 rfl)) (mvT hZ (ow hw 58 rfl)) (mvT hZ (ow hw 121 rfl)) (by decide) (backOf (W := 0) (rm_27a l Z a0 hw [] b2 p0 own_zI h2 n0 Z2 A2 ge_b2 st__ass_2 st_HI_B_2 st_LO_B_2) hZ (ow hw 121 rfl) (ow hw 58 rfl) (by decide) (by decide)) (g := (mkF m 7 #[vI p0, vR b2] [(.int p0), (.int (0 : Int32)), (.ref b2)])) rfl (by rw [hml]; rfl) (argsL := [(.ref b2), (.int (0 : Int32)), (.int p0)]) (rest := []) (lenOf pd_6 rfl) rfl own_le0 (hb hby d29_7) (fun _ _ => ⟨rfl, e2, (by decide : 1 + 0 ≤ _), (by decide : 2 + 0 ≤ _)⟩)
  dsimp only [Pt.U, Pt.locs, Pt.cells, Pt.slots] at X3 l3 y3 z3 st3 hQ3
  rw [l3, y3, z3] at X3
  obtain ⟨rfl, N3q, Kc3, Q3_0⟩ := hQ3
  have Kd3 : Keep h2 T3.heap [b2] := Kc3
  have st__ass_3 := own_sta_keep st__ass_2 Kd3 (allS (own_A_plain A2) all0)
  have st_HI_B_3 := own_sta_keep st_HI_B_2 Kd3 (allS (own_A_plain A2) all0)
  have st_LO_B_3 := own_sta_keep st_LO_B_2 Kd3 (allS (own_A_plain A2) all0)
  have K3 := K2.trans Kd3 (allS (Or.inr sz_b2) all0)
  have Z3 := Nat.le_trans Z2 Kd3.1
  have N3 := Fr.app N0 N3q
  obtain ⟨fs, hr, hrun, hended, hW, hsame⟩ := X3.leave (v := some (.ref b2)) (fun h => by rw [Bd.returns] at h; cases h) (BodyLoose.notSynchronized Bd)
  refine ⟨_, _, pre4 _ ?_, hrun, hended, _, _, rfl, ?_, ⟨_, rfl⟩, hW, hsame.mono (by decide) (by decide)⟩
  · show SP p e below (T2.setTop (mkF m 7 #[vI p0, vR b2] [(.int p0), (.int (0 : Int32)), (.ref b2)])) _
    refine st3 _ ?_
    show SP p e below (T3.setTop (mkF m 10 #[vI p0, vR b2] [])) _
    refine XS.aloadN X3.here hx rfl (hb hby d29_10) rfl rfl ?_
    show SP p e below (T3.setTop (mkF m 11 #[vI p0, vR b2] [(.ref b2)])) _
    exact retOut X3 hx Bd.returns rfl (Or.inr (Or.inr (Or.inr (Or.inr ⟨rfl, rfl, rfl⟩)))) (hb hby d29_11) hr
  · show Q_29 Z p0 h0 n0 _ T3.heap _
    have o1 := (by rfl : (f_27a_1 p0 own_zI) = f_29_1 p0)
    have r1 := Q3_0
    rw [o1] at r1
    exact ⟨b2, rfl, N3, sz_b2, K3, r1⟩
theorem d26_0 : decode jdk_52_method_3_code 0 = .ok (.iload_n 0, 1) := by decide +kernel
theorem d26_1 : decode jdk_52_method_3_code 1 = .ok (.ifCond .ge 11, 3) := by decide +kernel
theorem d26_12 : decode jdk_52_method_3_code 12 = .ok (.iload_n 0, 1) := by decide +kernel
theorem d26_13 : decode jdk_52_method_3_code 13 = .ok (.ldc 20, 2) := by decide +kernel
theorem d26_15 : decode jdk_52_method_3_code 15 = .ok (.if_icmp .lt 40, 3) := by decide +kernel
theorem d26_55 : decode jdk_52_method_3_code 55 = .ok (.iload_n 0, 1) := by decide +kernel
theorem d26_56 : decode jdk_52_method_3_code 56 = .ok (.iconst 1, 1) := by decide +kernel
theorem d26_57 : decode jdk_52_method_3_code 57 = .ok (.ishl, 1) := by decide +kernel
theorem d26_58 : decode jdk_52_method_3_code 58 = .ok (.ireturn, 1) := by decide +kernel
theorem pn_26 : plainName "java/lang/StringUTF16" = true := by first | (simp [plainName, overriddenIn]; done) | decide +kernel
theorem ef_26t (m : MethodId)  : entryFrame m #[(.int (2 : Int32))] 1 = mkF m 0 #[vI (2 : Int32)] [] := by first | (simp [entryFrame, mkF, argsToLocals, Value.category]; done) | rfl
def f_26t  : Int32 := (4 : Int32)
def Q_26t (Z : State)   (h0 : Heap) (n0 : Nat) (v : Option Value) (h : Heap) (L : List Loc) : Prop := v = some (.int (f_26t )) ∧ Fr n0 L ∧ h = h0
theorem rm_26t (l : Launch) (Z : State) (a0 : Array Value) (hw : ∀ d ∈ tables_1, d.before a0 Z = true) (ws : List Jvm.Cond)   (h0 : Heap) (n0 : Nat) (Z0 : n0 ≤ h0.size)  :
    MetFree l (⟨"java/lang/StringUTF16", "newBytesLength", "(I)I"⟩ : MethodName) (head1 (Jvm.Cond.code (⟨"java/lang/StringUTF16", "newBytesLength", "(I)I"⟩ : MethodName) jdk_52_method_3_code 1 (some .int) :: ws) (⟨0, 0, 0, 0⟩ : Room)) (fun a U => a = #[(.int (2 : Int32))] ∧ Z.Warmed39 U.vm ∧ U.heap = h0) (fun _ _ _ _ _ => True) (fun _ U o U' => ∃ v L, o = .returned v ∧ Q_26t Z h0 n0 v U'.heap L ∧ FrameEnd U o U' L 0 0) := by
  refine MetFree.of_bodySF (plainFor_of_name pn_26) hisR ?_
  intro p e s m args below meth c s₁ Bd hml0 hP hK
  obtain ⟨rfl, hZ, hh⟩ := hP
  have hx := Bd.exec
  have hby := Bd.bytes
  have hml : c.maxLocals = 1 := hml0
  have hown : s.vm.findClass "java/lang/StringUTF16" = some m.cls := findClass_of_methodNamed Bd.named
  have hnm := (name_of_methodNamed Bd.named Bd.method).1
  have X0 : Stand p l e (⟨0, 0, 0, 0⟩ : Room) s m #[(.int (2 : Int32))] below meth c s₁ [] 0 0 := Stand.of_body Bd
  have e0 : s₁.heap = h0 := by rw [← hh, Bd.state]; rfl
  have N0 := Fr.nil n0
  have K0 : Keep h0 h0 [] := Keep.refl h0 _
  have pre0 : ∀ t, SP p e below (s₁.setTop (mkF m 0 #[vI (2 : Int32)] [])) t → SP p e below (s₁.setTop (entryFrame m #[(.int (2 : Int32))] 1)) t := fun t k => castTop (ef_26t m ) k
  have pre1 : ∀ t, SP p e below (s₁.setTop (mkF m 58 #[vI (2 : Int32)] [(.int ((2 : Int32) <<< ((1 : Int32) &&& 31)))])) t → SP p e below (s₁.setTop (entryFrame m #[(.int (2 : Int32))] 1)) t := by
    intro t k
    refine pre0 t ?_
    show SP p e below (s₁.setTop (mkF m 0 #[vI (2 : Int32)] [])) _
    refine XS.iloadN X0.here hx rfl (hb hby d26_0) rfl  ?_
    show SP p e below (s₁.setTop (mkF m 1 #[vI (2 : Int32)] [(.int (2 : Int32))])) _
    refine XS.ifYes X0.here hx rfl (pc0 := 1) (pc' := 12) rfl (hb hby d26_1) rfl ((if0 _ _).trans (flt (by decide : ¬ ((2 : Int32) < (0 : Int32)))).2.1) (by decide) (by decide) ?_
    show SP p e below (s₁.setTop (mkF m 12 #[vI (2 : Int32)] [])) _
    refine XS.iloadN X0.here hx rfl (hb hby d26_12) rfl  ?_
    show SP p e below (s₁.setTop (mkF m 13 #[vI (2 : Int32)] [(.int (2 : Int32))])) _
    refine X0.ldcInt hx hown (mvT hZ (ow hw 118 rfl)) (g := (mkF m 13 #[vI (2 : Int32)] [(.int (2 : Int32))])) rfl (hb hby d26_13) _ ?_
    show SP p e below (s₁.setTop (mkF m 15 #[vI (2 : Int32)] [(.int (1073741823 : Int32)), (.int (2 : Int32))])) _
    refine XS.icmpYes X0.here hx rfl (pc0 := 15) (pc' := 55) rfl (hb hby d26_15) rfl (tlt (by decide : (2 : Int32) < (1073741823 : Int32))).1 (by decide) (by decide) ?_
    show SP p e below (s₁.setTop (mkF m 55 #[vI (2 : Int32)] [])) _
    refine XS.iloadN X0.here hx rfl (hb hby d26_55) rfl  ?_
    show SP p e below (s₁.setTop (mkF m 56 #[vI (2 : Int32)] [(.int (2 : Int32))])) _
    refine XS.iconst X0.here hx rfl (hb hby d26_56) ?_
    show SP p e below (s₁.setTop (mkF m 57 #[vI (2 : Int32)] [(.int (1 : Int32)), (.int (2 : Int32))])) _
    refine XS.ishl X0.here hx rfl (hb hby d26_57) rfl ?_
    exact k
  have hl2 : ((2 : Int32) <<< ((1 : Int32) &&& 31)) = (4 : Int32) := by decide
  have preL2 : ∀ t, SP p e below (s₁.setTop (mkF m 58 #[vI (2 : Int32)] [(.int (4 : Int32))])) t → SP p e below (s₁.setTop (entryFrame m #[(.int (2 : Int32))] 1)) t := by
    intro t k_
    refine pre1 t ?_
    rw [hl2]
    exact k_
  obtain ⟨fs, hr, hrun, hended, hW, hsame⟩ := X0.leave (v := some (.int (4 : Int32))) (fun h => by rw [Bd.returns] at h; cases h) (BodyLoose.notSynchronized Bd)
  refine ⟨_, _, preL2 _ ?_, hrun, hended, _, _, rfl, ?_, ⟨_, rfl⟩, hW, hsame.mono (by decide) (by decide)⟩
  · show SP p e below (s₁.setTop (mkF m 58 #[vI (2 : Int32)] [(.int (4 : Int32))])) _
    exact retI X0 hx Bd.returns (hb hby d26_58) hr
  · show Q_26t Z h0 n0 _ s₁.heap _
    rw [e0]
    exact ⟨congrArg (fun z => some (Value.int z)) (by rfl : (4 : Int32) = f_26t ), N0, rfl⟩
theorem pd_7 : parseMethodDescriptor "(I)I" = some ⟨[.int], some .int⟩ := by decide +kernel
theorem d25_0 : decode jdk_52_method_2_code 0 = .ok (.iload_n 0, 1) := by decide +kernel
theorem d25_1 : decode jdk_52_method_2_code 1 = .ok (.invokestatic 11, 3) := by decide +kernel
theorem d25_4 : decode jdk_52_method_2_code 4 = .ok (.newarray .byte, 2) := by decide +kernel
theorem d25_6 : decode jdk_52_method_2_code 6 = .ok (.areturn, 1) := by decide +kernel
theorem pn_25 : plainName "java/lang/StringUTF16" = true := by first | (simp [plainName, overriddenIn]; done) | decide +kernel
theorem ef_25t (m : MethodId)  : entryFrame m #[(.int (2 : Int32))] 1 = mkF m 0 #[vI (2 : Int32)] [] := by first | (simp [entryFrame, mkF, argsToLocals, Value.category]; done) | rfl
def Q_25t (Z : State)   (h0 : Heap) (n0 : Nat) (v : Option Value) (h : Heap) (L : List Loc) : Prop := ∃ r : Addr, v = some (.ref r) ∧ Fr n0 L ∧ h0.size ≤ r ∧ Keep h0 h [] ∧ own_A Z h r .byte 4 (fun i => .int (own_zI i))
theorem rm_25t (l : Launch) (Z : State) (a0 : Array Value) (hw : ∀ d ∈ tables_1, d.before a0 Z = true) (ws : List Jvm.Cond)   (h0 : Heap) (n0 : Nat) (Z0 : n0 ≤ h0.size)  :
    MetFree l (⟨"java/lang/StringUTF16", "newBytesFor", "(I)[B"⟩ : MethodName) (head1 (Jvm.Cond.code (⟨"java/lang/StringUTF16", "newBytesFor", "(I)[B"⟩ : MethodName) jdk_52_method_2_code 1 (some (.array .byte)) :: ws) (⟨1, 1, 4, 12⟩ : Room)) (fun a U => a = #[(.int (2 : Int32))] ∧ Z.Warmed39 U.vm ∧ U.heap = h0) (fun _ _ _ _ _ => True) (fun _ U o U' => ∃ v L, o = .returned v ∧ Q_25t Z h0 n0 v U'.heap L ∧ FrameEnd U o U' L 1 4) := by
  refine MetFree.of_bodySF (plainFor_of_name pn_25) hisR ?_
  intro p e s m args below meth c s₁ Bd hml0 hP hK
  obtain ⟨rfl, hZ, hh⟩ := hP
  have hx := Bd.exec
  have hby := Bd.bytes
  have hml : c.maxLocals = 1 := hml0
  have hown : s.vm.findClass "java/lang/StringUTF16" = some m.cls := findClass_of_methodNamed Bd.named
  have hnm := (name_of_methodNamed Bd.named Bd.method).1
  have X0 : Stand p l e (⟨1, 1, 4, 12⟩ : Room) s m #[(.int (2 : Int32))] below meth c s₁ [] 0 0 := Stand.of_body Bd
  have e0 : s₁.heap = h0 := by rw [← hh, Bd.state]; rfl
  have N0 := Fr.nil n0
  have K0 : Keep h0 h0 [] := Keep.refl h0 _
  have pre0 : ∀ t, SP p e below (s₁.setTop (mkF m 0 #[vI (2 : Int32)] [])) t → SP p e below (s₁.setTop (entryFrame m #[(.int (2 : Int32))] 1)) t := fun t k => castTop (ef_25t m ) k
  have pre2 : ∀ t, SP p e below (s₁.setTop (mkF m 1 #[vI (2 : Int32)] [(.int (2 : Int32))])) t → SP p e below (s₁.setTop (entryFrame m #[(.int (2 : Int32))] 1)) t := by
    intro t k
    refine pre0 t ?_
    show SP p e below (s₁.setTop (mkF m 0 #[vI (2 : Int32)] [])) _
    refine XS.iloadN X0.here hx rfl (hb hby d25_0) rfl  ?_
    exact k
  obtain ⟨_, _, ⟨T1, L1, k1, n1⟩, -, X1, ⟨Lc1, hQ1, l1, y1, z1⟩, st1⟩ := Jvm.LawKit.callS X0 hx (y := (⟨"java/lang/StringUTF16", "newBytesLength", "(I)I"⟩ : MethodName)) hown (mvT hZ (ow hw 115 rfl)) (mvT hZ (ow hw 116 rfl)) (mvT hZ (ow hw 58 rfl)) (mvT hZ (ow hw 117 rfl)) (by decide) (backOf (W := 0) (rm_26t l Z a0 hw []  h0 n0 Z0 ) hZ (ow hw 117 rfl) (ow hw 58 rfl) (by decide) (by decide)) (g := (mkF m 1 #[vI (2 : Int32)] [(.int (2 : Int32))])) rfl (by rw [hml]; rfl) (argsL := [(.int (2 : Int32))]) (rest := []) (lenOf pd_7 rfl) rfl own_le0 (hb hby d25_1) (fun _ _ => ⟨rfl, e0, (by decide : 0 + 0 ≤ _), (by decide : 0 + 0 ≤ _)⟩)
  dsimp only [Pt.U, Pt.locs, Pt.cells, Pt.slots] at X1 l1 y1 z1 st1 hQ1
  rw [l1, y1, z1] at X1
  obtain ⟨rfl, N1q, e1⟩ := hQ1
  have N1 := Fr.app N0 N1q
  have pre3 : ∀ t, SP p e below (T1.setTop (mkF m 4 #[vI (2 : Int32)] [(.int f_26t)])) t → SP p e below (s₁.setTop (entryFrame m #[(.int (2 : Int32))] 1)) t := by
    intro t k
    refine pre2 t ?_
    show SP p e below (s₁.setTop (mkF m 1 #[vI (2 : Int32)] [(.int (2 : Int32))])) _
    refine st1 _ ?_
    exact k
  have hl4 : f_26t = (4 : Int32) := rfl
  have preL4 : ∀ t, SP p e below (T1.setTop (mkF m 4 #[vI (2 : Int32)] [(.int (4 : Int32))])) t → SP p e below (s₁.setTop (entryFrame m #[(.int (2 : Int32))] 1)) t := by
    intro t k_
    refine pre3 t ?_
    rw [hl4]
    exact k_
  obtain ⟨T5, h5, b5, gb5, X5, e5, E5, A5, st5⟩ := own_newP X1 hx hZ (ow hw 20 rfl) e1 (g := (mkF m 4 #[vI (2 : Int32)] [(.int (4 : Int32))])) rfl (hb hby d25_4) rfl (by decide) (n := 4) rfl (G := fun i => .int (own_zI i)) (fun _ => rfl) (cap := 4) (by decide) (by decide) (by decide) (by decide)
  have sz_b5 : h0.size ≤ b5 := Nat.le_trans K0.1 (Nat.le_of_eq gb5.symm)
  have ge_b5 : n0 ≤ b5 := Nat.le_trans Z0 (Nat.le_of_eq gb5.symm)
  have K5 := K0.ext E5
  have Z5 := Nat.le_trans Z0 E5.1
  obtain ⟨fs, hr, hrun, hended, hW, hsame⟩ := X5.leave (v := some (.ref b5)) (fun h => by rw [Bd.returns] at h; cases h) (BodyLoose.notSynchronized Bd)
  refine ⟨_, _, preL4 _ ?_, hrun, hended, _, _, rfl, ?_, ⟨_, rfl⟩, hW, hsame.mono (by decide) (by decide)⟩
  · show SP p e below (T1.setTop (mkF m 4 #[vI (2 : Int32)] [(.int (4 : Int32))])) _
    refine st5 _ ?_
    show SP p e below (T5.setTop (mkF m 6 #[vI (2 : Int32)] [(.ref b5)])) _
    exact retOut X5 hx Bd.returns rfl (Or.inr (Or.inr (Or.inr (Or.inr ⟨rfl, rfl, rfl⟩)))) (hb hby d25_6) hr
  · show Q_25t Z h0 n0 _ T5.heap _
    rw [e5]
    exact ⟨b5, rfl, N1, sz_b5, K5, A5⟩
theorem pd_8 : parseMethodDescriptor "(I)[B" = some ⟨[.int], some (.array .byte)⟩ := by decide +kernel
theorem d24_0 : decode jdk_52_method_14_code 0 = .ok (.iload_n 2, 1) := by decide +kernel
theorem d24_1 : decode jdk_52_method_14_code 1 = .ok (.invokestatic 107, 3) := by decide +kernel
theorem d24_4 : decode jdk_52_method_14_code 4 = .ok (.astore_n 3, 1) := by decide +kernel
theorem d24_5 : decode jdk_52_method_14_code 5 = .ok (.iconst 0, 1) := by decide +kernel
theorem d24_6 : decode jdk_52_method_14_code 6 = .ok (.istore 4, 2) := by decide +kernel
theorem d24_8 : decode jdk_52_method_14_code 8 = .ok (.iload 4, 2) := by decide +kernel
theorem d24_10 : decode jdk_52_method_14_code 10 = .ok (.iload_n 2, 1) := by decide +kernel
theorem d24_11 : decode jdk_52_method_14_code 11 = .ok (.if_icmp .ge 21, 3) := by decide +kernel
theorem d24_14 : decode jdk_52_method_14_code 14 = .ok (.aload_n 3, 1) := by decide +kernel
theorem d24_15 : decode jdk_52_method_14_code 15 = .ok (.iload 4, 2) := by decide +kernel
theorem d24_17 : decode jdk_52_method_14_code 17 = .ok (.aload_n 0, 1) := by decide +kernel
theorem d24_18 : decode jdk_52_method_14_code 18 = .ok (.iload_n 1, 1) := by decide +kernel
theorem d24_19 : decode jdk_52_method_14_code 19 = .ok (.caload, 1) := by decide +kernel
theorem d24_20 : decode jdk_52_method_14_code 20 = .ok (.invokestatic 111, 3) := by decide +kernel
theorem d24_23 : decode jdk_52_method_14_code 23 = .ok (.iinc 1 1, 3) := by decide +kernel
theorem d24_26 : decode jdk_52_method_14_code 26 = .ok (.iinc 4 1, 3) := by decide +kernel
theorem d24_29 : decode jdk_52_method_14_code 29 = .ok (.goto (-21), 3) := by decide +kernel
theorem d24_32 : decode jdk_52_method_14_code 32 = .ok (.aload_n 3, 1) := by decide +kernel
theorem d24_33 : decode jdk_52_method_14_code 33 = .ok (.areturn, 1) := by decide +kernel
theorem pn_24 : plainName "java/lang/StringUTF16" = true := by first | (simp [plainName, overriddenIn]; done) | decide +kernel
theorem ef_24t (m : MethodId) (p0 : Addr) : entryFrame m #[(.ref p0), (.int (0 : Int32)), (.int (2 : Int32))] 5 = mkF m 0 #[vR p0, vI (0 : Int32), vI (2 : Int32), .unset, .unset] [] := by first | (simp [entryFrame, mkF, argsToLocals, Value.category]; done) | rfl
def f_24t_1 (g_ : Nat → Int32) : Nat → Int32 := (f_27c_1 (g_ 1) (f_27b_1 (g_ 0) own_zI))
def Q_24t (Z : State) (p0 : Addr) (g_ : Nat → Int32) (h0 : Heap) (n0 : Nat) (v : Option Value) (h : Heap) (L : List Loc) : Prop := ∃ r : Addr, v = some (.ref r) ∧ Fr n0 L ∧ h0.size ≤ r ∧ Keep h0 h [] ∧ own_A Z h r .byte 4 (fun i => .int ((f_24t_1 g_) i))
theorem rm_24t (l : Launch) (Z : State) (a0 : Array Value) (hw : ∀ d ∈ tables_1, d.before a0 Z = true) (ws : List Jvm.Cond) (p0 : Addr) (g_ : Nat → Int32) (h0 : Heap) (n0 : Nat) (Z0 : n0 ≤ h0.size) (A_p0 : own_A Z h0 p0 .char 2 (fun i => .int (g_ i))) (S__assertionsDisabled : Sta Z h0 "java/lang/StringUTF16" "$assertionsDisabled" "Z" (.int (1 : Int32))) (S_HI_BYTE_SHIFT : Sta Z h0 "java/lang/StringUTF16" "HI_BYTE_SHIFT" "I" (.int (0 : Int32))) (S_LO_BYTE_SHIFT : Sta Z h0 "java/lang/StringUTF16" "LO_BYTE_SHIFT" "I" (.int (8 : Int32))) :
    MetFree l (⟨"java/lang/StringUTF16", "toBytes", "([CII)[B"⟩ : MethodName) (head1 (Jvm.Cond.code (⟨"java/lang/StringUTF16", "toBytes", "([CII)[B"⟩ : MethodName) jdk_52_method_14_code 5 (some (.array .byte)) :: ws) (⟨2, 1, 4, 24⟩ : Room)) (fun a U => a = #[(.ref p0), (.int (0 : Int32)), (.int (2 : Int32))] ∧ Z.Warmed39 U.vm ∧ U.heap = h0) (fun _ _ _ _ _ => True) (fun _ U o U' => ∃ v L, o = .returned v ∧ Q_24t Z p0 g_ h0 n0 v U'.heap L ∧ FrameEnd U o U' L 1 4) := by
  refine MetFree.of_bodySF (plainFor_of_name pn_24) hisR ?_
  intro p e s m args below meth c s₁ Bd hml0 hP hK
  obtain ⟨rfl, hZ, hh⟩ := hP
  have hx := Bd.exec
  have hby := Bd.bytes
  have hml : c.maxLocals = 5 := hml0
  have hown : s.vm.findClass "java/lang/StringUTF16" = some m.cls := findClass_of_methodNamed Bd.named
  have hnm := (name_of_methodNamed Bd.named Bd.method).1
  have X0 : Stand p l e (⟨2, 1, 4, 24⟩ : Room) s m #[(.ref p0), (.int (0 : Int32)), (.int (2 : Int32))] below meth c s₁ [] 0 0 := Stand.of_body Bd
  have e0 : s₁.heap = h0 := by rw [← hh, Bd.state]; rfl
  have N0 := Fr.nil n0
  have K0 : Keep h0 h0 [] := Keep.refl h0 _
  have pre0 : ∀ t, SP p e below (s₁.setTop (mkF m 0 #[vR p0, vI (0 : Int32), vI (2 : Int32), .unset, .unset] [])) t → SP p e below (s₁.setTop (entryFrame m #[(.ref p0), (.int (0 : Int32)), (.int (2 : Int32))] 5)) t := fun t k => castTop (ef_24t m p0) k
  have pre2 : ∀ t, SP p e below (s₁.setTop (mkF m 1 #[vR p0, vI (0 : Int32), vI (2 : Int32), .unset, .unset] [(.int (2 : Int32))])) t → SP p e below (s₁.setTop (entryFrame m #[(.ref p0), (.int (0 : Int32)), (.int (2 : Int32))] 5)) t := by
    intro t k
    refine pre0 t ?_
    show SP p e below (s₁.setTop (mkF m 0 #[vR p0, vI (0 : Int32), vI (2 : Int32), .unset, .unset] [])) _
    refine XS.iloadN X0.here hx rfl (hb hby d24_0) rfl  ?_
    exact k
  obtain ⟨_, _, ⟨T1, L1, k1, n1⟩, -, X1, ⟨Lc1, hQ1, l1, y1, z1⟩, st1⟩ := Jvm.LawKit.callS X0 hx (y := (⟨"java/lang/StringUTF16", "newBytesFor", "(I)[B"⟩ : MethodName)) hown (mvT hZ (ow hw 112 rfl)) (mvT hZ (ow hw 113 rfl)) (mvT hZ (ow hw 58 rfl)) (mvT hZ (ow hw 114 rfl)) (by decide) (backOf (W := 0) (rm_25t l Z a0 hw []  h0 n0 Z0 ) hZ (ow hw 114 rfl) (ow hw 58 rfl) (by decide) (by decide)) (g := (mkF m 1 #[vR p0, vI (0 : Int32), vI (2 : Int32), .unset, .unset] [(.int (2 : Int32))])) rfl (by rw [hml]; rfl) (argsL := [(.int (2 : Int32))]) (rest := []) (lenOf pd_8 rfl) rfl own_le0 (hb hby d24_1) (fun _ _ => ⟨rfl, e0, (by decide : 0 + 1 ≤ _), (by decide : 0 + 4 ≤ _)⟩)
  dsimp only [Pt.U, Pt.locs, Pt.cells, Pt.slots] at X1 l1 y1 z1 st1 hQ1
  rw [l1, y1, z1] at X1
  obtain ⟨r_1, rfl, N1q, sz0_r_1, Kc1, Q1_0⟩ := hQ1
  have Kd1 : Keep h0 T1.heap [] := Kc1
  have ne_p0_r_1 : p0 ≠ r_1 := Nat.ne_of_lt (Nat.lt_of_lt_of_le A_p0.lt sz0_r_1)
  have sz_r_1 : h0.size ≤ r_1 := Nat.le_trans K0.1 sz0_r_1
  have ge_r_1 : n0 ≤ r_1 := Nat.le_trans Z0 sz0_r_1
  have st__ass_1 := own_sta_keep S__assertionsDisabled Kd1 all0
  have st_HI_B_1 := own_sta_keep S_HI_BYTE_SHIFT Kd1 all0
  have st_LO_B_1 := own_sta_keep S_LO_BYTE_SHIFT Kd1 all0
  have arr_p0_1 := A_p0.keep Kd1 nin0
  have K1 := K0.trans Kd1 all0
  have Z1 := Nat.le_trans Z0 Kd1.1
  have N1 := Fr.app N0 N1q
  have pre4 : ∀ t, SP p e below (T1.setTop (mkF m 20 #[vR p0, vI (0 : Int32), vI (2 : Int32), vR r_1, vI (0 : Int32)] [(.int (g_ 0)), (.int (0 : Int32)), (.ref r_1)])) t → SP p e below (s₁.setTop (entryFrame m #[(.ref p0), (.int (0 : Int32)), (.int (2 : Int32))] 5)) t := by
    intro t k
    refine pre2 t ?_
    show SP p e below (s₁.setTop (mkF m 1 #[vR p0, vI (0 : Int32), vI (2 : Int32), .unset, .unset] [(.int (2 : Int32))])) _
    refine st1 _ ?_
    show SP p e below (T1.setTop (mkF m 4 #[vR p0, vI (0 : Int32), vI (2 : Int32), .unset, .unset] [(.ref r_1)])) _
    refine XS.astoreN X1.here hx rfl (hb hby d24_4) rfl rfl (l' := #[vR p0, vI (0 : Int32), vI (2 : Int32), vR r_1, .unset]) rfl ?_
    show SP p e below (T1.setTop (mkF m 5 #[vR p0, vI (0 : Int32), vI (2 : Int32), vR r_1, .unset] [])) _
    refine XS.iconst X1.here hx rfl (hb hby d24_5) ?_
    show SP p e below (T1.setTop (mkF m 6 #[vR p0, vI (0 : Int32), vI (2 : Int32), vR r_1, .unset] [(.int (0 : Int32))])) _
    refine XS.istore X1.here hx rfl (hb hby d24_6) rfl (l' := #[vR p0, vI (0 : Int32), vI (2 : Int32), vR r_1, vI (0 : Int32)]) rfl ?_
    show SP p e below (T1.setTop (mkF m 8 #[vR p0, vI (0 : Int32), vI (2 : Int32), vR r_1, vI (0 : Int32)] [])) _
    refine XS.iload X1.here hx rfl (hb hby d24_8) rfl  ?_
    show SP p e below (T1.setTop (mkF m 10 #[vR p0, vI (0 : Int32), vI (2 : Int32), vR r_1, vI (0 : Int32)] [(.int (0 : Int32))])) _
    refine XS.iloadN X1.here hx rfl (hb hby d24_10) rfl  ?_
    show SP p e below (T1.setTop (mkF m 11 #[vR p0, vI (0 : Int32), vI (2 : Int32), vR r_1, vI (0 : Int32)] [(.int (2 : Int32)), (.int (0 : Int32))])) _
    refine XS.icmpNo X1.here hx rfl (hb hby d24_11) rfl (tlt (by decide : (0 : Int32) < (2 : Int32))).2.1 ?_
    show SP p e below (T1.setTop (mkF m 14 #[vR p0, vI (0 : Int32), vI (2 : Int32), vR r_1, vI (0 : Int32)] [])) _
    refine XS.aloadN X1.here hx rfl (hb hby d24_14) rfl rfl ?_
    show SP p e below (T1.setTop (mkF m 15 #[vR p0, vI (0 : Int32), vI (2 : Int32), vR r_1, vI (0 : Int32)] [(.ref r_1)])) _
    refine XS.iload X1.here hx rfl (hb hby d24_15) rfl  ?_
    show SP p e below (T1.setTop (mkF m 17 #[vR p0, vI (0 : Int32), vI (2 : Int32), vR r_1, vI (0 : Int32)] [(.int (0 : Int32)), (.ref r_1)])) _
    refine XS.aloadN X1.here hx rfl (hb hby d24_17) rfl rfl ?_
    show SP p e below (T1.setTop (mkF m 18 #[vR p0, vI (0 : Int32), vI (2 : Int32), vR r_1, vI (0 : Int32)] [(.ref p0), (.int (0 : Int32)), (.ref r_1)])) _
    refine XS.iloadN X1.here hx rfl (hb hby d24_18) rfl  ?_
    show SP p e below (T1.setTop (mkF m 19 #[vR p0, vI (0 : Int32), vI (2 : Int32), vR r_1, vI (0 : Int32)] [(.int (0 : Int32)), (.ref p0), (.int (0 : Int32)), (.ref r_1)])) _
    refine own_ldC X1 hx hZ rfl arr_p0_1 (j := (0 : Int32)) (k := 0) (by decide) (by decide) (by decide) (g := (mkF m 19 #[vR p0, vI (0 : Int32), vI (2 : Int32), vR r_1, vI (0 : Int32)] [(.int (0 : Int32)), (.ref p0), (.int (0 : Int32)), (.ref r_1)])) rfl rfl (hb hby d24_19) ?_
    exact k
  obtain ⟨_, _, ⟨T3, L3, k3, n3⟩, -, X3, ⟨Lc3, hQ3, l3, y3, z3⟩, st3⟩ := Jvm.LawKit.callS X1 hx (y := (⟨"java/lang/StringUTF16", "putChar", "([BII)V"⟩ : MethodName)) hown (mvT hZ (ow hw 119 rfl)) (mvT hZ (ow hw 120 rfl)) (mvT hZ (ow hw 58 rfl)) (mvT hZ (ow hw 121 rfl)) (by decide) (backOf (W := 0) (rm_27b l Z a0 hw [] r_1 (g_ 0) own_zI T1.heap n0 Z1 Q1_0 ge_r_1 st__ass_1 st_HI_B_1 st_LO_B_1) hZ (ow hw 121 rfl) (ow hw 58 rfl) (by decide) (by decide)) (g := (mkF m 20 #[vR p0, vI (0 : Int32), vI (2 : Int32), vR r_1, vI (0 : Int32)] [(.int (g_ 0)), (.int (0 : Int32)), (.ref r_1)])) rfl (by rw [hml]; rfl) (argsL := [(.ref r_1), (.int (0 : Int32)), (.int (g_ 0))]) (rest := []) (lenOf pd_6 rfl) rfl own_le0 (hb hby d24_20) (fun _ _ => ⟨rfl, rfl, (by decide : 1 + 0 ≤ _), (by decide : 4 + 0 ≤ _)⟩)
  dsimp only [Pt.U, Pt.locs, Pt.cells, Pt.slots] at X3 l3 y3 z3 st3 hQ3
  rw [l3, y3, z3] at X3
  obtain ⟨rfl, N3q, Kc3, Q3_0⟩ := hQ3
  have Kd3 : Keep T1.heap T3.heap [r_1] := Kc3
  have st__ass_3 := own_sta_keep st__ass_1 Kd3 (allS (own_A_plain Q1_0) all0)
  have st_HI_B_3 := own_sta_keep st_HI_B_1 Kd3 (allS (own_A_plain Q1_0) all0)
  have st_LO_B_3 := own_sta_keep st_LO_B_1 Kd3 (allS (own_A_plain Q1_0) all0)
  have arr_p0_3 := arr_p0_1.keep Kd3 (ninS ne_p0_r_1 nin0)
  have K3 := K1.trans Kd3 (allS (Or.inr sz_r_1) all0)
  have Z3 := Nat.le_trans Z1 Kd3.1
  have N3 := Fr.app N1 N3q
  have pre6 : ∀ t, SP p e below (T3.setTop (mkF m 20 #[vR p0, vI (1 : Int32), vI (2 : Int32), vR r_1, vI (1 : Int32)] [(.int (g_ 1)), (.int (1 : Int32)), (.ref r_1)])) t → SP p e below (s₁.setTop (entryFrame m #[(.ref p0), (.int (0 : Int32)), (.int (2 : Int32))] 5)) t := by
    intro t k
    refine pre4 t ?_
    show SP p e below (T1.setTop (mkF m 20 #[vR p0, vI (0 : Int32), vI (2 : Int32), vR r_1, vI (0 : Int32)] [(.int (g_ 0)), (.int (0 : Int32)), (.ref r_1)])) _
    refine st3 _ ?_
    show SP p e below (T3.setTop (mkF m 23 #[vR p0, vI (0 : Int32), vI (2 : Int32), vR r_1, vI (0 : Int32)] [])) _
    refine XS.iinc X3.here hx rfl (hb hby d24_23) rfl (l' := #[vR p0, vI (1 : Int32), vI (2 : Int32), vR r_1, vI (0 : Int32)]) rfl ?_
    show SP p e below (T3.setTop (mkF m 26 #[vR p0, vI (1 : Int32), vI (2 : Int32), vR r_1, vI (0 : Int32)] [])) _
    refine XS.iinc X3.here hx rfl (hb hby d24_26) rfl (l' := #[vR p0, vI (1 : Int32), vI (2 : Int32), vR r_1, vI (1 : Int32)]) rfl ?_
    show SP p e below (T3.setTop (mkF m 29 #[vR p0, vI (1 : Int32), vI (2 : Int32), vR r_1, vI (1 : Int32)] [])) _
    refine XS.goto X3.here hx rfl (pc0 := 29) (pc' := 8) rfl (hb hby d24_29) (by decide) (by decide) ?_
    show SP p e below (T3.setTop (mkF m 8 #[vR p0, vI (1 : Int32), vI (2 : Int32), vR r_1, vI (1 : Int32)] [])) _
    refine XS.iload X3.here hx rfl (hb hby d24_8) rfl  ?_
    show SP p e below (T3.setTop (mkF m 10 #[vR p0, vI (1 : Int32), vI (2 : Int32), vR r_1, vI (1 : Int32)] [(.int (1 : Int32))])) _
    refine XS.iloadN X3.here hx rfl (hb hby d24_10) rfl  ?_
    show SP p e below (T3.setTop (mkF m 11 #[vR p0, vI (1 : Int32), vI (2 : Int32), vR r_1, vI (1 : Int32)] [(.int (2 : Int32)), (.int (1 : Int32))])) _
    refine XS.icmpNo X3.here hx rfl (hb hby d24_11) rfl (tlt (by decide : (1 : Int32) < (2 : Int32))).2.1 ?_
    show SP p e below (T3.setTop (mkF m 14 #[vR p0, vI (1 : Int32), vI (2 : Int32), vR r_1, vI (1 : Int32)] [])) _
    refine XS.aloadN X3.here hx rfl (hb hby d24_14) rfl rfl ?_
    show SP p e below (T3.setTop (mkF m 15 #[vR p0, vI (1 : Int32), vI (2 : Int32), vR r_1, vI (1 : Int32)] [(.ref r_1)])) _
    refine XS.iload X3.here hx rfl (hb hby d24_15) rfl  ?_
    show SP p e below (T3.setTop (mkF m 17 #[vR p0, vI (1 : Int32), vI (2 : Int32), vR r_1, vI (1 : Int32)] [(.int (1 : Int32)), (.ref r_1)])) _
    refine XS.aloadN X3.here hx rfl (hb hby d24_17) rfl rfl ?_
    show SP p e below (T3.setTop (mkF m 18 #[vR p0, vI (1 : Int32), vI (2 : Int32), vR r_1, vI (1 : Int32)] [(.ref p0), (.int (1 : Int32)), (.ref r_1)])) _
    refine XS.iloadN X3.here hx rfl (hb hby d24_18) rfl  ?_
    show SP p e below (T3.setTop (mkF m 19 #[vR p0, vI (1 : Int32), vI (2 : Int32), vR r_1, vI (1 : Int32)] [(.int (1 : Int32)), (.ref p0), (.int (1 : Int32)), (.ref r_1)])) _
    refine own_ldC X3 hx hZ rfl arr_p0_3 (j := (1 : Int32)) (k := 1) (by decide) (by decide) (by decide) (g := (mkF m 19 #[vR p0, vI (1 : Int32), vI (2 : Int32), vR r_1, vI (1 : Int32)] [(.int (1 : Int32)), (.ref p0), (.int (1 : Int32)), (.ref r_1)])) rfl rfl (hb hby d24_19) ?_
    exact k
  obtain ⟨_, _, ⟨T5, L5, k5, n5⟩, -, X5, ⟨Lc5, hQ5, l5, y5, z5⟩, st5⟩ := Jvm.LawKit.callS X3 hx (y := (⟨"java/lang/StringUTF16", "putChar", "([BII)V"⟩ : MethodName)) hown (mvT hZ (ow hw 119 rfl)) (mvT hZ (ow hw 120 rfl)) (mvT hZ (ow hw 58 rfl)) (mvT hZ (ow hw 121 rfl)) (by decide) (backOf (W := 0) (rm_27c l Z a0 hw [] r_1 (g_ 1) (f_27b_1 (g_ 0) own_zI) T3.heap n0 Z3 Q3_0 ge_r_1 st__ass_3 st_HI_B_3 st_LO_B_3) hZ (ow hw 121 rfl) (ow hw 58 rfl) (by decide) (by decide)) (g := (mkF m 20 #[vR p0, vI (1 : Int32), vI (2 : Int32), vR r_1, vI (1 : Int32)] [(.int (g_ 1)), (.int (1 : Int32)), (.ref r_1)])) rfl (by rw [hml]; rfl) (argsL := [(.ref r_1), (.int (1 : Int32)), (.int (g_ 1))]) (rest := []) (lenOf pd_6 rfl) rfl own_le0 (hb hby d24_20) (fun _ _ => ⟨rfl, rfl, (by decide : 1 + 0 ≤ _), (by decide : 4 + 0 ≤ _)⟩)
  dsimp only [Pt.U, Pt.locs, Pt.cells, Pt.slots] at X5 l5 y5 z5 st5 hQ5
  rw [l5, y5, z5] at X5
  obtain ⟨rfl, N5q, Kc5, Q5_0⟩ := hQ5
  have Kd5 : Keep T3.heap T5.heap [r_1] := Kc5
  have st__ass_5 := own_sta_keep st__ass_3 Kd5 (allS (own_A_plain Q3_0) all0)
  have st_HI_B_5 := own_sta_keep st_HI_B_3 Kd5 (allS (own_A_plain Q3_0) all0)
  have st_LO_B_5 := own_sta_keep st_LO_B_3 Kd5 (allS (own_A_plain Q3_0) all0)
  have arr_p0_5 := arr_p0_3.keep Kd5 (ninS ne_p0_r_1 nin0)
  have K5 := K3.trans Kd5 (allS (Or.inr sz_r_1) all0)
  have Z5 := Nat.le_trans Z3 Kd5.1
  have N5 := Fr.app N3 N5q
  obtain ⟨fs, hr, hrun, hended, hW, hsame⟩ := X5.leave (v := some (.ref r_1)) (fun h => by rw [Bd.returns] at h; cases h) (BodyLoose.notSynchronized Bd)
  refine ⟨_, _, pre6 _ ?_, hrun, hended, _, _, rfl, ?_, ⟨_, rfl⟩, hW, hsame.mono (by decide) (by decide)⟩
  · show SP p e below (T3.setTop (mkF m 20 #[vR p0, vI (1 : Int32), vI (2 : Int32), vR r_1, vI (1 : Int32)] [(.int (g_ 1)), (.int (1 : Int32)), (.ref r_1)])) _
    refine st5 _ ?_
    show SP p e below (T5.setTop (mkF m 23 #[vR p0, vI (1 : Int32), vI (2 : Int32), vR r_1, vI (1 : Int32)] [])) _
    refine XS.iinc X5.here hx rfl (hb hby d24_23) rfl (l' := #[vR p0, vI (2 : Int32), vI (2 : Int32), vR r_1, vI (1 : Int32)]) rfl ?_
    show SP p e below (T5.setTop (mkF m 26 #[vR p0, vI (2 : Int32), vI (2 : Int32), vR r_1, vI (1 : Int32)] [])) _
    refine XS.iinc X5.here hx rfl (hb hby d24_26) rfl (l' := #[vR p0, vI (2 : Int32), vI (2 : Int32), vR r_1, vI (2 : Int32)]) rfl ?_
    show SP p e below (T5.setTop (mkF m 29 #[vR p0, vI (2 : Int32), vI (2 : Int32), vR r_1, vI (2 : Int32)] [])) _
    refine XS.goto X5.here hx rfl (pc0 := 29) (pc' := 8) rfl (hb hby d24_29) (by decide) (by decide) ?_
    show SP p e below (T5.setTop (mkF m 8 #[vR p0, vI (2 : Int32), vI (2 : Int32), vR r_1, vI (2 : Int32)] [])) _
    refine XS.iload X5.here hx rfl (hb hby d24_8) rfl  ?_
    show SP p e below (T5.setTop (mkF m 10 #[vR p0, vI (2 : Int32), vI (2 : Int32), vR r_1, vI (2 : Int32)] [(.int (2 : Int32))])) _
    refine XS.iloadN X5.here hx rfl (hb hby d24_10) rfl  ?_
    show SP p e below (T5.setTop (mkF m 11 #[vR p0, vI (2 : Int32), vI (2 : Int32), vR r_1, vI (2 : Int32)] [(.int (2 : Int32)), (.int (2 : Int32))])) _
    refine XS.icmpYes X5.here hx rfl (pc0 := 11) (pc' := 32) rfl (hb hby d24_11) rfl (flt (by decide : ¬ ((2 : Int32) < (2 : Int32)))).2.1 (by decide) (by decide) ?_
    show SP p e below (T5.setTop (mkF m 32 #[vR p0, vI (2 : Int32), vI (2 : Int32), vR r_1, vI (2 : Int32)] [])) _
    refine XS.aloadN X5.here hx rfl (hb hby d24_32) rfl rfl ?_
    show SP p e below (T5.setTop (mkF m 33 #[vR p0, vI (2 : Int32), vI (2 : Int32), vR r_1, vI (2 : Int32)] [(.ref r_1)])) _
    exact retOut X5 hx Bd.returns rfl (Or.inr (Or.inr (Or.inr (Or.inr ⟨rfl, rfl, rfl⟩)))) (hb hby d24_33) hr
  · show Q_24t Z p0 g_ h0 n0 _ T5.heap _
    have o1 := (by rfl : (f_27c_1 (g_ 1) (f_27b_1 (g_ 0) own_zI)) = f_24t_1 g_)
    have r1 := Q5_0
    rw [o1] at r1
    exact ⟨r_1, rfl, N5, sz_r_1, K5, r1⟩
theorem own_i2c_i (x : Int32) : (x.toUInt32.toUInt16.toUInt32.toInt32).toUInt32.toUInt16.toUInt32.toInt32 = x.toUInt32.toUInt16.toUInt32.toInt32 := by
  have a := c_i2c x
  have b := c_i2c (x.toUInt32.toUInt16.toUInt32.toInt32)
  exact Int32.toInt_inj.mp (by omega)
theorem own_i2c_r {x : Int32} (h0 : 0 ≤ x.toInt) (h1 : x.toInt < 65536) : x.toUInt32.toUInt16.toUInt32.toInt32 = x := by
  have a := c_i2c x
  exact Int32.toInt_inj.mp (by omega)
theorem own_rt {a : Int32} (h0 : 0 ≤ a.toInt) (h1 : a.toInt < 65536) : ((((a >>> ((0 : Int32) &&& 31)).toInt8.toInt32).toInt8.toInt32 &&& (255 : Int32)) <<< ((0 : Int32) &&& 31)) ||| ((((a >>> ((8 : Int32) &&& 31)).toInt8.toInt32).toInt8.toInt32 &&& (255 : Int32)) <<< ((8 : Int32) &&& 31)) = a := by
  have s0 := c_ishr a 0 0 (by decide)
  have s8 := c_ishr a 8 8 (by decide)
  have b0 := c_i2b (a >>> ((0 : Int32) &&& 31))
  have b0' := c_i2b (a >>> ((0 : Int32) &&& 31)).toInt8.toInt32
  have b8 := c_i2b (a >>> ((8 : Int32) &&& 31))
  have b8' := c_i2b (a >>> ((8 : Int32) &&& 31)).toInt8.toInt32
  have m0 := c_mask (((a >>> ((0 : Int32) &&& 31)).toInt8.toInt32).toInt8.toInt32) 255 8 (by decide) (by decide)
  have m8 := c_mask (((a >>> ((8 : Int32) &&& 31)).toInt8.toInt32).toInt8.toInt32) 255 8 (by decide) (by decide)
  have l0 := c_ishl ((((a >>> ((0 : Int32) &&& 31)).toInt8.toInt32).toInt8.toInt32) &&& (255 : Int32)) 0 0 (by decide)
  have l8 := c_ishl ((((a >>> ((8 : Int32) &&& 31)).toInt8.toInt32).toInt8.toInt32) &&& (255 : Int32)) 8 8 (by decide)
  have r0 := Int32.toInt_lt (((((a >>> ((0 : Int32) &&& 31)).toInt8.toInt32).toInt8.toInt32) &&& (255 : Int32)) <<< ((0 : Int32) &&& 31))
  have r0' := Int32.le_toInt (((((a >>> ((0 : Int32) &&& 31)).toInt8.toInt32).toInt8.toInt32) &&& (255 : Int32)) <<< ((0 : Int32) &&& 31))
  have r8 := Int32.toInt_lt (((((a >>> ((8 : Int32) &&& 31)).toInt8.toInt32).toInt8.toInt32) &&& (255 : Int32)) <<< ((8 : Int32) &&& 31))
  have r8' := Int32.le_toInt (((((a >>> ((8 : Int32) &&& 31)).toInt8.toInt32).toInt8.toInt32) &&& (255 : Int32)) <<< ((8 : Int32) &&& 31))
  have o := c_or' (((((a >>> ((0 : Int32) &&& 31)).toInt8.toInt32).toInt8.toInt32) &&& (255 : Int32)) <<< ((0 : Int32) &&& 31)) (((((a >>> ((8 : Int32) &&& 31)).toInt8.toInt32).toInt8.toInt32) &&& (255 : Int32)) <<< ((8 : Int32) &&& 31)) 8 (by decide) 256 (by decide) (by omega) (by omega) (by omega)
  have q := Int32.toInt_lt ((((a >>> ((0 : Int32) &&& 31)).toInt8.toInt32).toInt8.toInt32 &&& (255 : Int32)) <<< ((0 : Int32) &&& 31) ||| (((a >>> ((8 : Int32) &&& 31)).toInt8.toInt32).toInt8.toInt32 &&& (255 : Int32)) <<< ((8 : Int32) &&& 31))
  have q' := Int32.le_toInt ((((a >>> ((0 : Int32) &&& 31)).toInt8.toInt32).toInt8.toInt32 &&& (255 : Int32)) <<< ((0 : Int32) &&& 31) ||| (((a >>> ((8 : Int32) &&& 31)).toInt8.toInt32).toInt8.toInt32 &&& (255 : Int32)) <<< ((8 : Int32) &&& 31))
  exact Int32.toInt_inj.mp (by omega)
theorem own_rg {x : Int32} (h : x.toUInt32.toUInt16.toUInt32.toInt32 = x) : 0 ≤ x.toInt ∧ x.toInt < 65536 := by
  have a := c_i2c x
  rw [h] at a
  exact a.2
theorem own_gcb {g_ : Nat → Int32} (h : 0 ≤ (g_ 0).toInt ∧ (g_ 0).toInt < 65536) : f_28b (f_24t_1 g_) = g_ 0 := by
  show nar .char ((((((((g_ 0) >>> ((0 : Int32) &&& 31)).toInt8.toInt32).toInt8.toInt32) &&& (255 : Int32)) <<< ((0 : Int32) &&& 31)) ||| ((((((g_ 0) >>> ((8 : Int32) &&& 31)).toInt8.toInt32).toInt8.toInt32) &&& (255 : Int32)) <<< ((8 : Int32) &&& 31))).toUInt32.toUInt16.toUInt32.toInt32) = g_ 0
  rw [own_rt h.1 h.2, own_i2c_r h.1 h.2]
  exact own_i2c_r h.1 h.2
theorem own_gcc {g_ : Nat → Int32} (h : 0 ≤ (g_ 1).toInt ∧ (g_ 1).toInt < 65536) : f_28c (f_24t_1 g_) = g_ 1 := by
  show nar .char ((((((((g_ 1) >>> ((0 : Int32) &&& 31)).toInt8.toInt32).toInt8.toInt32) &&& (255 : Int32)) <<< ((0 : Int32) &&& 31)) ||| ((((((g_ 1) >>> ((8 : Int32) &&& 31)).toInt8.toInt32).toInt8.toInt32) &&& (255 : Int32)) <<< ((8 : Int32) &&& 31))).toUInt32.toUInt16.toUInt32.toInt32) = g_ 1
  rw [own_rt h.1 h.2, own_i2c_r h.1 h.2]
  exact own_i2c_r h.1 h.2
theorem own_gca {c : Int32} (h : 0 ≤ c.toInt ∧ c.toInt < 65536) : f_28a (f_29_1 c) = c := by
  show nar .char (((((((c >>> ((0 : Int32) &&& 31)).toInt8.toInt32).toInt8.toInt32) &&& (255 : Int32)) <<< ((0 : Int32) &&& 31)) ||| (((((c >>> ((8 : Int32) &&& 31)).toInt8.toInt32).toInt8.toInt32) &&& (255 : Int32)) <<< ((8 : Int32) &&& 31))).toUInt32.toUInt16.toUInt32.toInt32) = c
  rw [own_rt h.1 h.2, own_i2c_r h.1 h.2]
  exact own_i2c_r h.1 h.2
theorem own_gA {g_ : Nat → Int32} (hr : (g_ 0).toUInt32.toUInt16.toUInt32.toInt32 = g_ 0) (h : (255 : Int32) < g_ 0) : (255 : Int32) < f_28b (f_24t_1 g_) := by
  rw [own_gcb (own_rg hr)]; exact h
theorem own_gB {g_ : Nat → Int32} (hr : (g_ 1).toUInt32.toUInt16.toUInt32.toInt32 = g_ 1) (h : (255 : Int32) < g_ 1) : (255 : Int32) < f_28c (f_24t_1 g_) := by
  rw [own_gcc (own_rg hr)]; exact h
theorem d13_0 : decode jdk_52_method_15_code 0 = .ok (.iload_n 1, 1) := by decide +kernel
theorem d13_1 : decode jdk_52_method_15_code 1 = .ok (.aload_n 0, 1) := by decide +kernel
theorem d13_2 : decode jdk_52_method_15_code 2 = .ok (.arraylength, 1) := by decide +kernel
theorem d13_3 : decode jdk_52_method_15_code 3 = .ok (.isub, 1) := by decide +kernel
theorem d13_4 : decode jdk_52_method_15_code 4 = .ok (.bipush 31, 2) := by decide +kernel
theorem d13_6 : decode jdk_52_method_15_code 6 = .ok (.iushr, 1) := by decide +kernel
theorem d13_7 : decode jdk_52_method_15_code 7 = .ok (.i2b, 1) := by decide +kernel
theorem d13_8 : decode jdk_52_method_15_code 8 = .ok (.ireturn, 1) := by decide +kernel
theorem pn_13 : plainName "java/lang/StringUTF16" = true := by first | (simp [plainName, overriddenIn]; done) | decide +kernel
theorem ef_13n2 (m : MethodId) (p0 : Addr) : entryFrame m #[(.ref p0), (.int (2 : Int32))] 2 = mkF m 0 #[vR p0, vI (2 : Int32)] [] := by first | (simp [entryFrame, mkF, argsToLocals, Value.category]; done) | rfl
def f_13n2 (x_ : Nat → Int32) : Int32 := (nar .byte (0 : Int32))
def Q_13n2 (Z : State) (p0 : Addr) (x_ : Nat → Int32) (h0 : Heap) (n0 : Nat) (v : Option Value) (h : Heap) (L : List Loc) : Prop := v = some (.int (f_13n2 x_)) ∧ Fr n0 L ∧ h = h0
theorem rm_13n2 (l : Launch) (Z : State) (a0 : Array Value) (hw : ∀ d ∈ tables_1, d.before a0 Z = true) (ws : List Jvm.Cond) (p0 : Addr) (x_ : Nat → Int32) (h0 : Heap) (n0 : Nat) (Z0 : n0 ≤ h0.size) (A_p0 : own_A Z h0 p0 .byte 2 (fun i => .int (x_ i))) :
    MetFree l (⟨"java/lang/StringUTF16", "coderFromArrayLen", "([BI)B"⟩ : MethodName) (head1 (Jvm.Cond.code (⟨"java/lang/StringUTF16", "coderFromArrayLen", "([BI)B"⟩ : MethodName) jdk_52_method_15_code 2 (some .byte) :: ws) (⟨0, 0, 0, 0⟩ : Room)) (fun a U => a = #[(.ref p0), (.int (2 : Int32))] ∧ Z.Warmed39 U.vm ∧ U.heap = h0) (fun _ _ _ _ _ => True) (fun _ U o U' => ∃ v L, o = .returned v ∧ Q_13n2 Z p0 x_ h0 n0 v U'.heap L ∧ FrameEnd U o U' L 0 0) := by
  refine MetFree.of_bodySF (plainFor_of_name pn_13) hisR ?_
  intro p e s m args below meth c s₁ Bd hml0 hP hK
  obtain ⟨rfl, hZ, hh⟩ := hP
  have hx := Bd.exec
  have hby := Bd.bytes
  have hml : c.maxLocals = 2 := hml0
  have hown : s.vm.findClass "java/lang/StringUTF16" = some m.cls := findClass_of_methodNamed Bd.named
  have hnm := (name_of_methodNamed Bd.named Bd.method).1
  have X0 : Stand p l e (⟨0, 0, 0, 0⟩ : Room) s m #[(.ref p0), (.int (2 : Int32))] below meth c s₁ [] 0 0 := Stand.of_body Bd
  have e0 : s₁.heap = h0 := by rw [← hh, Bd.state]; rfl
  have N0 := Fr.nil n0
  have K0 : Keep h0 h0 [] := Keep.refl h0 _
  have pre0 : ∀ t, SP p e below (s₁.setTop (mkF m 0 #[vR p0, vI (2 : Int32)] [])) t → SP p e below (s₁.setTop (entryFrame m #[(.ref p0), (.int (2 : Int32))] 2)) t := fun t k => castTop (ef_13n2 m p0) k
  have pre1 : ∀ t, SP p e below (s₁.setTop (mkF m 8 #[vR p0, vI (2 : Int32)] [(.int (((((2 : Int32) - (2 : Int32)).toUInt32 >>> ((31 : Int32) &&& 31).toUInt32).toInt32).toInt8.toInt32))])) t → SP p e below (s₁.setTop (entryFrame m #[(.ref p0), (.int (2 : Int32))] 2)) t := by
    intro t k
    refine pre0 t ?_
    show SP p e below (s₁.setTop (mkF m 0 #[vR p0, vI (2 : Int32)] [])) _
    refine XS.iloadN X0.here hx rfl (hb hby d13_0) rfl  ?_
    show SP p e below (s₁.setTop (mkF m 1 #[vR p0, vI (2 : Int32)] [(.int (2 : Int32))])) _
    refine XS.aloadN X0.here hx rfl (hb hby d13_1) rfl rfl ?_
    show SP p e below (s₁.setTop (mkF m 2 #[vR p0, vI (2 : Int32)] [(.ref p0), (.int (2 : Int32))])) _
    refine own_len X0 hx hZ e0 A_p0 (z := (2 : Int32)) rfl (g := (mkF m 2 #[vR p0, vI (2 : Int32)] [(.ref p0), (.int (2 : Int32))])) rfl rfl (hb hby d13_2) ?_
    show SP p e below (s₁.setTop (mkF m 3 #[vR p0, vI (2 : Int32)] [(.int (2 : Int32)), (.int (2 : Int32))])) _
    refine XS.isub X0.here hx rfl (hb hby d13_3) rfl ?_
    show SP p e below (s₁.setTop (mkF m 4 #[vR p0, vI (2 : Int32)] [(.int ((2 : Int32) - (2 : Int32)))])) _
    refine XS.bipush X0.here hx rfl (hb hby d13_4) ?_
    show SP p e below (s₁.setTop (mkF m 6 #[vR p0, vI (2 : Int32)] [(.int (31 : Int32)), (.int ((2 : Int32) - (2 : Int32)))])) _
    refine XS.iushr X0.here hx rfl (hb hby d13_6) rfl ?_
    show SP p e below (s₁.setTop (mkF m 7 #[vR p0, vI (2 : Int32)] [(.int ((((2 : Int32) - (2 : Int32)).toUInt32 >>> ((31 : Int32) &&& 31).toUInt32).toInt32))])) _
    refine XS.i2b X0.here hx rfl (hb hby d13_7) rfl ?_
    exact k
  have hl2 : (((((2 : Int32) - (2 : Int32)).toUInt32 >>> ((31 : Int32) &&& 31).toUInt32).toInt32).toInt8.toInt32) = (0 : Int32) := by decide
  have preL2 : ∀ t, SP p e below (s₁.setTop (mkF m 8 #[vR p0, vI (2 : Int32)] [(.int (0 : Int32))])) t → SP p e below (s₁.setTop (entryFrame m #[(.ref p0), (.int (2 : Int32))] 2)) t := by
    intro t k_
    refine pre1 t ?_
    rw [hl2]
    exact k_
  obtain ⟨fs, hr, hrun, hended, hW, hsame⟩ := X0.leave (v := some (.int (nar .byte (0 : Int32)))) (fun h => by rw [Bd.returns] at h; cases h) (BodyLoose.notSynchronized Bd)
  refine ⟨_, _, preL2 _ ?_, hrun, hended, _, _, rfl, ?_, ⟨_, rfl⟩, hW, hsame.mono (by decide) (by decide)⟩
  · show SP p e below (s₁.setTop (mkF m 8 #[vR p0, vI (2 : Int32)] [(.int (0 : Int32))])) _
    exact retN X0 hx (t := .byte) Bd.returns (by simp) (hb hby d13_8) hr
  · show Q_13n2 Z p0 x_ h0 n0 _ s₁.heap _
    rw [e0]
    exact ⟨congrArg (fun z => some (Value.int z)) (by rfl : (nar .byte (0 : Int32)) = f_13n2 x_), N0, rfl⟩
theorem ef_13n4 (m : MethodId) (p0 : Addr) : entryFrame m #[(.ref p0), (.int (2 : Int32))] 2 = mkF m 0 #[vR p0, vI (2 : Int32)] [] := by first | (simp [entryFrame, mkF, argsToLocals, Value.category]; done) | rfl
def f_13n4 (x_ : Nat → Int32) : Int32 := (nar .byte (1 : Int32))
def Q_13n4 (Z : State) (p0 : Addr) (x_ : Nat → Int32) (h0 : Heap) (n0 : Nat) (v : Option Value) (h : Heap) (L : List Loc) : Prop := v = some (.int (f_13n4 x_)) ∧ Fr n0 L ∧ h = h0
theorem rm_13n4 (l : Launch) (Z : State) (a0 : Array Value) (hw : ∀ d ∈ tables_1, d.before a0 Z = true) (ws : List Jvm.Cond) (p0 : Addr) (x_ : Nat → Int32) (h0 : Heap) (n0 : Nat) (Z0 : n0 ≤ h0.size) (A_p0 : own_A Z h0 p0 .byte 4 (fun i => .int (x_ i))) :
    MetFree l (⟨"java/lang/StringUTF16", "coderFromArrayLen", "([BI)B"⟩ : MethodName) (head1 (Jvm.Cond.code (⟨"java/lang/StringUTF16", "coderFromArrayLen", "([BI)B"⟩ : MethodName) jdk_52_method_15_code 2 (some .byte) :: ws) (⟨0, 0, 0, 0⟩ : Room)) (fun a U => a = #[(.ref p0), (.int (2 : Int32))] ∧ Z.Warmed39 U.vm ∧ U.heap = h0) (fun _ _ _ _ _ => True) (fun _ U o U' => ∃ v L, o = .returned v ∧ Q_13n4 Z p0 x_ h0 n0 v U'.heap L ∧ FrameEnd U o U' L 0 0) := by
  refine MetFree.of_bodySF (plainFor_of_name pn_13) hisR ?_
  intro p e s m args below meth c s₁ Bd hml0 hP hK
  obtain ⟨rfl, hZ, hh⟩ := hP
  have hx := Bd.exec
  have hby := Bd.bytes
  have hml : c.maxLocals = 2 := hml0
  have hown : s.vm.findClass "java/lang/StringUTF16" = some m.cls := findClass_of_methodNamed Bd.named
  have hnm := (name_of_methodNamed Bd.named Bd.method).1
  have X0 : Stand p l e (⟨0, 0, 0, 0⟩ : Room) s m #[(.ref p0), (.int (2 : Int32))] below meth c s₁ [] 0 0 := Stand.of_body Bd
  have e0 : s₁.heap = h0 := by rw [← hh, Bd.state]; rfl
  have N0 := Fr.nil n0
  have K0 : Keep h0 h0 [] := Keep.refl h0 _
  have pre0 : ∀ t, SP p e below (s₁.setTop (mkF m 0 #[vR p0, vI (2 : Int32)] [])) t → SP p e below (s₁.setTop (entryFrame m #[(.ref p0), (.int (2 : Int32))] 2)) t := fun t k => castTop (ef_13n4 m p0) k
  have pre1 : ∀ t, SP p e below (s₁.setTop (mkF m 8 #[vR p0, vI (2 : Int32)] [(.int (((((2 : Int32) - (4 : Int32)).toUInt32 >>> ((31 : Int32) &&& 31).toUInt32).toInt32).toInt8.toInt32))])) t → SP p e below (s₁.setTop (entryFrame m #[(.ref p0), (.int (2 : Int32))] 2)) t := by
    intro t k
    refine pre0 t ?_
    show SP p e below (s₁.setTop (mkF m 0 #[vR p0, vI (2 : Int32)] [])) _
    refine XS.iloadN X0.here hx rfl (hb hby d13_0) rfl  ?_
    show SP p e below (s₁.setTop (mkF m 1 #[vR p0, vI (2 : Int32)] [(.int (2 : Int32))])) _
    refine XS.aloadN X0.here hx rfl (hb hby d13_1) rfl rfl ?_
    show SP p e below (s₁.setTop (mkF m 2 #[vR p0, vI (2 : Int32)] [(.ref p0), (.int (2 : Int32))])) _
    refine own_len X0 hx hZ e0 A_p0 (z := (4 : Int32)) rfl (g := (mkF m 2 #[vR p0, vI (2 : Int32)] [(.ref p0), (.int (2 : Int32))])) rfl rfl (hb hby d13_2) ?_
    show SP p e below (s₁.setTop (mkF m 3 #[vR p0, vI (2 : Int32)] [(.int (4 : Int32)), (.int (2 : Int32))])) _
    refine XS.isub X0.here hx rfl (hb hby d13_3) rfl ?_
    show SP p e below (s₁.setTop (mkF m 4 #[vR p0, vI (2 : Int32)] [(.int ((2 : Int32) - (4 : Int32)))])) _
    refine XS.bipush X0.here hx rfl (hb hby d13_4) ?_
    show SP p e below (s₁.setTop (mkF m 6 #[vR p0, vI (2 : Int32)] [(.int (31 : Int32)), (.int ((2 : Int32) - (4 : Int32)))])) _
    refine XS.iushr X0.here hx rfl (hb hby d13_6) rfl ?_
    show SP p e below (s₁.setTop (mkF m 7 #[vR p0, vI (2 : Int32)] [(.int ((((2 : Int32) - (4 : Int32)).toUInt32 >>> ((31 : Int32) &&& 31).toUInt32).toInt32))])) _
    refine XS.i2b X0.here hx rfl (hb hby d13_7) rfl ?_
    exact k
  have hl2 : (((((2 : Int32) - (4 : Int32)).toUInt32 >>> ((31 : Int32) &&& 31).toUInt32).toInt32).toInt8.toInt32) = (1 : Int32) := by decide
  have preL2 : ∀ t, SP p e below (s₁.setTop (mkF m 8 #[vR p0, vI (2 : Int32)] [(.int (1 : Int32))])) t → SP p e below (s₁.setTop (entryFrame m #[(.ref p0), (.int (2 : Int32))] 2)) t := by
    intro t k_
    refine pre1 t ?_
    rw [hl2]
    exact k_
  obtain ⟨fs, hr, hrun, hended, hW, hsame⟩ := X0.leave (v := some (.int (nar .byte (1 : Int32)))) (fun h => by rw [Bd.returns] at h; cases h) (BodyLoose.notSynchronized Bd)
  refine ⟨_, _, preL2 _ ?_, hrun, hended, _, _, rfl, ?_, ⟨_, rfl⟩, hW, hsame.mono (by decide) (by decide)⟩
  · show SP p e below (s₁.setTop (mkF m 8 #[vR p0, vI (2 : Int32)] [(.int (1 : Int32))])) _
    exact retN X0 hx (t := .byte) Bd.returns (by simp) (hb hby d13_8) hr
  · show Q_13n4 Z p0 x_ h0 n0 _ s₁.heap _
    rw [e0]
    exact ⟨congrArg (fun z => some (Value.int z)) (by rfl : (nar .byte (1 : Int32)) = f_13n4 x_), N0, rfl⟩
theorem d12_0 : decode jdk_52_method_21_code 0 = .ok (.iconst 0, 1) := by decide +kernel
theorem d12_1 : decode jdk_52_method_21_code 1 = .ok (.istore 5, 2) := by decide +kernel
theorem d12_3 : decode jdk_52_method_21_code 3 = .ok (.iload 5, 2) := by decide +kernel
theorem d12_5 : decode jdk_52_method_21_code 5 = .ok (.iload 4, 2) := by decide +kernel
theorem d12_7 : decode jdk_52_method_21_code 7 = .ok (.if_icmp .ge 37, 3) := by decide +kernel
theorem d12_10 : decode jdk_52_method_21_code 10 = .ok (.aload_n 0, 1) := by decide +kernel
theorem d12_11 : decode jdk_52_method_21_code 11 = .ok (.iload_n 1, 1) := by decide +kernel
theorem d12_12 : decode jdk_52_method_21_code 12 = .ok (.caload, 1) := by decide +kernel
theorem d12_13 : decode jdk_52_method_21_code 13 = .ok (.istore 6, 2) := by decide +kernel
theorem d12_15 : decode jdk_52_method_21_code 15 = .ok (.iload 6, 2) := by decide +kernel
theorem d12_17 : decode jdk_52_method_21_code 17 = .ok (.sipush 255, 3) := by decide +kernel
theorem d12_20 : decode jdk_52_method_21_code 20 = .ok (.if_icmp .le 6, 3) := by decide +kernel
theorem d12_26 : decode jdk_52_method_21_code 26 = .ok (.aload_n 2, 1) := by decide +kernel
theorem d12_27 : decode jdk_52_method_21_code 27 = .ok (.iload_n 3, 1) := by decide +kernel
theorem d12_28 : decode jdk_52_method_21_code 28 = .ok (.iload 6, 2) := by decide +kernel
theorem d12_30 : decode jdk_52_method_21_code 30 = .ok (.i2b, 1) := by decide +kernel
theorem d12_31 : decode jdk_52_method_21_code 31 = .ok (.bastore, 1) := by decide +kernel
theorem d12_32 : decode jdk_52_method_21_code 32 = .ok (.iinc 1 1, 3) := by decide +kernel
theorem d12_35 : decode jdk_52_method_21_code 35 = .ok (.iinc 3 1, 3) := by decide +kernel
theorem d12_38 : decode jdk_52_method_21_code 38 = .ok (.iinc 5 1, 3) := by decide +kernel
theorem d12_41 : decode jdk_52_method_21_code 41 = .ok (.goto (-38), 3) := by decide +kernel
theorem d12_44 : decode jdk_52_method_21_code 44 = .ok (.iload 4, 2) := by decide +kernel
theorem d12_46 : decode jdk_52_method_21_code 46 = .ok (.ireturn, 1) := by decide +kernel
theorem pn_12 : plainName "java/lang/StringUTF16" = true := by first | (simp [plainName, overriddenIn]; done) | decide +kernel
theorem ef_12L (m : MethodId) (p0 : Addr) (p2 : Addr) : entryFrame m #[(.ref p0), (.int (0 : Int32)), (.ref p2), (.int (0 : Int32)), (.int (2 : Int32))] 7 = mkF m 0 #[vR p0, vI (0 : Int32), vR p2, vI (0 : Int32), vI (2 : Int32), .unset, .unset] [] := by first | (simp [entryFrame, mkF, argsToLocals, Value.category]; done) | rfl
def f_12L (g_ : Nat → Int32) (d_ : Nat → Int32) : Int32 := let v6_13 : Int32 := (g_ 0); let g_31 : Nat → Int32 := (own_upd d_ 0 (v6_13.toInt8.toInt32).toInt8.toInt32); let v6_13_3 : Int32 := (g_ 1); let g_31_5 : Nat → Int32 := (own_upd g_31 1 (v6_13_3.toInt8.toInt32).toInt8.toInt32); (2 : Int32)
def f_12L_1 (g_ : Nat → Int32) (d_ : Nat → Int32) : Nat → Int32 := let v6_13 : Int32 := (g_ 0); let g_31 : Nat → Int32 := (own_upd d_ 0 (v6_13.toInt8.toInt32).toInt8.toInt32); let v6_13_3 : Int32 := (g_ 1); let g_31_5 : Nat → Int32 := (own_upd g_31 1 (v6_13_3.toInt8.toInt32).toInt8.toInt32); g_31_5
def Q_12L (Z : State) (p0 : Addr) (p2 : Addr) (g_ : Nat → Int32) (d_ : Nat → Int32) (h0 : Heap) (n0 : Nat) (v : Option Value) (h : Heap) (L : List Loc) : Prop := v = some (.int (f_12L g_ d_)) ∧ Fr n0 L ∧ Keep h0 h [p2] ∧ own_A Z h p2 .byte 2 (fun i => .int ((f_12L_1 g_ d_) i))
theorem rm_12L (l : Launch) (Z : State) (a0 : Array Value) (hw : ∀ d ∈ tables_1, d.before a0 Z = true) (ws : List Jvm.Cond) (p0 : Addr) (p2 : Addr) (g_ : Nat → Int32) (d_ : Nat → Int32) (h0 : Heap) (n0 : Nat) (Z0 : n0 ≤ h0.size) (A_p0 : own_A Z h0 p0 .char 2 (fun i => .int (g_ i))) (A_p2 : own_A Z h0 p2 .byte 2 (fun i => .int (d_ i))) (ge_p2 : n0 ≤ p2) (ne_p0_p2 : p0 ≠ p2) (hc0_ : ¬ ((255 : Int32) < (g_ 0))) (hc1_ : ¬ ((255 : Int32) < (g_ 1))) :
    MetFree l (⟨"java/lang/StringUTF16", "compress", "([CI[BII)I"⟩ : MethodName) (head1 (Jvm.Cond.code (⟨"java/lang/StringUTF16", "compress", "([CI[BII)I"⟩ : MethodName) jdk_52_method_21_code 7 (some .int) :: ws) (⟨0, 0, 0, 0⟩ : Room)) (fun a U => a = #[(.ref p0), (.int (0 : Int32)), (.ref p2), (.int (0 : Int32)), (.int (2 : Int32))] ∧ Z.Warmed39 U.vm ∧ U.heap = h0) (fun _ _ _ _ _ => True) (fun _ U o U' => ∃ v L, o = .returned v ∧ Q_12L Z p0 p2 g_ d_ h0 n0 v U'.heap L ∧ FrameEnd U o U' L 0 0) := by
  refine MetFree.of_bodySF (plainFor_of_name pn_12) hisR ?_
  intro p e s m args below meth c s₁ Bd hml0 hP hK
  obtain ⟨rfl, hZ, hh⟩ := hP
  have hx := Bd.exec
  have hby := Bd.bytes
  have hml : c.maxLocals = 7 := hml0
  have hown : s.vm.findClass "java/lang/StringUTF16" = some m.cls := findClass_of_methodNamed Bd.named
  have hnm := (name_of_methodNamed Bd.named Bd.method).1
  have X0 : Stand p l e (⟨0, 0, 0, 0⟩ : Room) s m #[(.ref p0), (.int (0 : Int32)), (.ref p2), (.int (0 : Int32)), (.int (2 : Int32))] below meth c s₁ [] 0 0 := Stand.of_body Bd
  have e0 : s₁.heap = h0 := by rw [← hh, Bd.state]; rfl
  have N0 := Fr.nil n0
  have K0 : Keep h0 h0 [p2] := Keep.refl h0 _
  have pre0 : ∀ t, SP p e below (s₁.setTop (mkF m 0 #[vR p0, vI (0 : Int32), vR p2, vI (0 : Int32), vI (2 : Int32), .unset, .unset] [])) t → SP p e below (s₁.setTop (entryFrame m #[(.ref p0), (.int (0 : Int32)), (.ref p2), (.int (0 : Int32)), (.int (2 : Int32))] 7)) t := fun t k => castTop (ef_12L m p0 p2) k
  obtain ⟨v6_13, hv6_13⟩ : ∃ z : Int32, z = (g_ 0) := ⟨_, rfl⟩
  have pre1 : ∀ t, SP p e below (s₁.setTop (mkF m 31 #[vR p0, vI (0 : Int32), vR p2, vI (0 : Int32), vI (2 : Int32), vI (0 : Int32), vI v6_13] [(.int (v6_13.toInt8.toInt32)), (.int (0 : Int32)), (.ref p2)])) t → SP p e below (s₁.setTop (entryFrame m #[(.ref p0), (.int (0 : Int32)), (.ref p2), (.int (0 : Int32)), (.int (2 : Int32))] 7)) t := by
    intro t k
    refine pre0 t ?_
    show SP p e below (s₁.setTop (mkF m 0 #[vR p0, vI (0 : Int32), vR p2, vI (0 : Int32), vI (2 : Int32), .unset, .unset] [])) _
    refine XS.iconst X0.here hx rfl (hb hby d12_0) ?_
    show SP p e below (s₁.setTop (mkF m 1 #[vR p0, vI (0 : Int32), vR p2, vI (0 : Int32), vI (2 : Int32), .unset, .unset] [(.int (0 : Int32))])) _
    refine XS.istore X0.here hx rfl (hb hby d12_1) rfl (l' := #[vR p0, vI (0 : Int32), vR p2, vI (0 : Int32), vI (2 : Int32), vI (0 : Int32), .unset]) rfl ?_
    show SP p e below (s₁.setTop (mkF m 3 #[vR p0, vI (0 : Int32), vR p2, vI (0 : Int32), vI (2 : Int32), vI (0 : Int32), .unset] [])) _
    refine XS.iload X0.here hx rfl (hb hby d12_3) rfl  ?_
    show SP p e below (s₁.setTop (mkF m 5 #[vR p0, vI (0 : Int32), vR p2, vI (0 : Int32), vI (2 : Int32), vI (0 : Int32), .unset] [(.int (0 : Int32))])) _
    refine XS.iload X0.here hx rfl (hb hby d12_5) rfl  ?_
    show SP p e below (s₁.setTop (mkF m 7 #[vR p0, vI (0 : Int32), vR p2, vI (0 : Int32), vI (2 : Int32), vI (0 : Int32), .unset] [(.int (2 : Int32)), (.int (0 : Int32))])) _
    refine XS.icmpNo X0.here hx rfl (hb hby d12_7) rfl (tlt (by decide : (0 : Int32) < (2 : Int32))).2.1 ?_
    show SP p e below (s₁.setTop (mkF m 10 #[vR p0, vI (0 : Int32), vR p2, vI (0 : Int32), vI (2 : Int32), vI (0 : Int32), .unset] [])) _
    refine XS.aloadN X0.here hx rfl (hb hby d12_10) rfl rfl ?_
    show SP p e below (s₁.setTop (mkF m 11 #[vR p0, vI (0 : Int32), vR p2, vI (0 : Int32), vI (2 : Int32), vI (0 : Int32), .unset] [(.ref p0)])) _
    refine XS.iloadN X0.here hx rfl (hb hby d12_11) rfl  ?_
    show SP p e below (s₁.setTop (mkF m 12 #[vR p0, vI (0 : Int32), vR p2, vI (0 : Int32), vI (2 : Int32), vI (0 : Int32), .unset] [(.int (0 : Int32)), (.ref p0)])) _
    refine own_ldC X0 hx hZ e0 A_p0 (j := (0 : Int32)) (k := 0) (by decide) (by decide) (by decide) (g := (mkF m 12 #[vR p0, vI (0 : Int32), vR p2, vI (0 : Int32), vI (2 : Int32), vI (0 : Int32), .unset] [(.int (0 : Int32)), (.ref p0)])) rfl rfl (hb hby d12_12) ?_
    show SP p e below (s₁.setTop (mkF m 13 #[vR p0, vI (0 : Int32), vR p2, vI (0 : Int32), vI (2 : Int32), vI (0 : Int32), .unset] [(.int (g_ 0))])) _
    refine XS.istore X0.here hx rfl (hb hby d12_13) rfl (l' := #[vR p0, vI (0 : Int32), vR p2, vI (0 : Int32), vI (2 : Int32), vI (0 : Int32), vI v6_13]) (by rw [hv6_13]; rfl) ?_
    show SP p e below (s₁.setTop (mkF m 15 #[vR p0, vI (0 : Int32), vR p2, vI (0 : Int32), vI (2 : Int32), vI (0 : Int32), vI v6_13] [])) _
    refine XS.iload X0.here hx rfl (hb hby d12_15) rfl  ?_
    show SP p e below (s₁.setTop (mkF m 17 #[vR p0, vI (0 : Int32), vR p2, vI (0 : Int32), vI (2 : Int32), vI (0 : Int32), vI v6_13] [(.int v6_13)])) _
    refine XS.sipush X0.here hx rfl (hb hby d12_17) ?_
    show SP p e below (s₁.setTop (mkF m 20 #[vR p0, vI (0 : Int32), vR p2, vI (0 : Int32), vI (2 : Int32), vI (0 : Int32), vI v6_13] [(.int (255 : Int32)), (.int v6_13)])) _
    refine XS.icmpYes X0.here hx rfl (pc0 := 20) (pc' := 26) rfl (hb hby d12_20) rfl (flt ((by rw [hv6_13]; exact hc0_) : ¬ ((255 : Int32) < v6_13))).2.2.2 (by decide) (by decide) ?_
    show SP p e below (s₁.setTop (mkF m 26 #[vR p0, vI (0 : Int32), vR p2, vI (0 : Int32), vI (2 : Int32), vI (0 : Int32), vI v6_13] [])) _
    refine XS.aloadN X0.here hx rfl (hb hby d12_26) rfl rfl ?_
    show SP p e below (s₁.setTop (mkF m 27 #[vR p0, vI (0 : Int32), vR p2, vI (0 : Int32), vI (2 : Int32), vI (0 : Int32), vI v6_13] [(.ref p2)])) _
    refine XS.iloadN X0.here hx rfl (hb hby d12_27) rfl  ?_
    show SP p e below (s₁.setTop (mkF m 28 #[vR p0, vI (0 : Int32), vR p2, vI (0 : Int32), vI (2 : Int32), vI (0 : Int32), vI v6_13] [(.int (0 : Int32)), (.ref p2)])) _
    refine XS.iload X0.here hx rfl (hb hby d12_28) rfl  ?_
    show SP p e below (s₁.setTop (mkF m 30 #[vR p0, vI (0 : Int32), vR p2, vI (0 : Int32), vI (2 : Int32), vI (0 : Int32), vI v6_13] [(.int v6_13), (.int (0 : Int32)), (.ref p2)])) _
    refine XS.i2b X0.here hx rfl (hb hby d12_30) rfl ?_
    exact k
  obtain ⟨T2, h2, X2, e2, W2, A2, st2⟩ := own_stB X0 hx hZ e0 A_p2 (j := (0 : Int32)) (x := (v6_13.toInt8.toInt32)) (k := 0) (by decide) (by decide) (by decide) (g := (mkF m 31 #[vR p0, vI (0 : Int32), vR p2, vI (0 : Int32), vI (2 : Int32), vI (0 : Int32), vI v6_13] [(.int (v6_13.toInt8.toInt32)), (.int (0 : Int32)), (.ref p2)])) rfl rfl (hb hby d12_31)
  obtain ⟨g_31, hg_31⟩ : ∃ z : Nat → Int32, z = (own_upd d_ 0 (v6_13.toInt8.toInt32).toInt8.toInt32) := ⟨_, rfl⟩
  rw [← hg_31] at A2
  have arr_p0_2 := A_p0.other W2 ne_p0_p2
  have K2 := K0.wr W2 (Or.inl (List.mem_of_getElem? (i := 0) rfl))
  have Z2 := Nat.le_trans Z0 (Nat.le_of_eq W2.size.symm)
  have N2 := Fr.snoc X2 N0 ge_p2
  obtain ⟨v6_13_3, hv6_13_3⟩ : ∃ z : Int32, z = (g_ 1) := ⟨_, rfl⟩
  have pre4 : ∀ t, SP p e below (T2.setTop (mkF m 31 #[vR p0, vI (1 : Int32), vR p2, vI (1 : Int32), vI (2 : Int32), vI (1 : Int32), vI v6_13_3] [(.int (v6_13_3.toInt8.toInt32)), (.int (1 : Int32)), (.ref p2)])) t → SP p e below (s₁.setTop (entryFrame m #[(.ref p0), (.int (0 : Int32)), (.ref p2), (.int (0 : Int32)), (.int (2 : Int32))] 7)) t := by
    intro t k
    refine pre1 t ?_
    show SP p e below (s₁.setTop (mkF m 31 #[vR p0, vI (0 : Int32), vR p2, vI (0 : Int32), vI (2 : Int32), vI (0 : Int32), vI v6_13] [(.int (v6_13.toInt8.toInt32)), (.int (0 : Int32)), (.ref p2)])) _
    refine st2 _ ?_
    show SP p e below (T2.setTop (mkF m 32 #[vR p0, vI (0 : Int32), vR p2, vI (0 : Int32), vI (2 : Int32), vI (0 : Int32), vI v6_13] [])) _
    refine XS.iinc X2.here hx rfl (hb hby d12_32) rfl (l' := #[vR p0, vI (1 : Int32), vR p2, vI (0 : Int32), vI (2 : Int32), vI (0 : Int32), vI v6_13]) rfl ?_
    show SP p e below (T2.setTop (mkF m 35 #[vR p0, vI (1 : Int32), vR p2, vI (0 : Int32), vI (2 : Int32), vI (0 : Int32), vI v6_13] [])) _
    refine XS.iinc X2.here hx rfl (hb hby d12_35) rfl (l' := #[vR p0, vI (1 : Int32), vR p2, vI (1 : Int32), vI (2 : Int32), vI (0 : Int32), vI v6_13]) rfl ?_
    show SP p e below (T2.setTop (mkF m 38 #[vR p0, vI (1 : Int32), vR p2, vI (1 : Int32), vI (2 : Int32), vI (0 : Int32), vI v6_13] [])) _
    refine XS.iinc X2.here hx rfl (hb hby d12_38) rfl (l' := #[vR p0, vI (1 : Int32), vR p2, vI (1 : Int32), vI (2 : Int32), vI (1 : Int32), vI v6_13]) rfl ?_
    show SP p e below (T2.setTop (mkF m 41 #[vR p0, vI (1 : Int32), vR p2, vI (1 : Int32), vI (2 : Int32), vI (1 : Int32), vI v6_13] [])) _
    refine XS.goto X2.here hx rfl (pc0 := 41) (pc' := 3) rfl (hb hby d12_41) (by decide) (by decide) ?_
    show SP p e below (T2.setTop (mkF m 3 #[vR p0, vI (1 : Int32), vR p2, vI (1 : Int32), vI (2 : Int32), vI (1 : Int32), vI v6_13] [])) _
    refine XS.iload X2.here hx rfl (hb hby d12_3) rfl  ?_
    show SP p e below (T2.setTop (mkF m 5 #[vR p0, vI (1 : Int32), vR p2, vI (1 : Int32), vI (2 : Int32), vI (1 : Int32), vI v6_13] [(.int (1 : Int32))])) _
    refine XS.iload X2.here hx rfl (hb hby d12_5) rfl  ?_
    show SP p e below (T2.setTop (mkF m 7 #[vR p0, vI (1 : Int32), vR p2, vI (1 : Int32), vI (2 : Int32), vI (1 : Int32), vI v6_13] [(.int (2 : Int32)), (.int (1 : Int32))])) _
    refine XS.icmpNo X2.here hx rfl (hb hby d12_7) rfl (tlt (by decide : (1 : Int32) < (2 : Int32))).2.1 ?_
    show SP p e below (T2.setTop (mkF m 10 #[vR p0, vI (1 : Int32), vR p2, vI (1 : Int32), vI (2 : Int32), vI (1 : Int32), vI v6_13] [])) _
    refine XS.aloadN X2.here hx rfl (hb hby d12_10) rfl rfl ?_
    show SP p e below (T2.setTop (mkF m 11 #[vR p0, vI (1 : Int32), vR p2, vI (1 : Int32), vI (2 : Int32), vI (1 : Int32), vI v6_13] [(.ref p0)])) _
    refine XS.iloadN X2.here hx rfl (hb hby d12_11) rfl  ?_
    show SP p e below (T2.setTop (mkF m 12 #[vR p0, vI (1 : Int32), vR p2, vI (1 : Int32), vI (2 : Int32), vI (1 : Int32), vI v6_13] [(.int (1 : Int32)), (.ref p0)])) _
    refine own_ldC X2 hx hZ e2 arr_p0_2 (j := (1 : Int32)) (k := 1) (by decide) (by decide) (by decide) (g := (mkF m 12 #[vR p0, vI (1 : Int32), vR p2, vI (1 : Int32), vI (2 : Int32), vI (1 : Int32), vI v6_13] [(.int (1 : Int32)), (.ref p0)])) rfl rfl (hb hby d12_12) ?_
    show SP p e below (T2.setTop (mkF m 13 #[vR p0, vI (1 : Int32), vR p2, vI (1 : Int32), vI (2 : Int32), vI (1 : Int32), vI v6_13] [(.int (g_ 1))])) _
    refine XS.istore X2.here hx rfl (hb hby d12_13) rfl (l' := #[vR p0, vI (1 : Int32), vR p2, vI (1 : Int32), vI (2 : Int32), vI (1 : Int32), vI v6_13_3]) (by rw [hv6_13_3]; rfl) ?_
    show SP p e below (T2.setTop (mkF m 15 #[vR p0, vI (1 : Int32), vR p2, vI (1 : Int32), vI (2 : Int32), vI (1 : Int32), vI v6_13_3] [])) _
    refine XS.iload X2.here hx rfl (hb hby d12_15) rfl  ?_
    show SP p e below (T2.setTop (mkF m 17 #[vR p0, vI (1 : Int32), vR p2, vI (1 : Int32), vI (2 : Int32), vI (1 : Int32), vI v6_13_3] [(.int v6_13_3)])) _
    refine XS.sipush X2.here hx rfl (hb hby d12_17) ?_
    show SP p e below (T2.setTop (mkF m 20 #[vR p0, vI (1 : Int32), vR p2, vI (1 : Int32), vI (2 : Int32), vI (1 : Int32), vI v6_13_3] [(.int (255 : Int32)), (.int v6_13_3)])) _
    refine XS.icmpYes X2.here hx rfl (pc0 := 20) (pc' := 26) rfl (hb hby d12_20) rfl (flt ((by rw [hv6_13_3]; exact hc1_) : ¬ ((255 : Int32) < v6_13_3))).2.2.2 (by decide) (by decide) ?_
    show SP p e below (T2.setTop (mkF m 26 #[vR p0, vI (1 : Int32), vR p2, vI (1 : Int32), vI (2 : Int32), vI (1 : Int32), vI v6_13_3] [])) _
    refine XS.aloadN X2.here hx rfl (hb hby d12_26) rfl rfl ?_
    show SP p e below (T2.setTop (mkF m 27 #[vR p0, vI (1 : Int32), vR p2, vI (1 : Int32), vI (2 : Int32), vI (1 : Int32), vI v6_13_3] [(.ref p2)])) _
    refine XS.iloadN X2.here hx rfl (hb hby d12_27) rfl  ?_
    show SP p e below (T2.setTop (mkF m 28 #[vR p0, vI (1 : Int32), vR p2, vI (1 : Int32), vI (2 : Int32), vI (1 : Int32), vI v6_13_3] [(.int (1 : Int32)), (.ref p2)])) _
    refine XS.iload X2.here hx rfl (hb hby d12_28) rfl  ?_
    show SP p e below (T2.setTop (mkF m 30 #[vR p0, vI (1 : Int32), vR p2, vI (1 : Int32), vI (2 : Int32), vI (1 : Int32), vI v6_13_3] [(.int v6_13_3), (.int (1 : Int32)), (.ref p2)])) _
    refine XS.i2b X2.here hx rfl (hb hby d12_30) rfl ?_
    exact k
  obtain ⟨T5, h5, X5, e5, W5, A5, st5⟩ := own_stB X2 hx hZ e2 A2 (j := (1 : Int32)) (x := (v6_13_3.toInt8.toInt32)) (k := 1) (by decide) (by decide) (by decide) (g := (mkF m 31 #[vR p0, vI (1 : Int32), vR p2, vI (1 : Int32), vI (2 : Int32), vI (1 : Int32), vI v6_13_3] [(.int (v6_13_3.toInt8.toInt32)), (.int (1 : Int32)), (.ref p2)])) rfl rfl (hb hby d12_31)
  obtain ⟨g_31_5, hg_31_5⟩ : ∃ z : Nat → Int32, z = (own_upd g_31 1 (v6_13_3.toInt8.toInt32).toInt8.toInt32) := ⟨_, rfl⟩
  rw [← hg_31_5] at A5
  have arr_p0_5 := arr_p0_2.other W5 ne_p0_p2
  have K5 := K2.wr W5 (Or.inl (List.mem_of_getElem? (i := 0) rfl))
  have Z5 := Nat.le_trans Z2 (Nat.le_of_eq W5.size.symm)
  have N5 := Fr.snoc X5 N2 ge_p2
  obtain ⟨fs, hr, hrun, hended, hW, hsame⟩ := X5.leave (v := some (.int (2 : Int32))) (fun h => by rw [Bd.returns] at h; cases h) (BodyLoose.notSynchronized Bd)
  refine ⟨_, _, pre4 _ ?_, hrun, hended, _, _, rfl, ?_, ⟨_, rfl⟩, hW, hsame.mono (by decide) (by decide)⟩
  · show SP p e below (T2.setTop (mkF m 31 #[vR p0, vI (1 : Int32), vR p2, vI (1 : Int32), vI (2 : Int32), vI (1 : Int32), vI v6_13_3] [(.int (v6_13_3.toInt8.toInt32)), (.int (1 : Int32)), (.ref p2)])) _
    refine st5 _ ?_
    show SP p e below (T5.setTop (mkF m 32 #[vR p0, vI (1 : Int32), vR p2, vI (1 : Int32), vI (2 : Int32), vI (1 : Int32), vI v6_13_3] [])) _
    refine XS.iinc X5.here hx rfl (hb hby d12_32) rfl (l' := #[vR p0, vI (2 : Int32), vR p2, vI (1 : Int32), vI (2 : Int32), vI (1 : Int32), vI v6_13_3]) rfl ?_
    show SP p e below (T5.setTop (mkF m 35 #[vR p0, vI (2 : Int32), vR p2, vI (1 : Int32), vI (2 : Int32), vI (1 : Int32), vI v6_13_3] [])) _
    refine XS.iinc X5.here hx rfl (hb hby d12_35) rfl (l' := #[vR p0, vI (2 : Int32), vR p2, vI (2 : Int32), vI (2 : Int32), vI (1 : Int32), vI v6_13_3]) rfl ?_
    show SP p e below (T5.setTop (mkF m 38 #[vR p0, vI (2 : Int32), vR p2, vI (2 : Int32), vI (2 : Int32), vI (1 : Int32), vI v6_13_3] [])) _
    refine XS.iinc X5.here hx rfl (hb hby d12_38) rfl (l' := #[vR p0, vI (2 : Int32), vR p2, vI (2 : Int32), vI (2 : Int32), vI (2 : Int32), vI v6_13_3]) rfl ?_
    show SP p e below (T5.setTop (mkF m 41 #[vR p0, vI (2 : Int32), vR p2, vI (2 : Int32), vI (2 : Int32), vI (2 : Int32), vI v6_13_3] [])) _
    refine XS.goto X5.here hx rfl (pc0 := 41) (pc' := 3) rfl (hb hby d12_41) (by decide) (by decide) ?_
    show SP p e below (T5.setTop (mkF m 3 #[vR p0, vI (2 : Int32), vR p2, vI (2 : Int32), vI (2 : Int32), vI (2 : Int32), vI v6_13_3] [])) _
    refine XS.iload X5.here hx rfl (hb hby d12_3) rfl  ?_
    show SP p e below (T5.setTop (mkF m 5 #[vR p0, vI (2 : Int32), vR p2, vI (2 : Int32), vI (2 : Int32), vI (2 : Int32), vI v6_13_3] [(.int (2 : Int32))])) _
    refine XS.iload X5.here hx rfl (hb hby d12_5) rfl  ?_
    show SP p e below (T5.setTop (mkF m 7 #[vR p0, vI (2 : Int32), vR p2, vI (2 : Int32), vI (2 : Int32), vI (2 : Int32), vI v6_13_3] [(.int (2 : Int32)), (.int (2 : Int32))])) _
    refine XS.icmpYes X5.here hx rfl (pc0 := 7) (pc' := 44) rfl (hb hby d12_7) rfl (flt (by decide : ¬ ((2 : Int32) < (2 : Int32)))).2.1 (by decide) (by decide) ?_
    show SP p e below (T5.setTop (mkF m 44 #[vR p0, vI (2 : Int32), vR p2, vI (2 : Int32), vI (2 : Int32), vI (2 : Int32), vI v6_13_3] [])) _
    refine XS.iload X5.here hx rfl (hb hby d12_44) rfl  ?_
    show SP p e below (T5.setTop (mkF m 46 #[vR p0, vI (2 : Int32), vR p2, vI (2 : Int32), vI (2 : Int32), vI (2 : Int32), vI v6_13_3] [(.int (2 : Int32))])) _
    exact retI X5 hx Bd.returns (hb hby d12_46) hr
  · show Q_12L Z p0 p2 g_ d_ h0 n0 _ T5.heap _
    rw [e5]
    have o1 := (by subst hv6_13 hg_31 hv6_13_3 hg_31_5; rfl : g_31_5 = f_12L_1 g_ d_)
    have r1 := A5
    rw [o1] at r1
    exact ⟨congrArg (fun z => some (Value.int z)) (by subst hv6_13 hg_31 hv6_13_3 hg_31_5; rfl : (2 : Int32) = f_12L g_ d_), N5, K5, r1⟩
theorem pd_9 : parseMethodDescriptor "([CI[BII)I" = some ⟨[(.array .char), .int, (.array .byte), .int, .int], some .int⟩ := by decide +kernel
theorem d11_0 : decode jdk_52_method_16_code 0 = .ok (.iload_n 2, 1) := by decide +kernel
theorem d11_1 : decode jdk_52_method_16_code 1 = .ok (.newarray .byte, 2) := by decide +kernel
theorem d11_3 : decode jdk_52_method_16_code 3 = .ok (.astore_n 3, 1) := by decide +kernel
theorem d11_4 : decode jdk_52_method_16_code 4 = .ok (.aload_n 0, 1) := by decide +kernel
theorem d11_5 : decode jdk_52_method_16_code 5 = .ok (.iload_n 1, 1) := by decide +kernel
theorem d11_6 : decode jdk_52_method_16_code 6 = .ok (.aload_n 3, 1) := by decide +kernel
theorem d11_7 : decode jdk_52_method_16_code 7 = .ok (.iconst 0, 1) := by decide +kernel
theorem d11_8 : decode jdk_52_method_16_code 8 = .ok (.iload_n 2, 1) := by decide +kernel
theorem d11_9 : decode jdk_52_method_16_code 9 = .ok (.invokestatic 115, 3) := by decide +kernel
theorem d11_12 : decode jdk_52_method_16_code 12 = .ok (.istore 4, 2) := by decide +kernel
theorem d11_14 : decode jdk_52_method_16_code 14 = .ok (.iload 4, 2) := by decide +kernel
theorem d11_16 : decode jdk_52_method_16_code 16 = .ok (.iload_n 2, 1) := by decide +kernel
theorem d11_17 : decode jdk_52_method_16_code 17 = .ok (.if_icmp .eq 40, 3) := by decide +kernel
theorem d11_57 : decode jdk_52_method_16_code 57 = .ok (.aload_n 3, 1) := by decide +kernel
theorem d11_58 : decode jdk_52_method_16_code 58 = .ok (.areturn, 1) := by decide +kernel
theorem pn_11 : plainName "java/lang/StringUTF16" = true := by first | (simp [plainName, overriddenIn]; done) | decide +kernel
theorem ef_11L (m : MethodId) (p0 : Addr) : entryFrame m #[(.ref p0), (.int (0 : Int32)), (.int (2 : Int32))] 6 = mkF m 0 #[vR p0, vI (0 : Int32), vI (2 : Int32), .unset, .unset, .unset] [] := by first | (simp [entryFrame, mkF, argsToLocals, Value.category]; done) | rfl
def f_11L_1 (g_ : Nat → Int32) : Nat → Int32 := (f_12L_1 g_ own_zI)
def Q_11L (Z : State) (p0 : Addr) (g_ : Nat → Int32) (h0 : Heap) (n0 : Nat) (v : Option Value) (h : Heap) (L : List Loc) : Prop := ∃ r : Addr, v = some (.ref r) ∧ Fr n0 L ∧ h0.size ≤ r ∧ Keep h0 h [] ∧ own_A Z h r .byte 2 (fun i => .int ((f_11L_1 g_) i))
theorem rm_11L (l : Launch) (Z : State) (a0 : Array Value) (hw : ∀ d ∈ tables_1, d.before a0 Z = true) (ws : List Jvm.Cond) (p0 : Addr) (g_ : Nat → Int32) (h0 : Heap) (n0 : Nat) (Z0 : n0 ≤ h0.size) (A_p0 : own_A Z h0 p0 .char 2 (fun i => .int (g_ i))) (hc0_ : ¬ ((255 : Int32) < (g_ 0))) (hc1_ : ¬ ((255 : Int32) < (g_ 1))) :
    MetFree l (⟨"java/lang/StringUTF16", "compress", "([CII)[B"⟩ : MethodName) (head1 (Jvm.Cond.code (⟨"java/lang/StringUTF16", "compress", "([CII)[B"⟩ : MethodName) jdk_52_method_16_code 6 (some (.array .byte)) :: ws) (⟨1, 1, 2, 18⟩ : Room)) (fun a U => a = #[(.ref p0), (.int (0 : Int32)), (.int (2 : Int32))] ∧ Z.Warmed39 U.vm ∧ U.heap = h0) (fun _ _ _ _ _ => True) (fun _ U o U' => ∃ v L, o = .returned v ∧ Q_11L Z p0 g_ h0 n0 v U'.heap L ∧ FrameEnd U o U' L 1 2) := by
  refine MetFree.of_bodySF (plainFor_of_name pn_11) hisR ?_
  intro p e s m args below meth c s₁ Bd hml0 hP hK
  obtain ⟨rfl, hZ, hh⟩ := hP
  have hx := Bd.exec
  have hby := Bd.bytes
  have hml : c.maxLocals = 6 := hml0
  have hown : s.vm.findClass "java/lang/StringUTF16" = some m.cls := findClass_of_methodNamed Bd.named
  have hnm := (name_of_methodNamed Bd.named Bd.method).1
  have X0 : Stand p l e (⟨1, 1, 2, 18⟩ : Room) s m #[(.ref p0), (.int (0 : Int32)), (.int (2 : Int32))] below meth c s₁ [] 0 0 := Stand.of_body Bd
  have e0 : s₁.heap = h0 := by rw [← hh, Bd.state]; rfl
  have N0 := Fr.nil n0
  have K0 : Keep h0 h0 [] := Keep.refl h0 _
  have pre0 : ∀ t, SP p e below (s₁.setTop (mkF m 0 #[vR p0, vI (0 : Int32), vI (2 : Int32), .unset, .unset, .unset] [])) t → SP p e below (s₁.setTop (entryFrame m #[(.ref p0), (.int (0 : Int32)), (.int (2 : Int32))] 6)) t := fun t k => castTop (ef_11L m p0) k
  have pre1 : ∀ t, SP p e below (s₁.setTop (mkF m 1 #[vR p0, vI (0 : Int32), vI (2 : Int32), .unset, .unset, .unset] [(.int (2 : Int32))])) t → SP p e below (s₁.setTop (entryFrame m #[(.ref p0), (.int (0 : Int32)), (.int (2 : Int32))] 6)) t := by
    intro t k
    refine pre0 t ?_
    show SP p e below (s₁.setTop (mkF m 0 #[vR p0, vI (0 : Int32), vI (2 : Int32), .unset, .unset, .unset] [])) _
    refine XS.iloadN X0.here hx rfl (hb hby d11_0) rfl  ?_
    exact k
  obtain ⟨T2, h2, b2, gb2, X2, e2, E2, A2, st2⟩ := own_newP X0 hx hZ (ow hw 20 rfl) e0 (g := (mkF m 1 #[vR p0, vI (0 : Int32), vI (2 : Int32), .unset, .unset, .unset] [(.int (2 : Int32))])) rfl (hb hby d11_1) rfl (by decide) (n := 2) rfl (G := fun i => .int (own_zI i)) (fun _ => rfl) (cap := 2) (by decide) (by decide) (by decide) (by decide)
  have ne_p0_b2 : p0 ≠ b2 := Nat.ne_of_lt (Nat.lt_of_lt_of_le A_p0.lt (Nat.le_of_eq gb2.symm))
  have sz_b2 : h0.size ≤ b2 := Nat.le_trans K0.1 (Nat.le_of_eq gb2.symm)
  have ge_b2 : n0 ≤ b2 := Nat.le_trans Z0 (Nat.le_of_eq gb2.symm)
  have arr_p0_2 := A_p0.ext E2
  have K2 := K0.ext E2
  have Z2 := Nat.le_trans Z0 E2.1
  have pre4 : ∀ t, SP p e below (T2.setTop (mkF m 9 #[vR p0, vI (0 : Int32), vI (2 : Int32), vR b2, .unset, .unset] [(.int (2 : Int32)), (.int (0 : Int32)), (.ref b2), (.int (0 : Int32)), (.ref p0)])) t → SP p e below (s₁.setTop (entryFrame m #[(.ref p0), (.int (0 : Int32)), (.int (2 : Int32))] 6)) t := by
    intro t k
    refine pre1 t ?_
    show SP p e below (s₁.setTop (mkF m 1 #[vR p0, vI (0 : Int32), vI (2 : Int32), .unset, .unset, .unset] [(.int (2 : Int32))])) _
    refine st2 _ ?_
    show SP p e below (T2.setTop (mkF m 3 #[vR p0, vI (0 : Int32), vI (2 : Int32), .unset, .unset, .unset] [(.ref b2)])) _
    refine XS.astoreN X2.here hx rfl (hb hby d11_3) rfl rfl (l' := #[vR p0, vI (0 : Int32), vI (2 : Int32), vR b2, .unset, .unset]) rfl ?_
    show SP p e below (T2.setTop (mkF m 4 #[vR p0, vI (0 : Int32), vI (2 : Int32), vR b2, .unset, .unset] [])) _
    refine XS.aloadN X2.here hx rfl (hb hby d11_4) rfl rfl ?_
    show SP p e below (T2.setTop (mkF m 5 #[vR p0, vI (0 : Int32), vI (2 : Int32), vR b2, .unset, .unset] [(.ref p0)])) _
    refine XS.iloadN X2.here hx rfl (hb hby d11_5) rfl  ?_
    show SP p e below (T2.setTop (mkF m 6 #[vR p0, vI (0 : Int32), vI (2 : Int32), vR b2, .unset, .unset] [(.int (0 : Int32)), (.ref p0)])) _
    refine XS.aloadN X2.here hx rfl (hb hby d11_6) rfl rfl ?_
    show SP p e below (T2.setTop (mkF m 7 #[vR p0, vI (0 : Int32), vI (2 : Int32), vR b2, .unset, .unset] [(.ref b2), (.int (0 : Int32)), (.ref p0)])) _
    refine XS.iconst X2.here hx rfl (hb hby d11_7) ?_
    show SP p e below (T2.setTop (mkF m 8 #[vR p0, vI (0 : Int32), vI (2 : Int32), vR b2, .unset, .unset] [(.int (0 : Int32)), (.ref b2), (.int (0 : Int32)), (.ref p0)])) _
    refine XS.iloadN X2.here hx rfl (hb hby d11_8) rfl  ?_
    exact k
  obtain ⟨_, _, ⟨T3, L3, k3, n3⟩, -, X3, ⟨Lc3, hQ3, l3, y3, z3⟩, st3⟩ := Jvm.LawKit.callS X2 hx (y := (⟨"java/lang/StringUTF16", "compress", "([CI[BII)I"⟩ : MethodName)) hown (mvT hZ (ow hw 60 rfl)) (mvT hZ (ow hw 61 rfl)) (mvT hZ (ow hw 58 rfl)) (mvT hZ (ow hw 62 rfl)) (by decide) (backOf (W := 0) (rm_12L l Z a0 hw [] p0 b2 g_ own_zI h2 n0 Z2 arr_p0_2 A2 ge_b2 ne_p0_b2 hc0_ hc1_) hZ (ow hw 62 rfl) (ow hw 58 rfl) (by decide) (by decide)) (g := (mkF m 9 #[vR p0, vI (0 : Int32), vI (2 : Int32), vR b2, .unset, .unset] [(.int (2 : Int32)), (.int (0 : Int32)), (.ref b2), (.int (0 : Int32)), (.ref p0)])) rfl (by rw [hml]; rfl) (argsL := [(.ref p0), (.int (0 : Int32)), (.ref b2), (.int (0 : Int32)), (.int (2 : Int32))]) (rest := []) (lenOf pd_9 rfl) rfl own_le0 (hb hby d11_9) (fun _ _ => ⟨rfl, e2, (by decide : 1 + 0 ≤ _), (by decide : 2 + 0 ≤ _)⟩)
  dsimp only [Pt.U, Pt.locs, Pt.cells, Pt.slots] at X3 l3 y3 z3 st3 hQ3
  rw [l3, y3, z3] at X3
  obtain ⟨rfl, N3q, Kc3, Q3_0⟩ := hQ3
  have Kd3 : Keep h2 T3.heap [b2] := Kc3
  have arr_p0_3 := arr_p0_2.keep Kd3 (ninS ne_p0_b2 nin0)
  have K3 := K2.trans Kd3 (allS (Or.inr sz_b2) all0)
  have Z3 := Nat.le_trans Z2 Kd3.1
  have N3 := Fr.app N0 N3q
  have pre5 : ∀ t, SP p e below (T3.setTop (mkF m 12 #[vR p0, vI (0 : Int32), vI (2 : Int32), vR b2, .unset, .unset] [(.int (f_12L g_ own_zI))])) t → SP p e below (s₁.setTop (entryFrame m #[(.ref p0), (.int (0 : Int32)), (.int (2 : Int32))] 6)) t := by
    intro t k
    refine pre4 t ?_
    show SP p e below (T2.setTop (mkF m 9 #[vR p0, vI (0 : Int32), vI (2 : Int32), vR b2, .unset, .unset] [(.int (2 : Int32)), (.int (0 : Int32)), (.ref b2), (.int (0 : Int32)), (.ref p0)])) _
    refine st3 _ ?_
    exact k
  have hl6 : (f_12L g_ own_zI) = (2 : Int32) := rfl
  have preL6 : ∀ t, SP p e below (T3.setTop (mkF m 12 #[vR p0, vI (0 : Int32), vI (2 : Int32), vR b2, .unset, .unset] [(.int (2 : Int32))])) t → SP p e below (s₁.setTop (entryFrame m #[(.ref p0), (.int (0 : Int32)), (.int (2 : Int32))] 6)) t := by
    intro t k_
    refine pre5 t ?_
    rw [hl6]
    exact k_
  obtain ⟨fs, hr, hrun, hended, hW, hsame⟩ := X3.leave (v := some (.ref b2)) (fun h => by rw [Bd.returns] at h; cases h) (BodyLoose.notSynchronized Bd)
  refine ⟨_, _, preL6 _ ?_, hrun, hended, _, _, rfl, ?_, ⟨_, rfl⟩, hW, hsame.mono (by decide) (by decide)⟩
  · show SP p e below (T3.setTop (mkF m 12 #[vR p0, vI (0 : Int32), vI (2 : Int32), vR b2, .unset, .unset] [(.int (2 : Int32))])) _
    refine XS.istore X3.here hx rfl (hb hby d11_12) rfl (l' := #[vR p0, vI (0 : Int32), vI (2 : Int32), vR b2, vI (2 : Int32), .unset]) rfl ?_
    show SP p e below (T3.setTop (mkF m 14 #[vR p0, vI (0 : Int32), vI (2 : Int32), vR b2, vI (2 : Int32), .unset] [])) _
    refine XS.iload X3.here hx rfl (hb hby d11_14) rfl  ?_
    show SP p e below (T3.setTop (mkF m 16 #[vR p0, vI (0 : Int32), vI (2 : Int32), vR b2, vI (2 : Int32), .unset] [(.int (2 : Int32))])) _
    refine XS.iloadN X3.here hx rfl (hb hby d11_16) rfl  ?_
    show SP p e below (T3.setTop (mkF m 17 #[vR p0, vI (0 : Int32), vI (2 : Int32), vR b2, vI (2 : Int32), .unset] [(.int (2 : Int32)), (.int (2 : Int32))])) _
    refine XS.icmpYes X3.here hx rfl (pc0 := 17) (pc' := 57) rfl (hb hby d11_17) rfl (teq (by decide : (2 : Int32) = (2 : Int32))).1 (by decide) (by decide) ?_
    show SP p e below (T3.setTop (mkF m 57 #[vR p0, vI (0 : Int32), vI (2 : Int32), vR b2, vI (2 : Int32), .unset] [])) _
    refine XS.aloadN X3.here hx rfl (hb hby d11_57) rfl rfl ?_
    show SP p e below (T3.setTop (mkF m 58 #[vR p0, vI (0 : Int32), vI (2 : Int32), vR b2, vI (2 : Int32), .unset] [(.ref b2)])) _
    exact retOut X3 hx Bd.returns rfl (Or.inr (Or.inr (Or.inr (Or.inr ⟨rfl, rfl, rfl⟩)))) (hb hby d11_58) hr
  · show Q_11L Z p0 g_ h0 n0 _ T3.heap _
    have o1 := (by rfl : (f_12L_1 g_ own_zI) = f_11L_1 g_)
    have r1 := Q3_0
    rw [o1] at r1
    exact ⟨b2, rfl, N3, sz_b2, K3, r1⟩
theorem d12_23 : decode jdk_52_method_21_code 23 = .ok (.iload 5, 2) := by decide +kernel
theorem d12_25 : decode jdk_52_method_21_code 25 = .ok (.ireturn, 1) := by decide +kernel
theorem ef_12A (m : MethodId) (p0 : Addr) (p2 : Addr) : entryFrame m #[(.ref p0), (.int (0 : Int32)), (.ref p2), (.int (0 : Int32)), (.int (2 : Int32))] 7 = mkF m 0 #[vR p0, vI (0 : Int32), vR p2, vI (0 : Int32), vI (2 : Int32), .unset, .unset] [] := by first | (simp [entryFrame, mkF, argsToLocals, Value.category]; done) | rfl
def f_12A (g_ : Nat → Int32) (d_ : Nat → Int32) : Int32 := let v6_13 : Int32 := (g_ 0); (0 : Int32)
def f_12A_1 (g_ : Nat → Int32) (d_ : Nat → Int32) : Nat → Int32 := let v6_13 : Int32 := (g_ 0); d_
def Q_12A (Z : State) (p0 : Addr) (p2 : Addr) (g_ : Nat → Int32) (d_ : Nat → Int32) (h0 : Heap) (n0 : Nat) (v : Option Value) (h : Heap) (L : List Loc) : Prop := v = some (.int (f_12A g_ d_)) ∧ Fr n0 L ∧ Keep h0 h [p2] ∧ own_A Z h p2 .byte 2 (fun i => .int ((f_12A_1 g_ d_) i))
theorem rm_12A (l : Launch) (Z : State) (a0 : Array Value) (hw : ∀ d ∈ tables_1, d.before a0 Z = true) (ws : List Jvm.Cond) (p0 : Addr) (p2 : Addr) (g_ : Nat → Int32) (d_ : Nat → Int32) (h0 : Heap) (n0 : Nat) (Z0 : n0 ≤ h0.size) (A_p0 : own_A Z h0 p0 .char 2 (fun i => .int (g_ i))) (A_p2 : own_A Z h0 p2 .byte 2 (fun i => .int (d_ i))) (ge_p2 : n0 ≤ p2) (ne_p0_p2 : p0 ≠ p2) (hc0_ : (255 : Int32) < (g_ 0)) :
    MetFree l (⟨"java/lang/StringUTF16", "compress", "([CI[BII)I"⟩ : MethodName) (head1 (Jvm.Cond.code (⟨"java/lang/StringUTF16", "compress", "([CI[BII)I"⟩ : MethodName) jdk_52_method_21_code 7 (some .int) :: ws) (⟨0, 0, 0, 0⟩ : Room)) (fun a U => a = #[(.ref p0), (.int (0 : Int32)), (.ref p2), (.int (0 : Int32)), (.int (2 : Int32))] ∧ Z.Warmed39 U.vm ∧ U.heap = h0) (fun _ _ _ _ _ => True) (fun _ U o U' => ∃ v L, o = .returned v ∧ Q_12A Z p0 p2 g_ d_ h0 n0 v U'.heap L ∧ FrameEnd U o U' L 0 0) := by
  refine MetFree.of_bodySF (plainFor_of_name pn_12) hisR ?_
  intro p e s m args below meth c s₁ Bd hml0 hP hK
  obtain ⟨rfl, hZ, hh⟩ := hP
  have hx := Bd.exec
  have hby := Bd.bytes
  have hml : c.maxLocals = 7 := hml0
  have hown : s.vm.findClass "java/lang/StringUTF16" = some m.cls := findClass_of_methodNamed Bd.named
  have hnm := (name_of_methodNamed Bd.named Bd.method).1
  have X0 : Stand p l e (⟨0, 0, 0, 0⟩ : Room) s m #[(.ref p0), (.int (0 : Int32)), (.ref p2), (.int (0 : Int32)), (.int (2 : Int32))] below meth c s₁ [] 0 0 := Stand.of_body Bd
  have e0 : s₁.heap = h0 := by rw [← hh, Bd.state]; rfl
  have N0 := Fr.nil n0
  have K0 : Keep h0 h0 [p2] := Keep.refl h0 _
  have pre0 : ∀ t, SP p e below (s₁.setTop (mkF m 0 #[vR p0, vI (0 : Int32), vR p2, vI (0 : Int32), vI (2 : Int32), .unset, .unset] [])) t → SP p e below (s₁.setTop (entryFrame m #[(.ref p0), (.int (0 : Int32)), (.ref p2), (.int (0 : Int32)), (.int (2 : Int32))] 7)) t := fun t k => castTop (ef_12A m p0 p2) k
  obtain ⟨v6_13, hv6_13⟩ : ∃ z : Int32, z = (g_ 0) := ⟨_, rfl⟩
  obtain ⟨fs, hr, hrun, hended, hW, hsame⟩ := X0.leave (v := some (.int (0 : Int32))) (fun h => by rw [Bd.returns] at h; cases h) (BodyLoose.notSynchronized Bd)
  refine ⟨_, _, pre0 _ ?_, hrun, hended, _, _, rfl, ?_, ⟨_, rfl⟩, hW, hsame.mono (by decide) (by decide)⟩
  · show SP p e below (s₁.setTop (mkF m 0 #[vR p0, vI (0 : Int32), vR p2, vI (0 : Int32), vI (2 : Int32), .unset, .unset] [])) _
    refine XS.iconst X0.here hx rfl (hb hby d12_0) ?_
    show SP p e below (s₁.setTop (mkF m 1 #[vR p0, vI (0 : Int32), vR p2, vI (0 : Int32), vI (2 : Int32), .unset, .unset] [(.int (0 : Int32))])) _
    refine XS.istore X0.here hx rfl (hb hby d12_1) rfl (l' := #[vR p0, vI (0 : Int32), vR p2, vI (0 : Int32), vI (2 : Int32), vI (0 : Int32), .unset]) rfl ?_
    show SP p e below (s₁.setTop (mkF m 3 #[vR p0, vI (0 : Int32), vR p2, vI (0 : Int32), vI (2 : Int32), vI (0 : Int32), .unset] [])) _
    refine XS.iload X0.here hx rfl (hb hby d12_3) rfl  ?_
    show SP p e below (s₁.setTop (mkF m 5 #[vR p0, vI (0 : Int32), vR p2, vI (0 : Int32), vI (2 : Int32), vI (0 : Int32), .unset] [(.int (0 : Int32))])) _
    refine XS.iload X0.here hx rfl (hb hby d12_5) rfl  ?_
    show SP p e below (s₁.setTop (mkF m 7 #[vR p0, vI (0 : Int32), vR p2, vI (0 : Int32), vI (2 : Int32), vI (0 : Int32), .unset] [(.int (2 : Int32)), (.int (0 : Int32))])) _
    refine XS.icmpNo X0.here hx rfl (hb hby d12_7) rfl (tlt (by decide : (0 : Int32) < (2 : Int32))).2.1 ?_
    show SP p e below (s₁.setTop (mkF m 10 #[vR p0, vI (0 : Int32), vR p2, vI (0 : Int32), vI (2 : Int32), vI (0 : Int32), .unset] [])) _
    refine XS.aloadN X0.here hx rfl (hb hby d12_10) rfl rfl ?_
    show SP p e below (s₁.setTop (mkF m 11 #[vR p0, vI (0 : Int32), vR p2, vI (0 : Int32), vI (2 : Int32), vI (0 : Int32), .unset] [(.ref p0)])) _
    refine XS.iloadN X0.here hx rfl (hb hby d12_11) rfl  ?_
    show SP p e below (s₁.setTop (mkF m 12 #[vR p0, vI (0 : Int32), vR p2, vI (0 : Int32), vI (2 : Int32), vI (0 : Int32), .unset] [(.int (0 : Int32)), (.ref p0)])) _
    refine own_ldC X0 hx hZ e0 A_p0 (j := (0 : Int32)) (k := 0) (by decide) (by decide) (by decide) (g := (mkF m 12 #[vR p0, vI (0 : Int32), vR p2, vI (0 : Int32), vI (2 : Int32), vI (0 : Int32), .unset] [(.int (0 : Int32)), (.ref p0)])) rfl rfl (hb hby d12_12) ?_
    show SP p e below (s₁.setTop (mkF m 13 #[vR p0, vI (0 : Int32), vR p2, vI (0 : Int32), vI (2 : Int32), vI (0 : Int32), .unset] [(.int (g_ 0))])) _
    refine XS.istore X0.here hx rfl (hb hby d12_13) rfl (l' := #[vR p0, vI (0 : Int32), vR p2, vI (0 : Int32), vI (2 : Int32), vI (0 : Int32), vI v6_13]) (by rw [hv6_13]; rfl) ?_
    show SP p e below (s₁.setTop (mkF m 15 #[vR p0, vI (0 : Int32), vR p2, vI (0 : Int32), vI (2 : Int32), vI (0 : Int32), vI v6_13] [])) _
    refine XS.iload X0.here hx rfl (hb hby d12_15) rfl  ?_
    show SP p e below (s₁.setTop (mkF m 17 #[vR p0, vI (0 : Int32), vR p2, vI (0 : Int32), vI (2 : Int32), vI (0 : Int32), vI v6_13] [(.int v6_13)])) _
    refine XS.sipush X0.here hx rfl (hb hby d12_17) ?_
    show SP p e below (s₁.setTop (mkF m 20 #[vR p0, vI (0 : Int32), vR p2, vI (0 : Int32), vI (2 : Int32), vI (0 : Int32), vI v6_13] [(.int (255 : Int32)), (.int v6_13)])) _
    refine XS.icmpNo X0.here hx rfl (hb hby d12_20) rfl (tlt ((by rw [hv6_13]; exact hc0_) : (255 : Int32) < v6_13)).2.2.2 ?_
    show SP p e below (s₁.setTop (mkF m 23 #[vR p0, vI (0 : Int32), vR p2, vI (0 : Int32), vI (2 : Int32), vI (0 : Int32), vI v6_13] [])) _
    refine XS.iload X0.here hx rfl (hb hby d12_23) rfl  ?_
    show SP p e below (s₁.setTop (mkF m 25 #[vR p0, vI (0 : Int32), vR p2, vI (0 : Int32), vI (2 : Int32), vI (0 : Int32), vI v6_13] [(.int (0 : Int32))])) _
    exact retI X0 hx Bd.returns (hb hby d12_25) hr
  · show Q_12A Z p0 p2 g_ d_ h0 n0 _ s₁.heap _
    rw [e0]
    have o1 := (by subst hv6_13; rfl : d_ = f_12A_1 g_ d_)
    have r1 := A_p2
    rw [o1] at r1
    exact ⟨congrArg (fun z => some (Value.int z)) (by subst hv6_13; rfl : (0 : Int32) = f_12A g_ d_), N0, K0, r1⟩
theorem pd_10 : parseMethodDescriptor "([CII)[B" = some ⟨[(.array .char), .int, .int], some (.array .byte)⟩ := by decide +kernel
theorem d11_20 : decode jdk_52_method_16_code 20 = .ok (.aload_n 0, 1) := by decide +kernel
theorem d11_21 : decode jdk_52_method_16_code 21 = .ok (.iload_n 1, 1) := by decide +kernel
theorem d11_22 : decode jdk_52_method_16_code 22 = .ok (.iload_n 2, 1) := by decide +kernel
theorem d11_23 : decode jdk_52_method_16_code 23 = .ok (.invokestatic 119, 3) := by decide +kernel
theorem d11_26 : decode jdk_52_method_16_code 26 = .ok (.astore 5, 2) := by decide +kernel
theorem d11_28 : decode jdk_52_method_16_code 28 = .ok (.aload 5, 2) := by decide +kernel
theorem d11_30 : decode jdk_52_method_16_code 30 = .ok (.iload 4, 2) := by decide +kernel
theorem d11_32 : decode jdk_52_method_16_code 32 = .ok (.invokestatic 71, 3) := by decide +kernel
theorem d11_35 : decode jdk_52_method_16_code 35 = .ok (.sipush 255, 3) := by decide +kernel
theorem d11_38 : decode jdk_52_method_16_code 38 = .ok (.if_icmp .gt 16, 3) := by decide +kernel
theorem d11_54 : decode jdk_52_method_16_code 54 = .ok (.aload 5, 2) := by decide +kernel
theorem d11_56 : decode jdk_52_method_16_code 56 = .ok (.areturn, 1) := by decide +kernel
theorem ef_11A (m : MethodId) (p0 : Addr) : entryFrame m #[(.ref p0), (.int (0 : Int32)), (.int (2 : Int32))] 6 = mkF m 0 #[vR p0, vI (0 : Int32), vI (2 : Int32), .unset, .unset, .unset] [] := by first | (simp [entryFrame, mkF, argsToLocals, Value.category]; done) | rfl
def f_11A_1 (g_ : Nat → Int32) : Nat → Int32 := (f_24t_1 g_)
def Q_11A (Z : State) (p0 : Addr) (g_ : Nat → Int32) (h0 : Heap) (n0 : Nat) (v : Option Value) (h : Heap) (L : List Loc) : Prop := ∃ r : Addr, v = some (.ref r) ∧ Fr n0 L ∧ h0.size ≤ r ∧ Keep h0 h [] ∧ own_A Z h r .byte 4 (fun i => .int ((f_11A_1 g_) i))
theorem rm_11A (l : Launch) (Z : State) (a0 : Array Value) (hw : ∀ d ∈ tables_1, d.before a0 Z = true) (ws : List Jvm.Cond) (p0 : Addr) (g_ : Nat → Int32) (h0 : Heap) (n0 : Nat) (Z0 : n0 ≤ h0.size) (A_p0 : own_A Z h0 p0 .char 2 (fun i => .int (g_ i))) (S__assertionsDisabled : Sta Z h0 "java/lang/StringUTF16" "$assertionsDisabled" "Z" (.int (1 : Int32))) (S_HI_BYTE_SHIFT : Sta Z h0 "java/lang/StringUTF16" "HI_BYTE_SHIFT" "I" (.int (0 : Int32))) (S_LO_BYTE_SHIFT : Sta Z h0 "java/lang/StringUTF16" "LO_BYTE_SHIFT" "I" (.int (8 : Int32))) (hc0_ : (255 : Int32) < (g_ 0)) (hr_ : (g_ 0).toUInt32.toUInt16.toUInt32.toInt32 = g_ 0) :
    MetFree l (⟨"java/lang/StringUTF16", "compress", "([CII)[B"⟩ : MethodName) (head1 (Jvm.Cond.code (⟨"java/lang/StringUTF16", "compress", "([CII)[B"⟩ : MethodName) jdk_52_method_16_code 6 (some (.array .byte)) :: ws) (⟨3, 2, 6, 40⟩ : Room)) (fun a U => a = #[(.ref p0), (.int (0 : Int32)), (.int (2 : Int32))] ∧ Z.Warmed39 U.vm ∧ U.heap = h0) (fun _ _ _ _ _ => True) (fun _ U o U' => ∃ v L, o = .returned v ∧ Q_11A Z p0 g_ h0 n0 v U'.heap L ∧ FrameEnd U o U' L 2 6) := by
  refine MetFree.of_bodySF (plainFor_of_name pn_11) hisR ?_
  intro p e s m args below meth c s₁ Bd hml0 hP hK
  obtain ⟨rfl, hZ, hh⟩ := hP
  have hx := Bd.exec
  have hby := Bd.bytes
  have hml : c.maxLocals = 6 := hml0
  have hown : s.vm.findClass "java/lang/StringUTF16" = some m.cls := findClass_of_methodNamed Bd.named
  have hnm := (name_of_methodNamed Bd.named Bd.method).1
  have X0 : Stand p l e (⟨3, 2, 6, 40⟩ : Room) s m #[(.ref p0), (.int (0 : Int32)), (.int (2 : Int32))] below meth c s₁ [] 0 0 := Stand.of_body Bd
  have e0 : s₁.heap = h0 := by rw [← hh, Bd.state]; rfl
  have N0 := Fr.nil n0
  have K0 : Keep h0 h0 [] := Keep.refl h0 _
  have pre0 : ∀ t, SP p e below (s₁.setTop (mkF m 0 #[vR p0, vI (0 : Int32), vI (2 : Int32), .unset, .unset, .unset] [])) t → SP p e below (s₁.setTop (entryFrame m #[(.ref p0), (.int (0 : Int32)), (.int (2 : Int32))] 6)) t := fun t k => castTop (ef_11A m p0) k
  have pre1 : ∀ t, SP p e below (s₁.setTop (mkF m 1 #[vR p0, vI (0 : Int32), vI (2 : Int32), .unset, .unset, .unset] [(.int (2 : Int32))])) t → SP p e below (s₁.setTop (entryFrame m #[(.ref p0), (.int (0 : Int32)), (.int (2 : Int32))] 6)) t := by
    intro t k
    refine pre0 t ?_
    show SP p e below (s₁.setTop (mkF m 0 #[vR p0, vI (0 : Int32), vI (2 : Int32), .unset, .unset, .unset] [])) _
    refine XS.iloadN X0.here hx rfl (hb hby d11_0) rfl  ?_
    exact k
  obtain ⟨T2, h2, b2, gb2, X2, e2, E2, A2, st2⟩ := own_newP X0 hx hZ (ow hw 20 rfl) e0 (g := (mkF m 1 #[vR p0, vI (0 : Int32), vI (2 : Int32), .unset, .unset, .unset] [(.int (2 : Int32))])) rfl (hb hby d11_1) rfl (by decide) (n := 2) rfl (G := fun i => .int (own_zI i)) (fun _ => rfl) (cap := 2) (by decide) (by decide) (by decide) (by decide)
  have ne_p0_b2 : p0 ≠ b2 := Nat.ne_of_lt (Nat.lt_of_lt_of_le A_p0.lt (Nat.le_of_eq gb2.symm))
  have sz_b2 : h0.size ≤ b2 := Nat.le_trans K0.1 (Nat.le_of_eq gb2.symm)
  have ge_b2 : n0 ≤ b2 := Nat.le_trans Z0 (Nat.le_of_eq gb2.symm)
  have arr_p0_2 := A_p0.ext E2
  have st__ass_2 := S__assertionsDisabled.ext E2
  have st_HI_B_2 := S_HI_BYTE_SHIFT.ext E2
  have st_LO_B_2 := S_LO_BYTE_SHIFT.ext E2
  have K2 := K0.ext E2
  have Z2 := Nat.le_trans Z0 E2.1
  have pre4 : ∀ t, SP p e below (T2.setTop (mkF m 9 #[vR p0, vI (0 : Int32), vI (2 : Int32), vR b2, .unset, .unset] [(.int (2 : Int32)), (.int (0 : Int32)), (.ref b2), (.int (0 : Int32)), (.ref p0)])) t → SP p e below (s₁.setTop (entryFrame m #[(.ref p0), (.int (0 : Int32)), (.int (2 : Int32))] 6)) t := by
    intro t k
    refine pre1 t ?_
    show SP p e below (s₁.setTop (mkF m 1 #[vR p0, vI (0 : Int32), vI (2 : Int32), .unset, .unset, .unset] [(.int (2 : Int32))])) _
    refine st2 _ ?_
    show SP p e below (T2.setTop (mkF m 3 #[vR p0, vI (0 : Int32), vI (2 : Int32), .unset, .unset, .unset] [(.ref b2)])) _
    refine XS.astoreN X2.here hx rfl (hb hby d11_3) rfl rfl (l' := #[vR p0, vI (0 : Int32), vI (2 : Int32), vR b2, .unset, .unset]) rfl ?_
    show SP p e below (T2.setTop (mkF m 4 #[vR p0, vI (0 : Int32), vI (2 : Int32), vR b2, .unset, .unset] [])) _
    refine XS.aloadN X2.here hx rfl (hb hby d11_4) rfl rfl ?_
    show SP p e below (T2.setTop (mkF m 5 #[vR p0, vI (0 : Int32), vI (2 : Int32), vR b2, .unset, .unset] [(.ref p0)])) _
    refine XS.iloadN X2.here hx rfl (hb hby d11_5) rfl  ?_
    show SP p e below (T2.setTop (mkF m 6 #[vR p0, vI (0 : Int32), vI (2 : Int32), vR b2, .unset, .unset] [(.int (0 : Int32)), (.ref p0)])) _
    refine XS.aloadN X2.here hx rfl (hb hby d11_6) rfl rfl ?_
    show SP p e below (T2.setTop (mkF m 7 #[vR p0, vI (0 : Int32), vI (2 : Int32), vR b2, .unset, .unset] [(.ref b2), (.int (0 : Int32)), (.ref p0)])) _
    refine XS.iconst X2.here hx rfl (hb hby d11_7) ?_
    show SP p e below (T2.setTop (mkF m 8 #[vR p0, vI (0 : Int32), vI (2 : Int32), vR b2, .unset, .unset] [(.int (0 : Int32)), (.ref b2), (.int (0 : Int32)), (.ref p0)])) _
    refine XS.iloadN X2.here hx rfl (hb hby d11_8) rfl  ?_
    exact k
  obtain ⟨_, _, ⟨T3, L3, k3, n3⟩, -, X3, ⟨Lc3, hQ3, l3, y3, z3⟩, st3⟩ := Jvm.LawKit.callS X2 hx (y := (⟨"java/lang/StringUTF16", "compress", "([CI[BII)I"⟩ : MethodName)) hown (mvT hZ (ow hw 60 rfl)) (mvT hZ (ow hw 61 rfl)) (mvT hZ (ow hw 58 rfl)) (mvT hZ (ow hw 62 rfl)) (by decide) (backOf (W := 0) (rm_12A l Z a0 hw [] p0 b2 g_ own_zI h2 n0 Z2 arr_p0_2 A2 ge_b2 ne_p0_b2 hc0_) hZ (ow hw 62 rfl) (ow hw 58 rfl) (by decide) (by decide)) (g := (mkF m 9 #[vR p0, vI (0 : Int32), vI (2 : Int32), vR b2, .unset, .unset] [(.int (2 : Int32)), (.int (0 : Int32)), (.ref b2), (.int (0 : Int32)), (.ref p0)])) rfl (by rw [hml]; rfl) (argsL := [(.ref p0), (.int (0 : Int32)), (.ref b2), (.int (0 : Int32)), (.int (2 : Int32))]) (rest := []) (lenOf pd_9 rfl) rfl own_le0 (hb hby d11_9) (fun _ _ => ⟨rfl, e2, (by decide : 1 + 0 ≤ _), (by decide : 2 + 0 ≤ _)⟩)
  dsimp only [Pt.U, Pt.locs, Pt.cells, Pt.slots] at X3 l3 y3 z3 st3 hQ3
  rw [l3, y3, z3] at X3
  obtain ⟨rfl, N3q, Kc3, Q3_0⟩ := hQ3
  have Kd3 : Keep h2 T3.heap [b2] := Kc3
  have st__ass_3 := own_sta_keep st__ass_2 Kd3 (allS (own_A_plain A2) all0)
  have st_HI_B_3 := own_sta_keep st_HI_B_2 Kd3 (allS (own_A_plain A2) all0)
  have st_LO_B_3 := own_sta_keep st_LO_B_2 Kd3 (allS (own_A_plain A2) all0)
  have arr_p0_3 := arr_p0_2.keep Kd3 (ninS ne_p0_b2 nin0)
  have K3 := K2.trans Kd3 (allS (Or.inr sz_b2) all0)
  have Z3 := Nat.le_trans Z2 Kd3.1
  have N3 := Fr.app N0 N3q
  have pre5 : ∀ t, SP p e below (T3.setTop (mkF m 12 #[vR p0, vI (0 : Int32), vI (2 : Int32), vR b2, .unset, .unset] [(.int (f_12A g_ own_zI))])) t → SP p e below (s₁.setTop (entryFrame m #[(.ref p0), (.int (0 : Int32)), (.int (2 : Int32))] 6)) t := by
    intro t k
    refine pre4 t ?_
    show SP p e below (T2.setTop (mkF m 9 #[vR p0, vI (0 : Int32), vI (2 : Int32), vR b2, .unset, .unset] [(.int (2 : Int32)), (.int (0 : Int32)), (.ref b2), (.int (0 : Int32)), (.ref p0)])) _
    refine st3 _ ?_
    exact k
  have hl6 : (f_12A g_ own_zI) = (0 : Int32) := rfl
  have preL6 : ∀ t, SP p e below (T3.setTop (mkF m 12 #[vR p0, vI (0 : Int32), vI (2 : Int32), vR b2, .unset, .unset] [(.int (0 : Int32))])) t → SP p e below (s₁.setTop (entryFrame m #[(.ref p0), (.int (0 : Int32)), (.int (2 : Int32))] 6)) t := by
    intro t k_
    refine pre5 t ?_
    rw [hl6]
    exact k_
  have pre8 : ∀ t, SP p e below (T3.setTop (mkF m 23 #[vR p0, vI (0 : Int32), vI (2 : Int32), vR b2, vI (0 : Int32), .unset] [(.int (2 : Int32)), (.int (0 : Int32)), (.ref p0)])) t → SP p e below (s₁.setTop (entryFrame m #[(.ref p0), (.int (0 : Int32)), (.int (2 : Int32))] 6)) t := by
    intro t k
    refine preL6 t ?_
    show SP p e below (T3.setTop (mkF m 12 #[vR p0, vI (0 : Int32), vI (2 : Int32), vR b2, .unset, .unset] [(.int (0 : Int32))])) _
    refine XS.istore X3.here hx rfl (hb hby d11_12) rfl (l' := #[vR p0, vI (0 : Int32), vI (2 : Int32), vR b2, vI (0 : Int32), .unset]) rfl ?_
    show SP p e below (T3.setTop (mkF m 14 #[vR p0, vI (0 : Int32), vI (2 : Int32), vR b2, vI (0 : Int32), .unset] [])) _
    refine XS.iload X3.here hx rfl (hb hby d11_14) rfl  ?_
    show SP p e below (T3.setTop (mkF m 16 #[vR p0, vI (0 : Int32), vI (2 : Int32), vR b2, vI (0 : Int32), .unset] [(.int (0 : Int32))])) _
    refine XS.iloadN X3.here hx rfl (hb hby d11_16) rfl  ?_
    show SP p e below (T3.setTop (mkF m 17 #[vR p0, vI (0 : Int32), vI (2 : Int32), vR b2, vI (0 : Int32), .unset] [(.int (2 : Int32)), (.int (0 : Int32))])) _
    refine XS.icmpNo X3.here hx rfl (hb hby d11_17) rfl (feq (by decide : ¬ ((0 : Int32) = (2 : Int32)))).1 ?_
    show SP p e below (T3.setTop (mkF m 20 #[vR p0, vI (0 : Int32), vI (2 : Int32), vR b2, vI (0 : Int32), .unset] [])) _
    refine XS.aloadN X3.here hx rfl (hb hby d11_20) rfl rfl ?_
    show SP p e below (T3.setTop (mkF m 21 #[vR p0, vI (0 : Int32), vI (2 : Int32), vR b2, vI (0 : Int32), .unset] [(.ref p0)])) _
    refine XS.iloadN X3.here hx rfl (hb hby d11_21) rfl  ?_
    show SP p e below (T3.setTop (mkF m 22 #[vR p0, vI (0 : Int32), vI (2 : Int32), vR b2, vI (0 : Int32), .unset] [(.int (0 : Int32)), (.ref p0)])) _
    refine XS.iloadN X3.here hx rfl (hb hby d11_22) rfl  ?_
    exact k
  obtain ⟨_, _, ⟨T7, L7, k7, n7⟩, -, X7, ⟨Lc7, hQ7, l7, y7, z7⟩, st7⟩ := Jvm.LawKit.callS X3 hx (y := (⟨"java/lang/StringUTF16", "toBytes", "([CII)[B"⟩ : MethodName)) hown (mvT hZ (ow hw 109 rfl)) (mvT hZ (ow hw 110 rfl)) (mvT hZ (ow hw 58 rfl)) (mvT hZ (ow hw 111 rfl)) (by decide) (backOf (W := 0) (rm_24t l Z a0 hw [] p0 g_ T3.heap n0 Z3 arr_p0_3 st__ass_3 st_HI_B_3 st_LO_B_3) hZ (ow hw 111 rfl) (ow hw 58 rfl) (by decide) (by decide)) (g := (mkF m 23 #[vR p0, vI (0 : Int32), vI (2 : Int32), vR b2, vI (0 : Int32), .unset] [(.int (2 : Int32)), (.int (0 : Int32)), (.ref p0)])) rfl (by rw [hml]; rfl) (argsL := [(.ref p0), (.int (0 : Int32)), (.int (2 : Int32))]) (rest := []) (lenOf pd_10 rfl) rfl own_le0 (hb hby d11_23) (fun _ _ => ⟨rfl, rfl, (by decide : 1 + 1 ≤ _), (by decide : 2 + 4 ≤ _)⟩)
  dsimp only [Pt.U, Pt.locs, Pt.cells, Pt.slots] at X7 l7 y7 z7 st7 hQ7
  rw [l7, y7, z7] at X7
  obtain ⟨r_7, rfl, N7q, sz0_r_7, Kc7, Q7_0⟩ := hQ7
  have Kd7 : Keep T3.heap T7.heap [] := Kc7
  have ne_p0_r_7 : p0 ≠ r_7 := Nat.ne_of_lt (Nat.lt_of_lt_of_le arr_p0_3.lt sz0_r_7)
  have ne_b2_r_7 : b2 ≠ r_7 := Nat.ne_of_lt (Nat.lt_of_lt_of_le Q3_0.lt sz0_r_7)
  have sz_r_7 : h0.size ≤ r_7 := Nat.le_trans K3.1 sz0_r_7
  have ge_r_7 : n0 ≤ r_7 := Nat.le_trans Z3 sz0_r_7
  have st__ass_7 := own_sta_keep st__ass_3 Kd7 all0
  have st_HI_B_7 := own_sta_keep st_HI_B_3 Kd7 all0
  have st_LO_B_7 := own_sta_keep st_LO_B_3 Kd7 all0
  have arr_p0_7 := arr_p0_3.keep Kd7 nin0
  have arr_b2_7 := Q3_0.keep Kd7 nin0
  have K7 := K3.trans Kd7 all0
  have Z7 := Nat.le_trans Z3 Kd7.1
  have N7 := Fr.app N3 N7q
  have pre10 : ∀ t, SP p e below (T7.setTop (mkF m 32 #[vR p0, vI (0 : Int32), vI (2 : Int32), vR b2, vI (0 : Int32), vR r_7] [(.int (0 : Int32)), (.ref r_7)])) t → SP p e below (s₁.setTop (entryFrame m #[(.ref p0), (.int (0 : Int32)), (.int (2 : Int32))] 6)) t := by
    intro t k
    refine pre8 t ?_
    show SP p e below (T3.setTop (mkF m 23 #[vR p0, vI (0 : Int32), vI (2 : Int32), vR b2, vI (0 : Int32), .unset] [(.int (2 : Int32)), (.int (0 : Int32)), (.ref p0)])) _
    refine st7 _ ?_
    show SP p e below (T7.setTop (mkF m 26 #[vR p0, vI (0 : Int32), vI (2 : Int32), vR b2, vI (0 : Int32), .unset] [(.ref r_7)])) _
    refine XS.astore X7.here hx rfl (hb hby d11_26) rfl rfl (l' := #[vR p0, vI (0 : Int32), vI (2 : Int32), vR b2, vI (0 : Int32), vR r_7]) rfl ?_
    show SP p e below (T7.setTop (mkF m 28 #[vR p0, vI (0 : Int32), vI (2 : Int32), vR b2, vI (0 : Int32), vR r_7] [])) _
    refine XS.aload X7.here hx rfl (hb hby d11_28) rfl rfl ?_
    show SP p e below (T7.setTop (mkF m 30 #[vR p0, vI (0 : Int32), vI (2 : Int32), vR b2, vI (0 : Int32), vR r_7] [(.ref r_7)])) _
    refine XS.iload X7.here hx rfl (hb hby d11_30) rfl  ?_
    exact k
  obtain ⟨_, _, ⟨T9, L9, k9, n9⟩, -, X9, ⟨Lc9, hQ9, l9, y9, z9⟩, st9⟩ := Jvm.LawKit.callS X7 hx (y := (⟨"java/lang/StringUTF16", "getChar", "([BI)C"⟩ : MethodName)) hown (mvT hZ (ow hw 125 rfl)) (mvT hZ (ow hw 126 rfl)) (mvT hZ (ow hw 58 rfl)) (mvT hZ (ow hw 127 rfl)) (by decide) (backOf (W := 0) (rm_28b l Z a0 hw [] r_7 (f_24t_1 g_) T7.heap n0 Z7 Q7_0 st__ass_7 st_HI_B_7 st_LO_B_7) hZ (ow hw 127 rfl) (ow hw 58 rfl) (by decide) (by decide)) (g := (mkF m 32 #[vR p0, vI (0 : Int32), vI (2 : Int32), vR b2, vI (0 : Int32), vR r_7] [(.int (0 : Int32)), (.ref r_7)])) rfl (by rw [hml]; rfl) (argsL := [(.ref r_7), (.int (0 : Int32))]) (rest := []) (lenOf pd_5 rfl) rfl own_le0 (hb hby d11_32) (fun _ _ => ⟨rfl, rfl, (by decide : 2 + 0 ≤ _), (by decide : 6 + 0 ≤ _)⟩)
  dsimp only [Pt.U, Pt.locs, Pt.cells, Pt.slots] at X9 l9 y9 z9 st9 hQ9
  rw [l9, y9, z9] at X9
  obtain ⟨rfl, N9q, e9⟩ := hQ9
  have N9 := Fr.app N7 N9q
  obtain ⟨fs, hr, hrun, hended, hW, hsame⟩ := X9.leave (v := some (.ref r_7)) (fun h => by rw [Bd.returns] at h; cases h) (BodyLoose.notSynchronized Bd)
  refine ⟨_, _, pre10 _ ?_, hrun, hended, _, _, rfl, ?_, ⟨_, rfl⟩, hW, hsame.mono (by decide) (by decide)⟩
  · show SP p e below (T7.setTop (mkF m 32 #[vR p0, vI (0 : Int32), vI (2 : Int32), vR b2, vI (0 : Int32), vR r_7] [(.int (0 : Int32)), (.ref r_7)])) _
    refine st9 _ ?_
    show SP p e below (T9.setTop (mkF m 35 #[vR p0, vI (0 : Int32), vI (2 : Int32), vR b2, vI (0 : Int32), vR r_7] [(.int (f_28b (f_24t_1 g_)))])) _
    refine XS.sipush X9.here hx rfl (hb hby d11_35) ?_
    show SP p e below (T9.setTop (mkF m 38 #[vR p0, vI (0 : Int32), vI (2 : Int32), vR b2, vI (0 : Int32), vR r_7] [(.int (255 : Int32)), (.int (f_28b (f_24t_1 g_)))])) _
    refine XS.icmpYes X9.here hx rfl (pc0 := 38) (pc' := 54) rfl (hb hby d11_38) rfl (tlt ((own_gA hr_ hc0_) : (255 : Int32) < (f_28b (f_24t_1 g_)))).2.2.1 (by decide) (by decide) ?_
    show SP p e below (T9.setTop (mkF m 54 #[vR p0, vI (0 : Int32), vI (2 : Int32), vR b2, vI (0 : Int32), vR r_7] [])) _
    refine XS.aload X9.here hx rfl (hb hby d11_54) rfl rfl ?_
    show SP p e below (T9.setTop (mkF m 56 #[vR p0, vI (0 : Int32), vI (2 : Int32), vR b2, vI (0 : Int32), vR r_7] [(.ref r_7)])) _
    exact retOut X9 hx Bd.returns rfl (Or.inr (Or.inr (Or.inr (Or.inr ⟨rfl, rfl, rfl⟩)))) (hb hby d11_56) hr
  · show Q_11A Z p0 g_ h0 n0 _ T9.heap _
    rw [e9]
    have o1 := (by rfl : (f_24t_1 g_) = f_11A_1 g_)
    have r1 := Q7_0
    rw [o1] at r1
    exact ⟨r_7, rfl, N9, sz_r_7, K7, r1⟩
theorem ef_12B (m : MethodId) (p0 : Addr) (p2 : Addr) : entryFrame m #[(.ref p0), (.int (0 : Int32)), (.ref p2), (.int (0 : Int32)), (.int (2 : Int32))] 7 = mkF m 0 #[vR p0, vI (0 : Int32), vR p2, vI (0 : Int32), vI (2 : Int32), .unset, .unset] [] := by first | (simp [entryFrame, mkF, argsToLocals, Value.category]; done) | rfl
def f_12B (g_ : Nat → Int32) (d_ : Nat → Int32) : Int32 := let v6_13 : Int32 := (g_ 0); let g_31 : Nat → Int32 := (own_upd d_ 0 (v6_13.toInt8.toInt32).toInt8.toInt32); let v6_13_3 : Int32 := (g_ 1); (1 : Int32)
def f_12B_1 (g_ : Nat → Int32) (d_ : Nat → Int32) : Nat → Int32 := let v6_13 : Int32 := (g_ 0); let g_31 : Nat → Int32 := (own_upd d_ 0 (v6_13.toInt8.toInt32).toInt8.toInt32); let v6_13_3 : Int32 := (g_ 1); g_31
def Q_12B (Z : State) (p0 : Addr) (p2 : Addr) (g_ : Nat → Int32) (d_ : Nat → Int32) (h0 : Heap) (n0 : Nat) (v : Option Value) (h : Heap) (L : List Loc) : Prop := v = some (.int (f_12B g_ d_)) ∧ Fr n0 L ∧ Keep h0 h [p2] ∧ own_A Z h p2 .byte 2 (fun i => .int ((f_12B_1 g_ d_) i))
theorem rm_12B (l : Launch) (Z : State) (a0 : Array Value) (hw : ∀ d ∈ tables_1, d.before a0 Z = true) (ws : List Jvm.Cond) (p0 : Addr) (p2 : Addr) (g_ : Nat → Int32) (d_ : Nat → Int32) (h0 : Heap) (n0 : Nat) (Z0 : n0 ≤ h0.size) (A_p0 : own_A Z h0 p0 .char 2 (fun i => .int (g_ i))) (A_p2 : own_A Z h0 p2 .byte 2 (fun i => .int (d_ i))) (ge_p2 : n0 ≤ p2) (ne_p0_p2 : p0 ≠ p2) (hc0_ : ¬ ((255 : Int32) < (g_ 0))) (hc1_ : (255 : Int32) < (g_ 1)) :
    MetFree l (⟨"java/lang/StringUTF16", "compress", "([CI[BII)I"⟩ : MethodName) (head1 (Jvm.Cond.code (⟨"java/lang/StringUTF16", "compress", "([CI[BII)I"⟩ : MethodName) jdk_52_method_21_code 7 (some .int) :: ws) (⟨0, 0, 0, 0⟩ : Room)) (fun a U => a = #[(.ref p0), (.int (0 : Int32)), (.ref p2), (.int (0 : Int32)), (.int (2 : Int32))] ∧ Z.Warmed39 U.vm ∧ U.heap = h0) (fun _ _ _ _ _ => True) (fun _ U o U' => ∃ v L, o = .returned v ∧ Q_12B Z p0 p2 g_ d_ h0 n0 v U'.heap L ∧ FrameEnd U o U' L 0 0) := by
  refine MetFree.of_bodySF (plainFor_of_name pn_12) hisR ?_
  intro p e s m args below meth c s₁ Bd hml0 hP hK
  obtain ⟨rfl, hZ, hh⟩ := hP
  have hx := Bd.exec
  have hby := Bd.bytes
  have hml : c.maxLocals = 7 := hml0
  have hown : s.vm.findClass "java/lang/StringUTF16" = some m.cls := findClass_of_methodNamed Bd.named
  have hnm := (name_of_methodNamed Bd.named Bd.method).1
  have X0 : Stand p l e (⟨0, 0, 0, 0⟩ : Room) s m #[(.ref p0), (.int (0 : Int32)), (.ref p2), (.int (0 : Int32)), (.int (2 : Int32))] below meth c s₁ [] 0 0 := Stand.of_body Bd
  have e0 : s₁.heap = h0 := by rw [← hh, Bd.state]; rfl
  have N0 := Fr.nil n0
  have K0 : Keep h0 h0 [p2] := Keep.refl h0 _
  have pre0 : ∀ t, SP p e below (s₁.setTop (mkF m 0 #[vR p0, vI (0 : Int32), vR p2, vI (0 : Int32), vI (2 : Int32), .unset, .unset] [])) t → SP p e below (s₁.setTop (entryFrame m #[(.ref p0), (.int (0 : Int32)), (.ref p2), (.int (0 : Int32)), (.int (2 : Int32))] 7)) t := fun t k => castTop (ef_12B m p0 p2) k
  obtain ⟨v6_13, hv6_13⟩ : ∃ z : Int32, z = (g_ 0) := ⟨_, rfl⟩
  have pre1 : ∀ t, SP p e below (s₁.setTop (mkF m 31 #[vR p0, vI (0 : Int32), vR p2, vI (0 : Int32), vI (2 : Int32), vI (0 : Int32), vI v6_13] [(.int (v6_13.toInt8.toInt32)), (.int (0 : Int32)), (.ref p2)])) t → SP p e below (s₁.setTop (entryFrame m #[(.ref p0), (.int (0 : Int32)), (.ref p2), (.int (0 : Int32)), (.int (2 : Int32))] 7)) t := by
    intro t k
    refine pre0 t ?_
    show SP p e below (s₁.setTop (mkF m 0 #[vR p0, vI (0 : Int32), vR p2, vI (0 : Int32), vI (2 : Int32), .unset, .unset] [])) _
    refine XS.iconst X0.here hx rfl (hb hby d12_0) ?_
    show SP p e below (s₁.setTop (mkF m 1 #[vR p0, vI (0 : Int32), vR p2, vI (0 : Int32), vI (2 : Int32), .unset, .unset] [(.int (0 : Int32))])) _
    refine XS.istore X0.here hx rfl (hb hby d12_1) rfl (l' := #[vR p0, vI (0 : Int32), vR p2, vI (0 : Int32), vI (2 : Int32), vI (0 : Int32), .unset]) rfl ?_
    show SP p e below (s₁.setTop (mkF m 3 #[vR p0, vI (0 : Int32), vR p2, vI (0 : Int32), vI (2 : Int32), vI (0 : Int32), .unset] [])) _
    refine XS.iload X0.here hx rfl (hb hby d12_3) rfl  ?_
    show SP p e below (s₁.setTop (mkF m 5 #[vR p0, vI (0 : Int32), vR p2, vI (0 : Int32), vI (2 : Int32), vI (0 : Int32), .unset] [(.int (0 : Int32))])) _
    refine XS.iload X0.here hx rfl (hb hby d12_5) rfl  ?_
    show SP p e below (s₁.setTop (mkF m 7 #[vR p0, vI (0 : Int32), vR p2, vI (0 : Int32), vI (2 : Int32), vI (0 : Int32), .unset] [(.int (2 : Int32)), (.int (0 : Int32))])) _
    refine XS.icmpNo X0.here hx rfl (hb hby d12_7) rfl (tlt (by decide : (0 : Int32) < (2 : Int32))).2.1 ?_
    show SP p e below (s₁.setTop (mkF m 10 #[vR p0, vI (0 : Int32), vR p2, vI (0 : Int32), vI (2 : Int32), vI (0 : Int32), .unset] [])) _
    refine XS.aloadN X0.here hx rfl (hb hby d12_10) rfl rfl ?_
    show SP p e below (s₁.setTop (mkF m 11 #[vR p0, vI (0 : Int32), vR p2, vI (0 : Int32), vI (2 : Int32), vI (0 : Int32), .unset] [(.ref p0)])) _
    refine XS.iloadN X0.here hx rfl (hb hby d12_11) rfl  ?_
    show SP p e below (s₁.setTop (mkF m 12 #[vR p0, vI (0 : Int32), vR p2, vI (0 : Int32), vI (2 : Int32), vI (0 : Int32), .unset] [(.int (0 : Int32)), (.ref p0)])) _
    refine own_ldC X0 hx hZ e0 A_p0 (j := (0 : Int32)) (k := 0) (by decide) (by decide) (by decide) (g := (mkF m 12 #[vR p0, vI (0 : Int32), vR p2, vI (0 : Int32), vI (2 : Int32), vI (0 : Int32), .unset] [(.int (0 : Int32)), (.ref p0)])) rfl rfl (hb hby d12_12) ?_
    show SP p e below (s₁.setTop (mkF m 13 #[vR p0, vI (0 : Int32), vR p2, vI (0 : Int32), vI (2 : Int32), vI (0 : Int32), .unset] [(.int (g_ 0))])) _
    refine XS.istore X0.here hx rfl (hb hby d12_13) rfl (l' := #[vR p0, vI (0 : Int32), vR p2, vI (0 : Int32), vI (2 : Int32), vI (0 : Int32), vI v6_13]) (by rw [hv6_13]; rfl) ?_
    show SP p e below (s₁.setTop (mkF m 15 #[vR p0, vI (0 : Int32), vR p2, vI (0 : Int32), vI (2 : Int32), vI (0 : Int32), vI v6_13] [])) _
    refine XS.iload X0.here hx rfl (hb hby d12_15) rfl  ?_
    show SP p e below (s₁.setTop (mkF m 17 #[vR p0, vI (0 : Int32), vR p2, vI (0 : Int32), vI (2 : Int32), vI (0 : Int32), vI v6_13] [(.int v6_13)])) _
    refine XS.sipush X0.here hx rfl (hb hby d12_17) ?_
    show SP p e below (s₁.setTop (mkF m 20 #[vR p0, vI (0 : Int32), vR p2, vI (0 : Int32), vI (2 : Int32), vI (0 : Int32), vI v6_13] [(.int (255 : Int32)), (.int v6_13)])) _
    refine XS.icmpYes X0.here hx rfl (pc0 := 20) (pc' := 26) rfl (hb hby d12_20) rfl (flt ((by rw [hv6_13]; exact hc0_) : ¬ ((255 : Int32) < v6_13))).2.2.2 (by decide) (by decide) ?_
    show SP p e below (s₁.setTop (mkF m 26 #[vR p0, vI (0 : Int32), vR p2, vI (0 : Int32), vI (2 : Int32), vI (0 : Int32), vI v6_13] [])) _
    refine XS.aloadN X0.here hx rfl (hb hby d12_26) rfl rfl ?_
    show SP p e below (s₁.setTop (mkF m 27 #[vR p0, vI (0 : Int32), vR p2, vI (0 : Int32), vI (2 : Int32), vI (0 : Int32), vI v6_13] [(.ref p2)])) _
    refine XS.iloadN X0.here hx rfl (hb hby d12_27) rfl  ?_
    show SP p e below (s₁.setTop (mkF m 28 #[vR p0, vI (0 : Int32), vR p2, vI (0 : Int32), vI (2 : Int32), vI (0 : Int32), vI v6_13] [(.int (0 : Int32)), (.ref p2)])) _
    refine XS.iload X0.here hx rfl (hb hby d12_28) rfl  ?_
    show SP p e below (s₁.setTop (mkF m 30 #[vR p0, vI (0 : Int32), vR p2, vI (0 : Int32), vI (2 : Int32), vI (0 : Int32), vI v6_13] [(.int v6_13), (.int (0 : Int32)), (.ref p2)])) _
    refine XS.i2b X0.here hx rfl (hb hby d12_30) rfl ?_
    exact k
  obtain ⟨T2, h2, X2, e2, W2, A2, st2⟩ := own_stB X0 hx hZ e0 A_p2 (j := (0 : Int32)) (x := (v6_13.toInt8.toInt32)) (k := 0) (by decide) (by decide) (by decide) (g := (mkF m 31 #[vR p0, vI (0 : Int32), vR p2, vI (0 : Int32), vI (2 : Int32), vI (0 : Int32), vI v6_13] [(.int (v6_13.toInt8.toInt32)), (.int (0 : Int32)), (.ref p2)])) rfl rfl (hb hby d12_31)
  obtain ⟨g_31, hg_31⟩ : ∃ z : Nat → Int32, z = (own_upd d_ 0 (v6_13.toInt8.toInt32).toInt8.toInt32) := ⟨_, rfl⟩
  rw [← hg_31] at A2
  have arr_p0_2 := A_p0.other W2 ne_p0_p2
  have K2 := K0.wr W2 (Or.inl (List.mem_of_getElem? (i := 0) rfl))
  have Z2 := Nat.le_trans Z0 (Nat.le_of_eq W2.size.symm)
  have N2 := Fr.snoc X2 N0 ge_p2
  obtain ⟨v6_13_3, hv6_13_3⟩ : ∃ z : Int32, z = (g_ 1) := ⟨_, rfl⟩
  obtain ⟨fs, hr, hrun, hended, hW, hsame⟩ := X2.leave (v := some (.int (1 : Int32))) (fun h => by rw [Bd.returns] at h; cases h) (BodyLoose.notSynchronized Bd)
  refine ⟨_, _, pre1 _ ?_, hrun, hended, _, _, rfl, ?_, ⟨_, rfl⟩, hW, hsame.mono (by decide) (by decide)⟩
  · show SP p e below (s₁.setTop (mkF m 31 #[vR p0, vI (0 : Int32), vR p2, vI (0 : Int32), vI (2 : Int32), vI (0 : Int32), vI v6_13] [(.int (v6_13.toInt8.toInt32)), (.int (0 : Int32)), (.ref p2)])) _
    refine st2 _ ?_
    show SP p e below (T2.setTop (mkF m 32 #[vR p0, vI (0 : Int32), vR p2, vI (0 : Int32), vI (2 : Int32), vI (0 : Int32), vI v6_13] [])) _
    refine XS.iinc X2.here hx rfl (hb hby d12_32) rfl (l' := #[vR p0, vI (1 : Int32), vR p2, vI (0 : Int32), vI (2 : Int32), vI (0 : Int32), vI v6_13]) rfl ?_
    show SP p e below (T2.setTop (mkF m 35 #[vR p0, vI (1 : Int32), vR p2, vI (0 : Int32), vI (2 : Int32), vI (0 : Int32), vI v6_13] [])) _
    refine XS.iinc X2.here hx rfl (hb hby d12_35) rfl (l' := #[vR p0, vI (1 : Int32), vR p2, vI (1 : Int32), vI (2 : Int32), vI (0 : Int32), vI v6_13]) rfl ?_
    show SP p e below (T2.setTop (mkF m 38 #[vR p0, vI (1 : Int32), vR p2, vI (1 : Int32), vI (2 : Int32), vI (0 : Int32), vI v6_13] [])) _
    refine XS.iinc X2.here hx rfl (hb hby d12_38) rfl (l' := #[vR p0, vI (1 : Int32), vR p2, vI (1 : Int32), vI (2 : Int32), vI (1 : Int32), vI v6_13]) rfl ?_
    show SP p e below (T2.setTop (mkF m 41 #[vR p0, vI (1 : Int32), vR p2, vI (1 : Int32), vI (2 : Int32), vI (1 : Int32), vI v6_13] [])) _
    refine XS.goto X2.here hx rfl (pc0 := 41) (pc' := 3) rfl (hb hby d12_41) (by decide) (by decide) ?_
    show SP p e below (T2.setTop (mkF m 3 #[vR p0, vI (1 : Int32), vR p2, vI (1 : Int32), vI (2 : Int32), vI (1 : Int32), vI v6_13] [])) _
    refine XS.iload X2.here hx rfl (hb hby d12_3) rfl  ?_
    show SP p e below (T2.setTop (mkF m 5 #[vR p0, vI (1 : Int32), vR p2, vI (1 : Int32), vI (2 : Int32), vI (1 : Int32), vI v6_13] [(.int (1 : Int32))])) _
    refine XS.iload X2.here hx rfl (hb hby d12_5) rfl  ?_
    show SP p e below (T2.setTop (mkF m 7 #[vR p0, vI (1 : Int32), vR p2, vI (1 : Int32), vI (2 : Int32), vI (1 : Int32), vI v6_13] [(.int (2 : Int32)), (.int (1 : Int32))])) _
    refine XS.icmpNo X2.here hx rfl (hb hby d12_7) rfl (tlt (by decide : (1 : Int32) < (2 : Int32))).2.1 ?_
    show SP p e below (T2.setTop (mkF m 10 #[vR p0, vI (1 : Int32), vR p2, vI (1 : Int32), vI (2 : Int32), vI (1 : Int32), vI v6_13] [])) _
    refine XS.aloadN X2.here hx rfl (hb hby d12_10) rfl rfl ?_
    show SP p e below (T2.setTop (mkF m 11 #[vR p0, vI (1 : Int32), vR p2, vI (1 : Int32), vI (2 : Int32), vI (1 : Int32), vI v6_13] [(.ref p0)])) _
    refine XS.iloadN X2.here hx rfl (hb hby d12_11) rfl  ?_
    show SP p e below (T2.setTop (mkF m 12 #[vR p0, vI (1 : Int32), vR p2, vI (1 : Int32), vI (2 : Int32), vI (1 : Int32), vI v6_13] [(.int (1 : Int32)), (.ref p0)])) _
    refine own_ldC X2 hx hZ e2 arr_p0_2 (j := (1 : Int32)) (k := 1) (by decide) (by decide) (by decide) (g := (mkF m 12 #[vR p0, vI (1 : Int32), vR p2, vI (1 : Int32), vI (2 : Int32), vI (1 : Int32), vI v6_13] [(.int (1 : Int32)), (.ref p0)])) rfl rfl (hb hby d12_12) ?_
    show SP p e below (T2.setTop (mkF m 13 #[vR p0, vI (1 : Int32), vR p2, vI (1 : Int32), vI (2 : Int32), vI (1 : Int32), vI v6_13] [(.int (g_ 1))])) _
    refine XS.istore X2.here hx rfl (hb hby d12_13) rfl (l' := #[vR p0, vI (1 : Int32), vR p2, vI (1 : Int32), vI (2 : Int32), vI (1 : Int32), vI v6_13_3]) (by rw [hv6_13_3]; rfl) ?_
    show SP p e below (T2.setTop (mkF m 15 #[vR p0, vI (1 : Int32), vR p2, vI (1 : Int32), vI (2 : Int32), vI (1 : Int32), vI v6_13_3] [])) _
    refine XS.iload X2.here hx rfl (hb hby d12_15) rfl  ?_
    show SP p e below (T2.setTop (mkF m 17 #[vR p0, vI (1 : Int32), vR p2, vI (1 : Int32), vI (2 : Int32), vI (1 : Int32), vI v6_13_3] [(.int v6_13_3)])) _
    refine XS.sipush X2.here hx rfl (hb hby d12_17) ?_
    show SP p e below (T2.setTop (mkF m 20 #[vR p0, vI (1 : Int32), vR p2, vI (1 : Int32), vI (2 : Int32), vI (1 : Int32), vI v6_13_3] [(.int (255 : Int32)), (.int v6_13_3)])) _
    refine XS.icmpNo X2.here hx rfl (hb hby d12_20) rfl (tlt ((by rw [hv6_13_3]; exact hc1_) : (255 : Int32) < v6_13_3)).2.2.2 ?_
    show SP p e below (T2.setTop (mkF m 23 #[vR p0, vI (1 : Int32), vR p2, vI (1 : Int32), vI (2 : Int32), vI (1 : Int32), vI v6_13_3] [])) _
    refine XS.iload X2.here hx rfl (hb hby d12_23) rfl  ?_
    show SP p e below (T2.setTop (mkF m 25 #[vR p0, vI (1 : Int32), vR p2, vI (1 : Int32), vI (2 : Int32), vI (1 : Int32), vI v6_13_3] [(.int (1 : Int32))])) _
    exact retI X2 hx Bd.returns (hb hby d12_25) hr
  · show Q_12B Z p0 p2 g_ d_ h0 n0 _ T2.heap _
    rw [e2]
    have o1 := (by subst hv6_13 hg_31 hv6_13_3; rfl : g_31 = f_12B_1 g_ d_)
    have r1 := A2
    rw [o1] at r1
    exact ⟨congrArg (fun z => some (Value.int z)) (by subst hv6_13 hg_31 hv6_13_3; rfl : (1 : Int32) = f_12B g_ d_), N2, K2, r1⟩
theorem ef_11B (m : MethodId) (p0 : Addr) : entryFrame m #[(.ref p0), (.int (0 : Int32)), (.int (2 : Int32))] 6 = mkF m 0 #[vR p0, vI (0 : Int32), vI (2 : Int32), .unset, .unset, .unset] [] := by first | (simp [entryFrame, mkF, argsToLocals, Value.category]; done) | rfl
def f_11B_1 (g_ : Nat → Int32) : Nat → Int32 := (f_24t_1 g_)
def Q_11B (Z : State) (p0 : Addr) (g_ : Nat → Int32) (h0 : Heap) (n0 : Nat) (v : Option Value) (h : Heap) (L : List Loc) : Prop := ∃ r : Addr, v = some (.ref r) ∧ Fr n0 L ∧ h0.size ≤ r ∧ Keep h0 h [] ∧ own_A Z h r .byte 4 (fun i => .int ((f_11B_1 g_) i))
theorem rm_11B (l : Launch) (Z : State) (a0 : Array Value) (hw : ∀ d ∈ tables_1, d.before a0 Z = true) (ws : List Jvm.Cond) (p0 : Addr) (g_ : Nat → Int32) (h0 : Heap) (n0 : Nat) (Z0 : n0 ≤ h0.size) (A_p0 : own_A Z h0 p0 .char 2 (fun i => .int (g_ i))) (S__assertionsDisabled : Sta Z h0 "java/lang/StringUTF16" "$assertionsDisabled" "Z" (.int (1 : Int32))) (S_HI_BYTE_SHIFT : Sta Z h0 "java/lang/StringUTF16" "HI_BYTE_SHIFT" "I" (.int (0 : Int32))) (S_LO_BYTE_SHIFT : Sta Z h0 "java/lang/StringUTF16" "LO_BYTE_SHIFT" "I" (.int (8 : Int32))) (hc0_ : ¬ ((255 : Int32) < (g_ 0))) (hc1_ : (255 : Int32) < (g_ 1)) (hr_ : (g_ 1).toUInt32.toUInt16.toUInt32.toInt32 = g_ 1) :
    MetFree l (⟨"java/lang/StringUTF16", "compress", "([CII)[B"⟩ : MethodName) (head1 (Jvm.Cond.code (⟨"java/lang/StringUTF16", "compress", "([CII)[B"⟩ : MethodName) jdk_52_method_16_code 6 (some (.array .byte)) :: ws) (⟨3, 2, 6, 40⟩ : Room)) (fun a U => a = #[(.ref p0), (.int (0 : Int32)), (.int (2 : Int32))] ∧ Z.Warmed39 U.vm ∧ U.heap = h0) (fun _ _ _ _ _ => True) (fun _ U o U' => ∃ v L, o = .returned v ∧ Q_11B Z p0 g_ h0 n0 v U'.heap L ∧ FrameEnd U o U' L 2 6) := by
  refine MetFree.of_bodySF (plainFor_of_name pn_11) hisR ?_
  intro p e s m args below meth c s₁ Bd hml0 hP hK
  obtain ⟨rfl, hZ, hh⟩ := hP
  have hx := Bd.exec
  have hby := Bd.bytes
  have hml : c.maxLocals = 6 := hml0
  have hown : s.vm.findClass "java/lang/StringUTF16" = some m.cls := findClass_of_methodNamed Bd.named
  have hnm := (name_of_methodNamed Bd.named Bd.method).1
  have X0 : Stand p l e (⟨3, 2, 6, 40⟩ : Room) s m #[(.ref p0), (.int (0 : Int32)), (.int (2 : Int32))] below meth c s₁ [] 0 0 := Stand.of_body Bd
  have e0 : s₁.heap = h0 := by rw [← hh, Bd.state]; rfl
  have N0 := Fr.nil n0
  have K0 : Keep h0 h0 [] := Keep.refl h0 _
  have pre0 : ∀ t, SP p e below (s₁.setTop (mkF m 0 #[vR p0, vI (0 : Int32), vI (2 : Int32), .unset, .unset, .unset] [])) t → SP p e below (s₁.setTop (entryFrame m #[(.ref p0), (.int (0 : Int32)), (.int (2 : Int32))] 6)) t := fun t k => castTop (ef_11B m p0) k
  have pre1 : ∀ t, SP p e below (s₁.setTop (mkF m 1 #[vR p0, vI (0 : Int32), vI (2 : Int32), .unset, .unset, .unset] [(.int (2 : Int32))])) t → SP p e below (s₁.setTop (entryFrame m #[(.ref p0), (.int (0 : Int32)), (.int (2 : Int32))] 6)) t := by
    intro t k
    refine pre0 t ?_
    show SP p e below (s₁.setTop (mkF m 0 #[vR p0, vI (0 : Int32), vI (2 : Int32), .unset, .unset, .unset] [])) _
    refine XS.iloadN X0.here hx rfl (hb hby d11_0) rfl  ?_
    exact k
  obtain ⟨T2, h2, b2, gb2, X2, e2, E2, A2, st2⟩ := own_newP X0 hx hZ (ow hw 20 rfl) e0 (g := (mkF m 1 #[vR p0, vI (0 : Int32), vI (2 : Int32), .unset, .unset, .unset] [(.int (2 : Int32))])) rfl (hb hby d11_1) rfl (by decide) (n := 2) rfl (G := fun i => .int (own_zI i)) (fun _ => rfl) (cap := 2) (by decide) (by decide) (by decide) (by decide)
  have ne_p0_b2 : p0 ≠ b2 := Nat.ne_of_lt (Nat.lt_of_lt_of_le A_p0.lt (Nat.le_of_eq gb2.symm))
  have sz_b2 : h0.size ≤ b2 := Nat.le_trans K0.1 (Nat.le_of_eq gb2.symm)
  have ge_b2 : n0 ≤ b2 := Nat.le_trans Z0 (Nat.le_of_eq gb2.symm)
  have arr_p0_2 := A_p0.ext E2
  have st__ass_2 := S__assertionsDisabled.ext E2
  have st_HI_B_2 := S_HI_BYTE_SHIFT.ext E2
  have st_LO_B_2 := S_LO_BYTE_SHIFT.ext E2
  have K2 := K0.ext E2
  have Z2 := Nat.le_trans Z0 E2.1
  have pre4 : ∀ t, SP p e below (T2.setTop (mkF m 9 #[vR p0, vI (0 : Int32), vI (2 : Int32), vR b2, .unset, .unset] [(.int (2 : Int32)), (.int (0 : Int32)), (.ref b2), (.int (0 : Int32)), (.ref p0)])) t → SP p e below (s₁.setTop (entryFrame m #[(.ref p0), (.int (0 : Int32)), (.int (2 : Int32))] 6)) t := by
    intro t k
    refine pre1 t ?_
    show SP p e below (s₁.setTop (mkF m 1 #[vR p0, vI (0 : Int32), vI (2 : Int32), .unset, .unset, .unset] [(.int (2 : Int32))])) _
    refine st2 _ ?_
    show SP p e below (T2.setTop (mkF m 3 #[vR p0, vI (0 : Int32), vI (2 : Int32), .unset, .unset, .unset] [(.ref b2)])) _
    refine XS.astoreN X2.here hx rfl (hb hby d11_3) rfl rfl (l' := #[vR p0, vI (0 : Int32), vI (2 : Int32), vR b2, .unset, .unset]) rfl ?_
    show SP p e below (T2.setTop (mkF m 4 #[vR p0, vI (0 : Int32), vI (2 : Int32), vR b2, .unset, .unset] [])) _
    refine XS.aloadN X2.here hx rfl (hb hby d11_4) rfl rfl ?_
    show SP p e below (T2.setTop (mkF m 5 #[vR p0, vI (0 : Int32), vI (2 : Int32), vR b2, .unset, .unset] [(.ref p0)])) _
    refine XS.iloadN X2.here hx rfl (hb hby d11_5) rfl  ?_
    show SP p e below (T2.setTop (mkF m 6 #[vR p0, vI (0 : Int32), vI (2 : Int32), vR b2, .unset, .unset] [(.int (0 : Int32)), (.ref p0)])) _
    refine XS.aloadN X2.here hx rfl (hb hby d11_6) rfl rfl ?_
    show SP p e below (T2.setTop (mkF m 7 #[vR p0, vI (0 : Int32), vI (2 : Int32), vR b2, .unset, .unset] [(.ref b2), (.int (0 : Int32)), (.ref p0)])) _
    refine XS.iconst X2.here hx rfl (hb hby d11_7) ?_
    show SP p e below (T2.setTop (mkF m 8 #[vR p0, vI (0 : Int32), vI (2 : Int32), vR b2, .unset, .unset] [(.int (0 : Int32)), (.ref b2), (.int (0 : Int32)), (.ref p0)])) _
    refine XS.iloadN X2.here hx rfl (hb hby d11_8) rfl  ?_
    exact k
  obtain ⟨_, _, ⟨T3, L3, k3, n3⟩, -, X3, ⟨Lc3, hQ3, l3, y3, z3⟩, st3⟩ := Jvm.LawKit.callS X2 hx (y := (⟨"java/lang/StringUTF16", "compress", "([CI[BII)I"⟩ : MethodName)) hown (mvT hZ (ow hw 60 rfl)) (mvT hZ (ow hw 61 rfl)) (mvT hZ (ow hw 58 rfl)) (mvT hZ (ow hw 62 rfl)) (by decide) (backOf (W := 0) (rm_12B l Z a0 hw [] p0 b2 g_ own_zI h2 n0 Z2 arr_p0_2 A2 ge_b2 ne_p0_b2 hc0_ hc1_) hZ (ow hw 62 rfl) (ow hw 58 rfl) (by decide) (by decide)) (g := (mkF m 9 #[vR p0, vI (0 : Int32), vI (2 : Int32), vR b2, .unset, .unset] [(.int (2 : Int32)), (.int (0 : Int32)), (.ref b2), (.int (0 : Int32)), (.ref p0)])) rfl (by rw [hml]; rfl) (argsL := [(.ref p0), (.int (0 : Int32)), (.ref b2), (.int (0 : Int32)), (.int (2 : Int32))]) (rest := []) (lenOf pd_9 rfl) rfl own_le0 (hb hby d11_9) (fun _ _ => ⟨rfl, e2, (by decide : 1 + 0 ≤ _), (by decide : 2 + 0 ≤ _)⟩)
  dsimp only [Pt.U, Pt.locs, Pt.cells, Pt.slots] at X3 l3 y3 z3 st3 hQ3
  rw [l3, y3, z3] at X3
  obtain ⟨rfl, N3q, Kc3, Q3_0⟩ := hQ3
  have Kd3 : Keep h2 T3.heap [b2] := Kc3
  have st__ass_3 := own_sta_keep st__ass_2 Kd3 (allS (own_A_plain A2) all0)
  have st_HI_B_3 := own_sta_keep st_HI_B_2 Kd3 (allS (own_A_plain A2) all0)
  have st_LO_B_3 := own_sta_keep st_LO_B_2 Kd3 (allS (own_A_plain A2) all0)
  have arr_p0_3 := arr_p0_2.keep Kd3 (ninS ne_p0_b2 nin0)
  have K3 := K2.trans Kd3 (allS (Or.inr sz_b2) all0)
  have Z3 := Nat.le_trans Z2 Kd3.1
  have N3 := Fr.app N0 N3q
  have pre5 : ∀ t, SP p e below (T3.setTop (mkF m 12 #[vR p0, vI (0 : Int32), vI (2 : Int32), vR b2, .unset, .unset] [(.int (f_12B g_ own_zI))])) t → SP p e below (s₁.setTop (entryFrame m #[(.ref p0), (.int (0 : Int32)), (.int (2 : Int32))] 6)) t := by
    intro t k
    refine pre4 t ?_
    show SP p e below (T2.setTop (mkF m 9 #[vR p0, vI (0 : Int32), vI (2 : Int32), vR b2, .unset, .unset] [(.int (2 : Int32)), (.int (0 : Int32)), (.ref b2), (.int (0 : Int32)), (.ref p0)])) _
    refine st3 _ ?_
    exact k
  have hl6 : (f_12B g_ own_zI) = (1 : Int32) := rfl
  have preL6 : ∀ t, SP p e below (T3.setTop (mkF m 12 #[vR p0, vI (0 : Int32), vI (2 : Int32), vR b2, .unset, .unset] [(.int (1 : Int32))])) t → SP p e below (s₁.setTop (entryFrame m #[(.ref p0), (.int (0 : Int32)), (.int (2 : Int32))] 6)) t := by
    intro t k_
    refine pre5 t ?_
    rw [hl6]
    exact k_
  have pre8 : ∀ t, SP p e below (T3.setTop (mkF m 23 #[vR p0, vI (0 : Int32), vI (2 : Int32), vR b2, vI (1 : Int32), .unset] [(.int (2 : Int32)), (.int (0 : Int32)), (.ref p0)])) t → SP p e below (s₁.setTop (entryFrame m #[(.ref p0), (.int (0 : Int32)), (.int (2 : Int32))] 6)) t := by
    intro t k
    refine preL6 t ?_
    show SP p e below (T3.setTop (mkF m 12 #[vR p0, vI (0 : Int32), vI (2 : Int32), vR b2, .unset, .unset] [(.int (1 : Int32))])) _
    refine XS.istore X3.here hx rfl (hb hby d11_12) rfl (l' := #[vR p0, vI (0 : Int32), vI (2 : Int32), vR b2, vI (1 : Int32), .unset]) rfl ?_
    show SP p e below (T3.setTop (mkF m 14 #[vR p0, vI (0 : Int32), vI (2 : Int32), vR b2, vI (1 : Int32), .unset] [])) _
    refine XS.iload X3.here hx rfl (hb hby d11_14) rfl  ?_
    show SP p e below (T3.setTop (mkF m 16 #[vR p0, vI (0 : Int32), vI (2 : Int32), vR b2, vI (1 : Int32), .unset] [(.int (1 : Int32))])) _
    refine XS.iloadN X3.here hx rfl (hb hby d11_16) rfl  ?_
    show SP p e below (T3.setTop (mkF m 17 #[vR p0, vI (0 : Int32), vI (2 : Int32), vR b2, vI (1 : Int32), .unset] [(.int (2 : Int32)), (.int (1 : Int32))])) _
    refine XS.icmpNo X3.here hx rfl (hb hby d11_17) rfl (feq (by decide : ¬ ((1 : Int32) = (2 : Int32)))).1 ?_
    show SP p e below (T3.setTop (mkF m 20 #[vR p0, vI (0 : Int32), vI (2 : Int32), vR b2, vI (1 : Int32), .unset] [])) _
    refine XS.aloadN X3.here hx rfl (hb hby d11_20) rfl rfl ?_
    show SP p e below (T3.setTop (mkF m 21 #[vR p0, vI (0 : Int32), vI (2 : Int32), vR b2, vI (1 : Int32), .unset] [(.ref p0)])) _
    refine XS.iloadN X3.here hx rfl (hb hby d11_21) rfl  ?_
    show SP p e below (T3.setTop (mkF m 22 #[vR p0, vI (0 : Int32), vI (2 : Int32), vR b2, vI (1 : Int32), .unset] [(.int (0 : Int32)), (.ref p0)])) _
    refine XS.iloadN X3.here hx rfl (hb hby d11_22) rfl  ?_
    exact k
  obtain ⟨_, _, ⟨T7, L7, k7, n7⟩, -, X7, ⟨Lc7, hQ7, l7, y7, z7⟩, st7⟩ := Jvm.LawKit.callS X3 hx (y := (⟨"java/lang/StringUTF16", "toBytes", "([CII)[B"⟩ : MethodName)) hown (mvT hZ (ow hw 109 rfl)) (mvT hZ (ow hw 110 rfl)) (mvT hZ (ow hw 58 rfl)) (mvT hZ (ow hw 111 rfl)) (by decide) (backOf (W := 0) (rm_24t l Z a0 hw [] p0 g_ T3.heap n0 Z3 arr_p0_3 st__ass_3 st_HI_B_3 st_LO_B_3) hZ (ow hw 111 rfl) (ow hw 58 rfl) (by decide) (by decide)) (g := (mkF m 23 #[vR p0, vI (0 : Int32), vI (2 : Int32), vR b2, vI (1 : Int32), .unset] [(.int (2 : Int32)), (.int (0 : Int32)), (.ref p0)])) rfl (by rw [hml]; rfl) (argsL := [(.ref p0), (.int (0 : Int32)), (.int (2 : Int32))]) (rest := []) (lenOf pd_10 rfl) rfl own_le0 (hb hby d11_23) (fun _ _ => ⟨rfl, rfl, (by decide : 1 + 1 ≤ _), (by decide : 2 + 4 ≤ _)⟩)
  dsimp only [Pt.U, Pt.locs, Pt.cells, Pt.slots] at X7 l7 y7 z7 st7 hQ7
  rw [l7, y7, z7] at X7
  obtain ⟨r_7, rfl, N7q, sz0_r_7, Kc7, Q7_0⟩ := hQ7
  have Kd7 : Keep T3.heap T7.heap [] := Kc7
  have ne_p0_r_7 : p0 ≠ r_7 := Nat.ne_of_lt (Nat.lt_of_lt_of_le arr_p0_3.lt sz0_r_7)
  have ne_b2_r_7 : b2 ≠ r_7 := Nat.ne_of_lt (Nat.lt_of_lt_of_le Q3_0.lt sz0_r_7)
  have sz_r_7 : h0.size ≤ r_7 := Nat.le_trans K3.1 sz0_r_7
  have ge_r_7 : n0 ≤ r_7 := Nat.le_trans Z3 sz0_r_7
  have st__ass_7 := own_sta_keep st__ass_3 Kd7 all0
  have st_HI_B_7 := own_sta_keep st_HI_B_3 Kd7 all0
  have st_LO_B_7 := own_sta_keep st_LO_B_3 Kd7 all0
  have arr_p0_7 := arr_p0_3.keep Kd7 nin0
  have arr_b2_7 := Q3_0.keep Kd7 nin0
  have K7 := K3.trans Kd7 all0
  have Z7 := Nat.le_trans Z3 Kd7.1
  have N7 := Fr.app N3 N7q
  have pre10 : ∀ t, SP p e below (T7.setTop (mkF m 32 #[vR p0, vI (0 : Int32), vI (2 : Int32), vR b2, vI (1 : Int32), vR r_7] [(.int (1 : Int32)), (.ref r_7)])) t → SP p e below (s₁.setTop (entryFrame m #[(.ref p0), (.int (0 : Int32)), (.int (2 : Int32))] 6)) t := by
    intro t k
    refine pre8 t ?_
    show SP p e below (T3.setTop (mkF m 23 #[vR p0, vI (0 : Int32), vI (2 : Int32), vR b2, vI (1 : Int32), .unset] [(.int (2 : Int32)), (.int (0 : Int32)), (.ref p0)])) _
    refine st7 _ ?_
    show SP p e below (T7.setTop (mkF m 26 #[vR p0, vI (0 : Int32), vI (2 : Int32), vR b2, vI (1 : Int32), .unset] [(.ref r_7)])) _
    refine XS.astore X7.here hx rfl (hb hby d11_26) rfl rfl (l' := #[vR p0, vI (0 : Int32), vI (2 : Int32), vR b2, vI (1 : Int32), vR r_7]) rfl ?_
    show SP p e below (T7.setTop (mkF m 28 #[vR p0, vI (0 : Int32), vI (2 : Int32), vR b2, vI (1 : Int32), vR r_7] [])) _
    refine XS.aload X7.here hx rfl (hb hby d11_28) rfl rfl ?_
    show SP p e below (T7.setTop (mkF m 30 #[vR p0, vI (0 : Int32), vI (2 : Int32), vR b2, vI (1 : Int32), vR r_7] [(.ref r_7)])) _
    refine XS.iload X7.here hx rfl (hb hby d11_30) rfl  ?_
    exact k
  obtain ⟨_, _, ⟨T9, L9, k9, n9⟩, -, X9, ⟨Lc9, hQ9, l9, y9, z9⟩, st9⟩ := Jvm.LawKit.callS X7 hx (y := (⟨"java/lang/StringUTF16", "getChar", "([BI)C"⟩ : MethodName)) hown (mvT hZ (ow hw 125 rfl)) (mvT hZ (ow hw 126 rfl)) (mvT hZ (ow hw 58 rfl)) (mvT hZ (ow hw 127 rfl)) (by decide) (backOf (W := 0) (rm_28c l Z a0 hw [] r_7 (f_24t_1 g_) T7.heap n0 Z7 Q7_0 st__ass_7 st_HI_B_7 st_LO_B_7) hZ (ow hw 127 rfl) (ow hw 58 rfl) (by decide) (by decide)) (g := (mkF m 32 #[vR p0, vI (0 : Int32), vI (2 : Int32), vR b2, vI (1 : Int32), vR r_7] [(.int (1 : Int32)), (.ref r_7)])) rfl (by rw [hml]; rfl) (argsL := [(.ref r_7), (.int (1 : Int32))]) (rest := []) (lenOf pd_5 rfl) rfl own_le0 (hb hby d11_32) (fun _ _ => ⟨rfl, rfl, (by decide : 2 + 0 ≤ _), (by decide : 6 + 0 ≤ _)⟩)
  dsimp only [Pt.U, Pt.locs, Pt.cells, Pt.slots] at X9 l9 y9 z9 st9 hQ9
  rw [l9, y9, z9] at X9
  obtain ⟨rfl, N9q, e9⟩ := hQ9
  have N9 := Fr.app N7 N9q
  obtain ⟨fs, hr, hrun, hended, hW, hsame⟩ := X9.leave (v := some (.ref r_7)) (fun h => by rw [Bd.returns] at h; cases h) (BodyLoose.notSynchronized Bd)
  refine ⟨_, _, pre10 _ ?_, hrun, hended, _, _, rfl, ?_, ⟨_, rfl⟩, hW, hsame.mono (by decide) (by decide)⟩
  · show SP p e below (T7.setTop (mkF m 32 #[vR p0, vI (0 : Int32), vI (2 : Int32), vR b2, vI (1 : Int32), vR r_7] [(.int (1 : Int32)), (.ref r_7)])) _
    refine st9 _ ?_
    show SP p e below (T9.setTop (mkF m 35 #[vR p0, vI (0 : Int32), vI (2 : Int32), vR b2, vI (1 : Int32), vR r_7] [(.int (f_28c (f_24t_1 g_)))])) _
    refine XS.sipush X9.here hx rfl (hb hby d11_35) ?_
    show SP p e below (T9.setTop (mkF m 38 #[vR p0, vI (0 : Int32), vI (2 : Int32), vR b2, vI (1 : Int32), vR r_7] [(.int (255 : Int32)), (.int (f_28c (f_24t_1 g_)))])) _
    refine XS.icmpYes X9.here hx rfl (pc0 := 38) (pc' := 54) rfl (hb hby d11_38) rfl (tlt ((own_gB hr_ hc1_) : (255 : Int32) < (f_28c (f_24t_1 g_)))).2.2.1 (by decide) (by decide) ?_
    show SP p e below (T9.setTop (mkF m 54 #[vR p0, vI (0 : Int32), vI (2 : Int32), vR b2, vI (1 : Int32), vR r_7] [])) _
    refine XS.aload X9.here hx rfl (hb hby d11_54) rfl rfl ?_
    show SP p e below (T9.setTop (mkF m 56 #[vR p0, vI (0 : Int32), vI (2 : Int32), vR b2, vI (1 : Int32), vR r_7] [(.ref r_7)])) _
    exact retOut X9 hx Bd.returns rfl (Or.inr (Or.inr (Or.inr (Or.inr ⟨rfl, rfl, rfl⟩)))) (hb hby d11_56) hr
  · show Q_11B Z p0 g_ h0 n0 _ T9.heap _
    rw [e9]
    have o1 := (by rfl : (f_24t_1 g_) = f_11B_1 g_)
    have r1 := Q7_0
    rw [o1] at r1
    exact ⟨r_7, rfl, N9, sz_r_7, K7, r1⟩
theorem pd_11 : parseMethodDescriptor "([BI)B" = some ⟨[(.array .byte), .int], some .byte⟩ := by decide +kernel
theorem d3_0 : decode jdk_42_method_149_code 0 = .ok (.aload_n 0, 1) := by decide +kernel
theorem d3_1 : decode jdk_42_method_149_code 1 = .ok (.invokespecial 1, 3) := by decide +kernel
theorem d3_4 : decode jdk_42_method_149_code 4 = .ok (.iload_n 3, 1) := by decide +kernel
theorem d3_5 : decode jdk_42_method_149_code 5 = .ok (.ifCond .ne 22, 3) := by decide +kernel
theorem d3_27 : decode jdk_42_method_149_code 27 = .ok (.getstatic 38, 3) := by decide +kernel
theorem d3_30 : decode jdk_42_method_149_code 30 = .ok (.ifCond .eq 28, 3) := by decide +kernel
theorem d3_33 : decode jdk_42_method_149_code 33 = .ok (.aload_n 1, 1) := by decide +kernel
theorem d3_34 : decode jdk_42_method_149_code 34 = .ok (.iload_n 2, 1) := by decide +kernel
theorem d3_35 : decode jdk_42_method_149_code 35 = .ok (.iload_n 3, 1) := by decide +kernel
theorem d3_36 : decode jdk_42_method_149_code 36 = .ok (.invokestatic 177, 3) := by decide +kernel
theorem d3_39 : decode jdk_42_method_149_code 39 = .ok (.astore 5, 2) := by decide +kernel
theorem d3_41 : decode jdk_42_method_149_code 41 = .ok (.aload_n 0, 1) := by decide +kernel
theorem d3_42 : decode jdk_42_method_149_code 42 = .ok (.aload 5, 2) := by decide +kernel
theorem d3_44 : decode jdk_42_method_149_code 44 = .ok (.iload_n 3, 1) := by decide +kernel
theorem d3_45 : decode jdk_42_method_149_code 45 = .ok (.invokestatic 47, 3) := by decide +kernel
theorem d3_48 : decode jdk_42_method_149_code 48 = .ok (.putfield 15, 3) := by decide +kernel
theorem d3_51 : decode jdk_42_method_149_code 51 = .ok (.aload_n 0, 1) := by decide +kernel
theorem d3_52 : decode jdk_42_method_149_code 52 = .ok (.aload 5, 2) := by decide +kernel
theorem d3_54 : decode jdk_42_method_149_code 54 = .ok (.putfield 9, 3) := by decide +kernel
theorem d3_57 : decode jdk_42_method_149_code 57 = .ok (.return_, 1) := by decide +kernel
theorem pn_3 : plainName "java/lang/String" = true := by first | (simp [plainName, overriddenIn]; done) | decide +kernel
theorem ef_3L (m : MethodId) (p0 : Addr) (p1 : Addr) : entryFrame m #[(.ref p0), (.ref p1), (.int (0 : Int32)), (.int (2 : Int32)), .null] 6 = mkF m 0 #[vR p0, vR p1, vI (0 : Int32), vI (2 : Int32), .val .null, .unset] [] := by first | (simp [entryFrame, mkF, argsToLocals, Value.category]; done) | rfl
def f_3L_1 (g_ : Nat → Int32) (cs_ : Int32) : Nat → Int32 := (f_11L_1 g_)
def Q_3L (Z : State) (p0 : Addr) (p1 : Addr) (g_ : Nat → Int32) (cs_ : Int32) (h0 : Heap) (n0 : Nat) (v : Option Value) (h : Heap) (L : List Loc) : Prop := ∃ w : Addr, v = none ∧ Fr n0 L ∧ h0.size ≤ w ∧ Keep h0 h [p0] ∧ Exa Z h p0 "java/lang/String" ∧ Fld Z h p0 "java/lang/String" "value" "[B" (.ref w) ∧ Fld Z h p0 "java/lang/String" "coder" "B" (.int (0 : Int32)) ∧ own_A Z h w .byte 2 (fun i => .int ((f_3L_1 g_ cs_) i))
theorem rm_3L (l : Launch) (Z : State) (a0 : Array Value) (hw : ∀ d ∈ tables_1, d.before a0 Z = true) (ws : List Jvm.Cond) (p0 : Addr) (p1 : Addr) (g_ : Nat → Int32) (cs_ : Int32) (h0 : Heap) (n0 : Nat) (Z0 : n0 ≤ h0.size) (E_p0 : Exa Z h0 p0 "java/lang/String") (F_p0_value : Fld Z h0 p0 "java/lang/String" "value" "[B" .null) (F_p0_coder : Fld Z h0 p0 "java/lang/String" "coder" "B" (.int (0 : Int32))) (ge_p0 : n0 ≤ p0) (A_p1 : own_A Z h0 p1 .char 2 (fun i => .int (g_ i))) (ne_p0_p1 : p0 ≠ p1) (S_COMPACT_STRINGS : Sta Z h0 "java/lang/String" "COMPACT_STRINGS" "Z" (.int cs_)) (hcs : ¬ (cs_ = (0 : Int32))) (hc0_ : ¬ ((255 : Int32) < (g_ 0))) (hc1_ : ¬ ((255 : Int32) < (g_ 1))) :
    MetFree l (⟨"java/lang/String", "<init>", "([CIILjava/lang/Void;)V"⟩ : MethodName) (head1 (Jvm.Cond.code (⟨"java/lang/String", "<init>", "([CIILjava/lang/Void;)V"⟩ : MethodName) jdk_42_method_149_code 6 none :: ws) (⟨2, 1, 2, 35⟩ : Room)) (fun a U => a = #[(.ref p0), (.ref p1), (.int (0 : Int32)), (.int (2 : Int32)), .null] ∧ Z.Warmed39 U.vm ∧ U.heap = h0) (fun _ _ _ _ _ => True) (fun _ U o U' => ∃ v L, o = .returned v ∧ Q_3L Z p0 p1 g_ cs_ h0 n0 v U'.heap L ∧ FrameEnd U o U' L 1 2) := by
  refine MetFree.of_bodySF (plainFor_of_name pn_3) hisR ?_
  intro p e s m args below meth c s₁ Bd hml0 hP hK
  obtain ⟨rfl, hZ, hh⟩ := hP
  have hx := Bd.exec
  have hby := Bd.bytes
  have hml : c.maxLocals = 6 := hml0
  have hown : s.vm.findClass "java/lang/String" = some m.cls := findClass_of_methodNamed Bd.named
  have hnm := (name_of_methodNamed Bd.named Bd.method).1
  have X0 : Stand p l e (⟨2, 1, 2, 35⟩ : Room) s m #[(.ref p0), (.ref p1), (.int (0 : Int32)), (.int (2 : Int32)), .null] below meth c s₁ [] 0 0 := Stand.of_body Bd
  have e0 : s₁.heap = h0 := by rw [← hh, Bd.state]; rfl
  have N0 := Fr.nil n0
  have K0 : Keep h0 h0 [p0] := Keep.refl h0 _
  have pre0 : ∀ t, SP p e below (s₁.setTop (mkF m 0 #[vR p0, vR p1, vI (0 : Int32), vI (2 : Int32), .val .null, .unset] [])) t → SP p e below (s₁.setTop (entryFrame m #[(.ref p0), (.ref p1), (.int (0 : Int32)), (.int (2 : Int32)), .null] 6)) t := fun t k => castTop (ef_3L m p0 p1) k
  have pre1 : ∀ t, SP p e below (s₁.setTop (mkF m 1 #[vR p0, vR p1, vI (0 : Int32), vI (2 : Int32), .val .null, .unset] [(.ref p0)])) t → SP p e below (s₁.setTop (entryFrame m #[(.ref p0), (.ref p1), (.int (0 : Int32)), (.int (2 : Int32)), .null] 6)) t := by
    intro t k
    refine pre0 t ?_
    show SP p e below (s₁.setTop (mkF m 0 #[vR p0, vR p1, vI (0 : Int32), vI (2 : Int32), .val .null, .unset] [])) _
    refine XS.aloadN X0.here hx rfl (hb hby d3_0) rfl rfl ?_
    exact k
  obtain ⟨T2, X2, e2, st2⟩ := initO X0 hx hZ hown (ow hw 16 rfl) (ow hw 17 rfl) (ow hw 18 rfl) e0 (g := (mkF m 1 #[vR p0, vR p1, vI (0 : Int32), vI (2 : Int32), .val .null, .unset] [(.ref p0)])) rfl (by rw [hml]; rfl) rfl (hb hby d3_1) (by decide) (W := 0) own_le0 (by decide)
  have pre3 : ∀ t, SP p e below (T2.setTop (mkF m 27 #[vR p0, vR p1, vI (0 : Int32), vI (2 : Int32), .val .null, .unset] [])) t → SP p e below (s₁.setTop (entryFrame m #[(.ref p0), (.ref p1), (.int (0 : Int32)), (.int (2 : Int32)), .null] 6)) t := by
    intro t k
    refine pre1 t ?_
    show SP p e below (s₁.setTop (mkF m 1 #[vR p0, vR p1, vI (0 : Int32), vI (2 : Int32), .val .null, .unset] [(.ref p0)])) _
    refine st2 _ ?_
    show SP p e below (T2.setTop (mkF m 4 #[vR p0, vR p1, vI (0 : Int32), vI (2 : Int32), .val .null, .unset] [])) _
    refine XS.iloadN X2.here hx rfl (hb hby d3_4) rfl  ?_
    show SP p e below (T2.setTop (mkF m 5 #[vR p0, vR p1, vI (0 : Int32), vI (2 : Int32), .val .null, .unset] [(.int (2 : Int32))])) _
    refine XS.ifYes X2.here hx rfl (pc0 := 5) (pc' := 27) rfl (hb hby d3_5) rfl ((if0 _ _).trans (feq (by decide : ¬ ((2 : Int32) = (0 : Int32)))).2) (by decide) (by decide) ?_
    exact k
  obtain ⟨T4, X4, e4, st4⟩ := getS2 X2 hx hZ hown (host := "") (Or.inl (ow hw 44 rfl)) Via.refl e2 S_COMPACT_STRINGS (g := (mkF m 27 #[vR p0, vR p1, vI (0 : Int32), vI (2 : Int32), .val .null, .unset] [])) rfl (hb hby d3_27)
  have pre6 : ∀ t, SP p e below (T4.setTop (mkF m 36 #[vR p0, vR p1, vI (0 : Int32), vI (2 : Int32), .val .null, .unset] [(.int (2 : Int32)), (.int (0 : Int32)), (.ref p1)])) t → SP p e below (s₁.setTop (entryFrame m #[(.ref p0), (.ref p1), (.int (0 : Int32)), (.int (2 : Int32)), .null] 6)) t := by
    intro t k
    refine pre3 t ?_
    show SP p e below (T2.setTop (mkF m 27 #[vR p0, vR p1, vI (0 : Int32), vI (2 : Int32), .val .null, .unset] [])) _
    refine st4 _ ?_
    show SP p e below (T4.setTop (mkF m 30 #[vR p0, vR p1, vI (0 : Int32), vI (2 : Int32), .val .null, .unset] [(.int cs_)])) _
    refine XS.ifNo X4.here hx rfl (hb hby d3_30) rfl ((if0 _ _).trans (feq (hcs : ¬ (cs_ = (0 : Int32)))).1) ?_
    show SP p e below (T4.setTop (mkF m 33 #[vR p0, vR p1, vI (0 : Int32), vI (2 : Int32), .val .null, .unset] [])) _
    refine XS.aloadN X4.here hx rfl (hb hby d3_33) rfl rfl ?_
    show SP p e below (T4.setTop (mkF m 34 #[vR p0, vR p1, vI (0 : Int32), vI (2 : Int32), .val .null, .unset] [(.ref p1)])) _
    refine XS.iloadN X4.here hx rfl (hb hby d3_34) rfl  ?_
    show SP p e below (T4.setTop (mkF m 35 #[vR p0, vR p1, vI (0 : Int32), vI (2 : Int32), .val .null, .unset] [(.int (0 : Int32)), (.ref p1)])) _
    refine XS.iloadN X4.here hx rfl (hb hby d3_35) rfl  ?_
    exact k
  obtain ⟨_, _, ⟨T5, L5, k5, n5⟩, -, X5, ⟨Lc5, hQ5, l5, y5, z5⟩, st5⟩ := Jvm.LawKit.callS X4 hx (y := (⟨"java/lang/StringUTF16", "compress", "([CII)[B"⟩ : MethodName)) hown (mvT hZ (ow hw 56 rfl)) (mvT hZ (ow hw 57 rfl)) (mvT hZ (ow hw 58 rfl)) (mvT hZ (ow hw 59 rfl)) (by decide) (backOf (W := 0) (rm_11L l Z a0 hw [] p1 g_ h0 n0 Z0 A_p1 hc0_ hc1_) hZ (ow hw 59 rfl) (ow hw 58 rfl) (by decide) (by decide)) (g := (mkF m 36 #[vR p0, vR p1, vI (0 : Int32), vI (2 : Int32), .val .null, .unset] [(.int (2 : Int32)), (.int (0 : Int32)), (.ref p1)])) rfl (by rw [hml]; rfl) (argsL := [(.ref p1), (.int (0 : Int32)), (.int (2 : Int32))]) (rest := []) (lenOf pd_10 rfl) rfl own_le0 (hb hby d3_36) (fun _ _ => ⟨rfl, e4, (by decide : 0 + 1 ≤ _), (by decide : 0 + 2 ≤ _)⟩)
  dsimp only [Pt.U, Pt.locs, Pt.cells, Pt.slots] at X5 l5 y5 z5 st5 hQ5
  rw [l5, y5, z5] at X5
  obtain ⟨r_5, rfl, N5q, sz0_r_5, Kc5, Q5_0⟩ := hQ5
  have Kd5 : Keep h0 T5.heap [] := Kc5
  have ne_p0_r_5 : p0 ≠ r_5 := Nat.ne_of_lt (Nat.lt_of_lt_of_le E_p0.lt sz0_r_5)
  have ne_p1_r_5 : p1 ≠ r_5 := Nat.ne_of_lt (Nat.lt_of_lt_of_le A_p1.lt sz0_r_5)
  have sz_r_5 : h0.size ≤ r_5 := Nat.le_trans K0.1 sz0_r_5
  have ge_r_5 : n0 ≤ r_5 := Nat.le_trans Z0 sz0_r_5
  have st_COMP_5 := own_sta_keep S_COMPACT_STRINGS Kd5 all0
  have exa_p0_5 := E_p0.keep Kd5
  have fld_p0_value_5 := F_p0_value.keep Kd5 nin0
  have fld_p0_coder_5 := F_p0_coder.keep Kd5 nin0
  have arr_p1_5 := A_p1.keep Kd5 nin0
  have K5 := K0.trans Kd5 all0
  have Z5 := Nat.le_trans Z0 Kd5.1
  have N5 := Fr.app N0 N5q
  have pre8 : ∀ t, SP p e below (T5.setTop (mkF m 45 #[vR p0, vR p1, vI (0 : Int32), vI (2 : Int32), .val .null, vR r_5] [(.int (2 : Int32)), (.ref r_5), (.ref p0)])) t → SP p e below (s₁.setTop (entryFrame m #[(.ref p0), (.ref p1), (.int (0 : Int32)), (.int (2 : Int32)), .null] 6)) t := by
    intro t k
    refine pre6 t ?_
    show SP p e below (T4.setTop (mkF m 36 #[vR p0, vR p1, vI (0 : Int32), vI (2 : Int32), .val .null, .unset] [(.int (2 : Int32)), (.int (0 : Int32)), (.ref p1)])) _
    refine st5 _ ?_
    show SP p e below (T5.setTop (mkF m 39 #[vR p0, vR p1, vI (0 : Int32), vI (2 : Int32), .val .null, .unset] [(.ref r_5)])) _
    refine XS.astore X5.here hx rfl (hb hby d3_39) rfl rfl (l' := #[vR p0, vR p1, vI (0 : Int32), vI (2 : Int32), .val .null, vR r_5]) rfl ?_
    show SP p e below (T5.setTop (mkF m 41 #[vR p0, vR p1, vI (0 : Int32), vI (2 : Int32), .val .null, vR r_5] [])) _
    refine XS.aloadN X5.here hx rfl (hb hby d3_41) rfl rfl ?_
    show SP p e below (T5.setTop (mkF m 42 #[vR p0, vR p1, vI (0 : Int32), vI (2 : Int32), .val .null, vR r_5] [(.ref p0)])) _
    refine XS.aload X5.here hx rfl (hb hby d3_42) rfl rfl ?_
    show SP p e below (T5.setTop (mkF m 44 #[vR p0, vR p1, vI (0 : Int32), vI (2 : Int32), .val .null, vR r_5] [(.ref r_5), (.ref p0)])) _
    refine XS.iloadN X5.here hx rfl (hb hby d3_44) rfl  ?_
    exact k
  obtain ⟨_, _, ⟨T7, L7, k7, n7⟩, -, X7, ⟨Lc7, hQ7, l7, y7, z7⟩, st7⟩ := Jvm.LawKit.callS X5 hx (y := (⟨"java/lang/StringUTF16", "coderFromArrayLen", "([BI)B"⟩ : MethodName)) hown (mvT hZ (ow hw 63 rfl)) (mvT hZ (ow hw 64 rfl)) (mvT hZ (ow hw 58 rfl)) (mvT hZ (ow hw 65 rfl)) (by decide) (backOf (W := 1) (rm_13n2 l Z a0 hw [] r_5 (f_11L_1 g_) T5.heap n0 Z5 Q5_0) hZ (ow hw 65 rfl) (ow hw 58 rfl) (by decide) (by decide)) (g := (mkF m 45 #[vR p0, vR p1, vI (0 : Int32), vI (2 : Int32), .val .null, vR r_5] [(.int (2 : Int32)), (.ref r_5), (.ref p0)])) rfl (by rw [hml]; rfl) (argsL := [(.ref r_5), (.int (2 : Int32))]) (rest := [(.ref p0)]) (lenOf pd_11 rfl) rfl own_le0 (hb hby d3_45) (fun _ _ => ⟨rfl, rfl, (by decide : 1 + 0 ≤ _), (by decide : 2 + 0 ≤ _)⟩)
  dsimp only [Pt.U, Pt.locs, Pt.cells, Pt.slots] at X7 l7 y7 z7 st7 hQ7
  rw [l7, y7, z7] at X7
  obtain ⟨rfl, N7q, e7⟩ := hQ7
  have N7 := Fr.app N5 N7q
  have pre9 : ∀ t, SP p e below (T7.setTop (mkF m 48 #[vR p0, vR p1, vI (0 : Int32), vI (2 : Int32), .val .null, vR r_5] [(.int (f_13n2 (f_11L_1 g_))), (.ref p0)])) t → SP p e below (s₁.setTop (entryFrame m #[(.ref p0), (.ref p1), (.int (0 : Int32)), (.int (2 : Int32)), .null] 6)) t := by
    intro t k
    refine pre8 t ?_
    show SP p e below (T5.setTop (mkF m 45 #[vR p0, vR p1, vI (0 : Int32), vI (2 : Int32), .val .null, vR r_5] [(.int (2 : Int32)), (.ref r_5), (.ref p0)])) _
    refine st7 _ ?_
    exact k
  obtain ⟨T10, h10, X10, e10, W10, st10⟩ := putFN X7 hx hZ hown (ow hw 26 rfl) Via.refl e7 fld_p0_coder_5 exa_p0_5 (Or.inr ⟨(ow hw 22 rfl), rfl, hnm⟩) (ow hw 6 rfl) (ty := .byte) (v' := .int (nar .byte (f_13n2 (f_11L_1 g_)))) (by decide) rfl (fits_nar_byte _) (g := (mkF m 48 #[vR p0, vR p1, vI (0 : Int32), vI (2 : Int32), .val .null, vR r_5] [(.int (f_13n2 (f_11L_1 g_))), (.ref p0)])) rfl rfl (hb hby d3_48)
  have Fw10 := fld_p0_coder_5.same W10
  have st_COMP_10 := st_COMP_5.wr W10
  have exa_p0_10 := exa_p0_5.wr W10
  have fld_p0_value_10 := fld_p0_value_5.other W10 (Or.inr (slot_ne (Or.inr (ow hw 21 rfl)) (Or.inr (ow hw 22 rfl)) (by decide) (t := (.array .byte)) (t' := .byte) (by decide) (by decide)))
  have arr_p1_10 := arr_p1_5.other W10 ne_p0_p1.symm
  have arr_r_5_10 := Q5_0.other W10 ne_p0_r_5.symm
  have K10 := K5.wr W10 (Or.inl (List.mem_of_getElem? (i := 0) rfl))
  have Z10 := Nat.le_trans Z5 (Nat.le_of_eq W10.size.symm)
  have N10 := Fr.snoc X10 N7 ge_p0
  have pre11 : ∀ t, SP p e below (T10.setTop (mkF m 54 #[vR p0, vR p1, vI (0 : Int32), vI (2 : Int32), .val .null, vR r_5] [(.ref r_5), (.ref p0)])) t → SP p e below (s₁.setTop (entryFrame m #[(.ref p0), (.ref p1), (.int (0 : Int32)), (.int (2 : Int32)), .null] 6)) t := by
    intro t k
    refine pre9 t ?_
    show SP p e below (T7.setTop (mkF m 48 #[vR p0, vR p1, vI (0 : Int32), vI (2 : Int32), .val .null, vR r_5] [(.int (f_13n2 (f_11L_1 g_))), (.ref p0)])) _
    refine st10 _ ?_
    show SP p e below (T10.setTop (mkF m 51 #[vR p0, vR p1, vI (0 : Int32), vI (2 : Int32), .val .null, vR r_5] [])) _
    refine XS.aloadN X10.here hx rfl (hb hby d3_51) rfl rfl ?_
    show SP p e below (T10.setTop (mkF m 52 #[vR p0, vR p1, vI (0 : Int32), vI (2 : Int32), .val .null, vR r_5] [(.ref p0)])) _
    refine XS.aload X10.here hx rfl (hb hby d3_52) rfl rfl ?_
    exact k
  obtain ⟨T12, h12, X12, e12, W12, st12⟩ := putF X10 hx hZ hown (host := "") (Or.inl (ow hw 25 rfl)) Via.refl e10 fld_p0_value_10 exa_p0_10 (Or.inr ⟨(ow hw 21 rfl), rfl, hnm⟩) (ow hw 6 rfl) (ty := (.array .byte)) (by decide) rfl rfl (g := (mkF m 54 #[vR p0, vR p1, vI (0 : Int32), vI (2 : Int32), .val .null, vR r_5] [(.ref r_5), (.ref p0)])) rfl rfl (hb hby d3_54)
  have Fw12 := fld_p0_value_10.same W12
  have st_COMP_12 := st_COMP_10.wr W12
  have exa_p0_12 := exa_p0_10.wr W12
  have fld_p0_coder_12 := Fw10.other W12 (Or.inr (slot_ne (Or.inr (ow hw 22 rfl)) (Or.inr (ow hw 21 rfl)) (by decide) (t := .byte) (t' := (.array .byte)) (by decide) (by decide)))
  have arr_p1_12 := arr_p1_10.other W12 ne_p0_p1.symm
  have arr_r_5_12 := arr_r_5_10.other W12 ne_p0_r_5.symm
  have K12 := K10.wr W12 (Or.inl (List.mem_of_getElem? (i := 0) rfl))
  have Z12 := Nat.le_trans Z10 (Nat.le_of_eq W12.size.symm)
  have N12 := Fr.snoc X12 N10 ge_p0
  obtain ⟨fs, hr, hrun, hended, hW, hsame⟩ := X12.leave (v := none) (fun _ => rfl) (BodyLoose.notSynchronized Bd)
  refine ⟨_, _, pre11 _ ?_, hrun, hended, _, _, rfl, ?_, ⟨_, rfl⟩, hW, hsame.mono (by decide) (by decide)⟩
  · show SP p e below (T10.setTop (mkF m 54 #[vR p0, vR p1, vI (0 : Int32), vI (2 : Int32), .val .null, vR r_5] [(.ref r_5), (.ref p0)])) _
    refine st12 _ ?_
    show SP p e below (T12.setTop (mkF m 57 #[vR p0, vR p1, vI (0 : Int32), vI (2 : Int32), .val .null, vR r_5] [])) _
    exact X12.returnOut hx Bd.returns (hb hby d3_57) hr
  · show Q_3L Z p0 p1 g_ cs_ h0 n0 _ T12.heap _
    rw [e12]
    have o1 := (by rfl : (f_11L_1 g_) = f_3L_1 g_ cs_)
    have r1 := arr_r_5_12
    rw [o1] at r1
    exact ⟨r_5, rfl, N12, sz_r_5, K12, exa_p0_12, Fw12, fld_p0_coder_12, r1⟩
theorem pd_12 : parseMethodDescriptor "([CIILjava/lang/Void;)V" = some ⟨[(.array .char), .int, .int, (.object "java/lang/Void")], none⟩ := by decide +kernel
theorem d2_0 : decode jdk_42_method_3_code 0 = .ok (.aload_n 0, 1) := by decide +kernel
theorem d2_1 : decode jdk_42_method_3_code 1 = .ok (.aload_n 1, 1) := by decide +kernel
theorem d2_2 : decode jdk_42_method_3_code 2 = .ok (.iconst 0, 1) := by decide +kernel
theorem d2_3 : decode jdk_42_method_3_code 3 = .ok (.aload_n 1, 1) := by decide +kernel
theorem d2_4 : decode jdk_42_method_3_code 4 = .ok (.arraylength, 1) := by decide +kernel
theorem d2_5 : decode jdk_42_method_3_code 5 = .ok (.aconst_null, 1) := by decide +kernel
theorem d2_6 : decode jdk_42_method_3_code 6 = .ok (.invokespecial 27, 3) := by decide +kernel
theorem d2_9 : decode jdk_42_method_3_code 9 = .ok (.return_, 1) := by decide +kernel
theorem pn_2 : plainName "java/lang/String" = true := by first | (simp [plainName, overriddenIn]; done) | decide +kernel
theorem ef_2L (m : MethodId) (p0 : Addr) (p1 : Addr) : entryFrame m #[(.ref p0), (.ref p1)] 2 = mkF m 0 #[vR p0, vR p1] [] := by first | (simp [entryFrame, mkF, argsToLocals, Value.category]; done) | rfl
def f_2L_1 (g_ : Nat → Int32) (cs_ : Int32) : Nat → Int32 := (f_3L_1 g_ cs_)
def Q_2L (Z : State) (p0 : Addr) (p1 : Addr) (g_ : Nat → Int32) (cs_ : Int32) (h0 : Heap) (n0 : Nat) (v : Option Value) (h : Heap) (L : List Loc) : Prop := ∃ w : Addr, v = none ∧ Fr n0 L ∧ h0.size ≤ w ∧ Keep h0 h [p0] ∧ Exa Z h p0 "java/lang/String" ∧ Fld Z h p0 "java/lang/String" "value" "[B" (.ref w) ∧ Fld Z h p0 "java/lang/String" "coder" "B" (.int (0 : Int32)) ∧ own_A Z h w .byte 2 (fun i => .int ((f_2L_1 g_ cs_) i))
theorem rm_2L (l : Launch) (Z : State) (a0 : Array Value) (hw : ∀ d ∈ tables_1, d.before a0 Z = true) (ws : List Jvm.Cond) (p0 : Addr) (p1 : Addr) (g_ : Nat → Int32) (cs_ : Int32) (h0 : Heap) (n0 : Nat) (Z0 : n0 ≤ h0.size) (E_p0 : Exa Z h0 p0 "java/lang/String") (F_p0_value : Fld Z h0 p0 "java/lang/String" "value" "[B" .null) (F_p0_coder : Fld Z h0 p0 "java/lang/String" "coder" "B" (.int (0 : Int32))) (ge_p0 : n0 ≤ p0) (A_p1 : own_A Z h0 p1 .char 2 (fun i => .int (g_ i))) (ne_p0_p1 : p0 ≠ p1) (S_COMPACT_STRINGS : Sta Z h0 "java/lang/String" "COMPACT_STRINGS" "Z" (.int cs_)) (hcs : ¬ (cs_ = (0 : Int32))) (hc0_ : ¬ ((255 : Int32) < (g_ 0))) (hc1_ : ¬ ((255 : Int32) < (g_ 1))) :
    MetFree l (⟨"java/lang/String", "<init>", "([C)V"⟩ : MethodName) (head1 (Jvm.Cond.code (⟨"java/lang/String", "<init>", "([C)V"⟩ : MethodName) jdk_42_method_3_code 2 none :: ws) (⟨3, 1, 2, 52⟩ : Room)) (fun a U => a = #[(.ref p0), (.ref p1)] ∧ Z.Warmed39 U.vm ∧ U.heap = h0) (fun _ _ _ _ _ => True) (fun _ U o U' => ∃ v L, o = .returned v ∧ Q_2L Z p0 p1 g_ cs_ h0 n0 v U'.heap L ∧ FrameEnd U o U' L 1 2) := by
  refine MetFree.of_bodySF (plainFor_of_name pn_2) hisR ?_
  intro p e s m args below meth c s₁ Bd hml0 hP hK
  obtain ⟨rfl, hZ, hh⟩ := hP
  have hx := Bd.exec
  have hby := Bd.bytes
  have hml : c.maxLocals = 2 := hml0
  have hown : s.vm.findClass "java/lang/String" = some m.cls := findClass_of_methodNamed Bd.named
  have hnm := (name_of_methodNamed Bd.named Bd.method).1
  have X0 : Stand p l e (⟨3, 1, 2, 52⟩ : Room) s m #[(.ref p0), (.ref p1)] below meth c s₁ [] 0 0 := Stand.of_body Bd
  have e0 : s₁.heap = h0 := by rw [← hh, Bd.state]; rfl
  have N0 := Fr.nil n0
  have K0 : Keep h0 h0 [p0] := Keep.refl h0 _
  have pre0 : ∀ t, SP p e below (s₁.setTop (mkF m 0 #[vR p0, vR p1] [])) t → SP p e below (s₁.setTop (entryFrame m #[(.ref p0), (.ref p1)] 2)) t := fun t k => castTop (ef_2L m p0 p1) k
  have pre2 : ∀ t, SP p e below (s₁.setTop (mkF m 6 #[vR p0, vR p1] [.null, (.int (2 : Int32)), (.int (0 : Int32)), (.ref p1), (.ref p0)])) t → SP p e below (s₁.setTop (entryFrame m #[(.ref p0), (.ref p1)] 2)) t := by
    intro t k
    refine pre0 t ?_
    show SP p e below (s₁.setTop (mkF m 0 #[vR p0, vR p1] [])) _
    refine XS.aloadN X0.here hx rfl (hb hby d2_0) rfl rfl ?_
    show SP p e below (s₁.setTop (mkF m 1 #[vR p0, vR p1] [(.ref p0)])) _
    refine XS.aloadN X0.here hx rfl (hb hby d2_1) rfl rfl ?_
    show SP p e below (s₁.setTop (mkF m 2 #[vR p0, vR p1] [(.ref p1), (.ref p0)])) _
    refine XS.iconst X0.here hx rfl (hb hby d2_2) ?_
    show SP p e below (s₁.setTop (mkF m 3 #[vR p0, vR p1] [(.int (0 : Int32)), (.ref p1), (.ref p0)])) _
    refine XS.aloadN X0.here hx rfl (hb hby d2_3) rfl rfl ?_
    show SP p e below (s₁.setTop (mkF m 4 #[vR p0, vR p1] [(.ref p1), (.int (0 : Int32)), (.ref p1), (.ref p0)])) _
    refine own_len X0 hx hZ e0 A_p1 (z := (2 : Int32)) rfl (g := (mkF m 4 #[vR p0, vR p1] [(.ref p1), (.int (0 : Int32)), (.ref p1), (.ref p0)])) rfl rfl (hb hby d2_4) ?_
    show SP p e below (s₁.setTop (mkF m 5 #[vR p0, vR p1] [(.int (2 : Int32)), (.int (0 : Int32)), (.ref p1), (.ref p0)])) _
    refine XS.aconstNull X0.here hx rfl (hb hby d2_5) ?_
    exact k
  obtain ⟨_, _, ⟨T1, L1, k1, n1⟩, -, X1, ⟨Lc1, hQ1, l1, y1, z1⟩, st1⟩ := X0.specialBack hx (y := (⟨"java/lang/String", "<init>", "([CIILjava/lang/Void;)V"⟩ : MethodName)) rfl hown (mvT hZ (ow hw 12 rfl)) (mvT hZ (ow hw 13 rfl)) (mvT hZ (ow hw 15 rfl)) (by decide) (backOf (W := 0) (rm_3L l Z a0 hw [] p0 p1 g_ cs_ h0 n0 Z0 E_p0 F_p0_value F_p0_coder ge_p0 A_p1 ne_p0_p1 S_COMPACT_STRINGS hcs hc0_ hc1_) hZ (ow hw 15 rfl) (ow hw 7 rfl) (by decide) (by decide)) (g := (mkF m 6 #[vR p0, vR p1] [.null, (.int (2 : Int32)), (.int (0 : Int32)), (.ref p1), (.ref p0)])) rfl (by rw [hml]; rfl) (Steps.refl _) (a := p0) (argsL := [(.ref p1), (.int (0 : Int32)), (.int (2 : Int32)), .null]) (rest := []) (lenOf pd_12 rfl) rfl own_le0 (hb hby d2_6) (fun _ _ => ⟨rfl, e0, (by decide : 0 + 1 ≤ _), (by decide : 0 + 2 ≤ _)⟩)
  dsimp only [Pt.U, Pt.locs, Pt.cells, Pt.slots] at X1 l1 y1 z1 st1 hQ1
  rw [l1, y1, z1] at X1
  obtain ⟨w_1, rfl, N1q, sz0_w_1, Kc1, Q1_0, Q1_1, Q1_2, Q1_3⟩ := hQ1
  have Kd1 : Keep h0 T1.heap [p0] := Kc1
  have ne_p0_w_1 : p0 ≠ w_1 := Nat.ne_of_lt (Nat.lt_of_lt_of_le E_p0.lt sz0_w_1)
  have ne_p1_w_1 : p1 ≠ w_1 := Nat.ne_of_lt (Nat.lt_of_lt_of_le A_p1.lt sz0_w_1)
  have sz_w_1 : h0.size ≤ w_1 := Nat.le_trans K0.1 sz0_w_1
  have ge_w_1 : n0 ≤ w_1 := Nat.le_trans Z0 sz0_w_1
  have st_COMP_1 := own_sta_keep S_COMPACT_STRINGS Kd1 (allS (own_E_plain E_p0) all0)
  have exa_p0_1 := E_p0.keep Kd1
  have arr_p1_1 := A_p1.keep Kd1 (ninS ne_p0_p1.symm nin0)
  have K1 := K0.trans Kd1 (allS (Or.inl (List.mem_of_getElem? (i := 0) rfl)) all0)
  have Z1 := Nat.le_trans Z0 Kd1.1
  have N1 := Fr.app N0 N1q
  obtain ⟨fs, hr, hrun, hended, hW, hsame⟩ := X1.leave (v := none) (fun _ => rfl) (BodyLoose.notSynchronized Bd)
  refine ⟨_, _, pre2 _ ?_, hrun, hended, _, _, rfl, ?_, ⟨_, rfl⟩, hW, hsame.mono (by decide) (by decide)⟩
  · show SP p e below (s₁.setTop (mkF m 6 #[vR p0, vR p1] [.null, (.int (2 : Int32)), (.int (0 : Int32)), (.ref p1), (.ref p0)])) _
    refine st1.trans ?_
    show SP p e below (T1.setTop (mkF m 9 #[vR p0, vR p1] [])) _
    exact X1.returnOut hx Bd.returns (hb hby d2_9) hr
  · show Q_2L Z p0 p1 g_ cs_ h0 n0 _ T1.heap _
    have o1 := (by rfl : (f_3L_1 g_ cs_) = f_2L_1 g_ cs_)
    have r1 := Q1_3
    rw [o1] at r1
    exact ⟨w_1, rfl, N1, sz_w_1, K1, Q1_0, Q1_1, Q1_2, r1⟩
theorem ef_3A (m : MethodId) (p0 : Addr) (p1 : Addr) : entryFrame m #[(.ref p0), (.ref p1), (.int (0 : Int32)), (.int (2 : Int32)), .null] 6 = mkF m 0 #[vR p0, vR p1, vI (0 : Int32), vI (2 : Int32), .val .null, .unset] [] := by first | (simp [entryFrame, mkF, argsToLocals, Value.category]; done) | rfl
def f_3A_1 (g_ : Nat → Int32) (cs_ : Int32) : Nat → Int32 := (f_11A_1 g_)
def Q_3A (Z : State) (p0 : Addr) (p1 : Addr) (g_ : Nat → Int32) (cs_ : Int32) (h0 : Heap) (n0 : Nat) (v : Option Value) (h : Heap) (L : List Loc) : Prop := ∃ w : Addr, v = none ∧ Fr n0 L ∧ h0.size ≤ w ∧ Keep h0 h [p0] ∧ Exa Z h p0 "java/lang/String" ∧ Fld Z h p0 "java/lang/String" "value" "[B" (.ref w) ∧ Fld Z h p0 "java/lang/String" "coder" "B" (.int (1 : Int32)) ∧ own_A Z h w .byte 4 (fun i => .int ((f_3A_1 g_ cs_) i))
theorem rm_3A (l : Launch) (Z : State) (a0 : Array Value) (hw : ∀ d ∈ tables_1, d.before a0 Z = true) (ws : List Jvm.Cond) (p0 : Addr) (p1 : Addr) (g_ : Nat → Int32) (cs_ : Int32) (h0 : Heap) (n0 : Nat) (Z0 : n0 ≤ h0.size) (E_p0 : Exa Z h0 p0 "java/lang/String") (F_p0_value : Fld Z h0 p0 "java/lang/String" "value" "[B" .null) (F_p0_coder : Fld Z h0 p0 "java/lang/String" "coder" "B" (.int (0 : Int32))) (ge_p0 : n0 ≤ p0) (A_p1 : own_A Z h0 p1 .char 2 (fun i => .int (g_ i))) (ne_p0_p1 : p0 ≠ p1) (S_COMPACT_STRINGS : Sta Z h0 "java/lang/String" "COMPACT_STRINGS" "Z" (.int cs_)) (hcs : ¬ (cs_ = (0 : Int32))) (S__assertionsDisabled : Sta Z h0 "java/lang/StringUTF16" "$assertionsDisabled" "Z" (.int (1 : Int32))) (S_HI_BYTE_SHIFT : Sta Z h0 "java/lang/StringUTF16" "HI_BYTE_SHIFT" "I" (.int (0 : Int32))) (S_LO_BYTE_SHIFT : Sta Z h0 "java/lang/StringUTF16" "LO_BYTE_SHIFT" "I" (.int (8 : Int32))) (hc0_ : (255 : Int32) < (g_ 0)) (hr_ : (g_ 0).toUInt32.toUInt16.toUInt32.toInt32 = g_ 0) :
    MetFree l (⟨"java/lang/String", "<init>", "([CIILjava/lang/Void;)V"⟩ : MethodName) (head1 (Jvm.Cond.code (⟨"java/lang/String", "<init>", "([CIILjava/lang/Void;)V"⟩ : MethodName) jdk_42_method_149_code 6 none :: ws) (⟨4, 2, 6, 57⟩ : Room)) (fun a U => a = #[(.ref p0), (.ref p1), (.int (0 : Int32)), (.int (2 : Int32)), .null] ∧ Z.Warmed39 U.vm ∧ U.heap = h0) (fun _ _ _ _ _ => True) (fun _ U o U' => ∃ v L, o = .returned v ∧ Q_3A Z p0 p1 g_ cs_ h0 n0 v U'.heap L ∧ FrameEnd U o U' L 2 6) := by
  refine MetFree.of_bodySF (plainFor_of_name pn_3) hisR ?_
  intro p e s m args below meth c s₁ Bd hml0 hP hK
  obtain ⟨rfl, hZ, hh⟩ := hP
  have hx := Bd.exec
  have hby := Bd.bytes
  have hml : c.maxLocals = 6 := hml0
  have hown : s.vm.findClass "java/lang/String" = some m.cls := findClass_of_methodNamed Bd.named
  have hnm := (name_of_methodNamed Bd.named Bd.method).1
  have X0 : Stand p l e (⟨4, 2, 6, 57⟩ : Room) s m #[(.ref p0), (.ref p1), (.int (0 : Int32)), (.int (2 : Int32)), .null] below meth c s₁ [] 0 0 := Stand.of_body Bd
  have e0 : s₁.heap = h0 := by rw [← hh, Bd.state]; rfl
  have N0 := Fr.nil n0
  have K0 : Keep h0 h0 [p0] := Keep.refl h0 _
  have pre0 : ∀ t, SP p e below (s₁.setTop (mkF m 0 #[vR p0, vR p1, vI (0 : Int32), vI (2 : Int32), .val .null, .unset] [])) t → SP p e below (s₁.setTop (entryFrame m #[(.ref p0), (.ref p1), (.int (0 : Int32)), (.int (2 : Int32)), .null] 6)) t := fun t k => castTop (ef_3A m p0 p1) k
  have pre1 : ∀ t, SP p e below (s₁.setTop (mkF m 1 #[vR p0, vR p1, vI (0 : Int32), vI (2 : Int32), .val .null, .unset] [(.ref p0)])) t → SP p e below (s₁.setTop (entryFrame m #[(.ref p0), (.ref p1), (.int (0 : Int32)), (.int (2 : Int32)), .null] 6)) t := by
    intro t k
    refine pre0 t ?_
    show SP p e below (s₁.setTop (mkF m 0 #[vR p0, vR p1, vI (0 : Int32), vI (2 : Int32), .val .null, .unset] [])) _
    refine XS.aloadN X0.here hx rfl (hb hby d3_0) rfl rfl ?_
    exact k
  obtain ⟨T2, X2, e2, st2⟩ := initO X0 hx hZ hown (ow hw 16 rfl) (ow hw 17 rfl) (ow hw 18 rfl) e0 (g := (mkF m 1 #[vR p0, vR p1, vI (0 : Int32), vI (2 : Int32), .val .null, .unset] [(.ref p0)])) rfl (by rw [hml]; rfl) rfl (hb hby d3_1) (by decide) (W := 0) own_le0 (by decide)
  have pre3 : ∀ t, SP p e below (T2.setTop (mkF m 27 #[vR p0, vR p1, vI (0 : Int32), vI (2 : Int32), .val .null, .unset] [])) t → SP p e below (s₁.setTop (entryFrame m #[(.ref p0), (.ref p1), (.int (0 : Int32)), (.int (2 : Int32)), .null] 6)) t := by
    intro t k
    refine pre1 t ?_
    show SP p e below (s₁.setTop (mkF m 1 #[vR p0, vR p1, vI (0 : Int32), vI (2 : Int32), .val .null, .unset] [(.ref p0)])) _
    refine st2 _ ?_
    show SP p e below (T2.setTop (mkF m 4 #[vR p0, vR p1, vI (0 : Int32), vI (2 : Int32), .val .null, .unset] [])) _
    refine XS.iloadN X2.here hx rfl (hb hby d3_4) rfl  ?_
    show SP p e below (T2.setTop (mkF m 5 #[vR p0, vR p1, vI (0 : Int32), vI (2 : Int32), .val .null, .unset] [(.int (2 : Int32))])) _
    refine XS.ifYes X2.here hx rfl (pc0 := 5) (pc' := 27) rfl (hb hby d3_5) rfl ((if0 _ _).trans (feq (by decide : ¬ ((2 : Int32) = (0 : Int32)))).2) (by decide) (by decide) ?_
    exact k
  obtain ⟨T4, X4, e4, st4⟩ := getS2 X2 hx hZ hown (host := "") (Or.inl (ow hw 44 rfl)) Via.refl e2 S_COMPACT_STRINGS (g := (mkF m 27 #[vR p0, vR p1, vI (0 : Int32), vI (2 : Int32), .val .null, .unset] [])) rfl (hb hby d3_27)
  have pre6 : ∀ t, SP p e below (T4.setTop (mkF m 36 #[vR p0, vR p1, vI (0 : Int32), vI (2 : Int32), .val .null, .unset] [(.int (2 : Int32)), (.int (0 : Int32)), (.ref p1)])) t → SP p e below (s₁.setTop (entryFrame m #[(.ref p0), (.ref p1), (.int (0 : Int32)), (.int (2 : Int32)), .null] 6)) t := by
    intro t k
    refine pre3 t ?_
    show SP p e below (T2.setTop (mkF m 27 #[vR p0, vR p1, vI (0 : Int32), vI (2 : Int32), .val .null, .unset] [])) _
    refine st4 _ ?_
    show SP p e below (T4.setTop (mkF m 30 #[vR p0, vR p1, vI (0 : Int32), vI (2 : Int32), .val .null, .unset] [(.int cs_)])) _
    refine XS.ifNo X4.here hx rfl (hb hby d3_30) rfl ((if0 _ _).trans (feq (hcs : ¬ (cs_ = (0 : Int32)))).1) ?_
    show SP p e below (T4.setTop (mkF m 33 #[vR p0, vR p1, vI (0 : Int32), vI (2 : Int32), .val .null, .unset] [])) _
    refine XS.aloadN X4.here hx rfl (hb hby d3_33) rfl rfl ?_
    show SP p e below (T4.setTop (mkF m 34 #[vR p0, vR p1, vI (0 : Int32), vI (2 : Int32), .val .null, .unset] [(.ref p1)])) _
    refine XS.iloadN X4.here hx rfl (hb hby d3_34) rfl  ?_
    show SP p e below (T4.setTop (mkF m 35 #[vR p0, vR p1, vI (0 : Int32), vI (2 : Int32), .val .null, .unset] [(.int (0 : Int32)), (.ref p1)])) _
    refine XS.iloadN X4.here hx rfl (hb hby d3_35) rfl  ?_
    exact k
  obtain ⟨_, _, ⟨T5, L5, k5, n5⟩, -, X5, ⟨Lc5, hQ5, l5, y5, z5⟩, st5⟩ := Jvm.LawKit.callS X4 hx (y := (⟨"java/lang/StringUTF16", "compress", "([CII)[B"⟩ : MethodName)) hown (mvT hZ (ow hw 56 rfl)) (mvT hZ (ow hw 57 rfl)) (mvT hZ (ow hw 58 rfl)) (mvT hZ (ow hw 59 rfl)) (by decide) (backOf (W := 0) (rm_11A l Z a0 hw [] p1 g_ h0 n0 Z0 A_p1 S__assertionsDisabled S_HI_BYTE_SHIFT S_LO_BYTE_SHIFT hc0_ hr_) hZ (ow hw 59 rfl) (ow hw 58 rfl) (by decide) (by decide)) (g := (mkF m 36 #[vR p0, vR p1, vI (0 : Int32), vI (2 : Int32), .val .null, .unset] [(.int (2 : Int32)), (.int (0 : Int32)), (.ref p1)])) rfl (by rw [hml]; rfl) (argsL := [(.ref p1), (.int (0 : Int32)), (.int (2 : Int32))]) (rest := []) (lenOf pd_10 rfl) rfl own_le0 (hb hby d3_36) (fun _ _ => ⟨rfl, e4, (by decide : 0 + 2 ≤ _), (by decide : 0 + 6 ≤ _)⟩)
  dsimp only [Pt.U, Pt.locs, Pt.cells, Pt.slots] at X5 l5 y5 z5 st5 hQ5
  rw [l5, y5, z5] at X5
  obtain ⟨r_5, rfl, N5q, sz0_r_5, Kc5, Q5_0⟩ := hQ5
  have Kd5 : Keep h0 T5.heap [] := Kc5
  have ne_p0_r_5 : p0 ≠ r_5 := Nat.ne_of_lt (Nat.lt_of_lt_of_le E_p0.lt sz0_r_5)
  have ne_p1_r_5 : p1 ≠ r_5 := Nat.ne_of_lt (Nat.lt_of_lt_of_le A_p1.lt sz0_r_5)
  have sz_r_5 : h0.size ≤ r_5 := Nat.le_trans K0.1 sz0_r_5
  have ge_r_5 : n0 ≤ r_5 := Nat.le_trans Z0 sz0_r_5
  have st_COMP_5 := own_sta_keep S_COMPACT_STRINGS Kd5 all0
  have st__ass_5 := own_sta_keep S__assertionsDisabled Kd5 all0
  have st_HI_B_5 := own_sta_keep S_HI_BYTE_SHIFT Kd5 all0
  have st_LO_B_5 := own_sta_keep S_LO_BYTE_SHIFT Kd5 all0
  have exa_p0_5 := E_p0.keep Kd5
  have fld_p0_value_5 := F_p0_value.keep Kd5 nin0
  have fld_p0_coder_5 := F_p0_coder.keep Kd5 nin0
  have arr_p1_5 := A_p1.keep Kd5 nin0
  have K5 := K0.trans Kd5 all0
  have Z5 := Nat.le_trans Z0 Kd5.1
  have N5 := Fr.app N0 N5q
  have pre8 : ∀ t, SP p e below (T5.setTop (mkF m 45 #[vR p0, vR p1, vI (0 : Int32), vI (2 : Int32), .val .null, vR r_5] [(.int (2 : Int32)), (.ref r_5), (.ref p0)])) t → SP p e below (s₁.setTop (entryFrame m #[(.ref p0), (.ref p1), (.int (0 : Int32)), (.int (2 : Int32)), .null] 6)) t := by
    intro t k
    refine pre6 t ?_
    show SP p e below (T4.setTop (mkF m 36 #[vR p0, vR p1, vI (0 : Int32), vI (2 : Int32), .val .null, .unset] [(.int (2 : Int32)), (.int (0 : Int32)), (.ref p1)])) _
    refine st5 _ ?_
    show SP p e below (T5.setTop (mkF m 39 #[vR p0, vR p1, vI (0 : Int32), vI (2 : Int32), .val .null, .unset] [(.ref r_5)])) _
    refine XS.astore X5.here hx rfl (hb hby d3_39) rfl rfl (l' := #[vR p0, vR p1, vI (0 : Int32), vI (2 : Int32), .val .null, vR r_5]) rfl ?_
    show SP p e below (T5.setTop (mkF m 41 #[vR p0, vR p1, vI (0 : Int32), vI (2 : Int32), .val .null, vR r_5] [])) _
    refine XS.aloadN X5.here hx rfl (hb hby d3_41) rfl rfl ?_
    show SP p e below (T5.setTop (mkF m 42 #[vR p0, vR p1, vI (0 : Int32), vI (2 : Int32), .val .null, vR r_5] [(.ref p0)])) _
    refine XS.aload X5.here hx rfl (hb hby d3_42) rfl rfl ?_
    show SP p e below (T5.setTop (mkF m 44 #[vR p0, vR p1, vI (0 : Int32), vI (2 : Int32), .val .null, vR r_5] [(.ref r_5), (.ref p0)])) _
    refine XS.iloadN X5.here hx rfl (hb hby d3_44) rfl  ?_
    exact k
  obtain ⟨_, _, ⟨T7, L7, k7, n7⟩, -, X7, ⟨Lc7, hQ7, l7, y7, z7⟩, st7⟩ := Jvm.LawKit.callS X5 hx (y := (⟨"java/lang/StringUTF16", "coderFromArrayLen", "([BI)B"⟩ : MethodName)) hown (mvT hZ (ow hw 63 rfl)) (mvT hZ (ow hw 64 rfl)) (mvT hZ (ow hw 58 rfl)) (mvT hZ (ow hw 65 rfl)) (by decide) (backOf (W := 1) (rm_13n4 l Z a0 hw [] r_5 (f_11A_1 g_) T5.heap n0 Z5 Q5_0) hZ (ow hw 65 rfl) (ow hw 58 rfl) (by decide) (by decide)) (g := (mkF m 45 #[vR p0, vR p1, vI (0 : Int32), vI (2 : Int32), .val .null, vR r_5] [(.int (2 : Int32)), (.ref r_5), (.ref p0)])) rfl (by rw [hml]; rfl) (argsL := [(.ref r_5), (.int (2 : Int32))]) (rest := [(.ref p0)]) (lenOf pd_11 rfl) rfl own_le0 (hb hby d3_45) (fun _ _ => ⟨rfl, rfl, (by decide : 2 + 0 ≤ _), (by decide : 6 + 0 ≤ _)⟩)
  dsimp only [Pt.U, Pt.locs, Pt.cells, Pt.slots] at X7 l7 y7 z7 st7 hQ7
  rw [l7, y7, z7] at X7
  obtain ⟨rfl, N7q, e7⟩ := hQ7
  have N7 := Fr.app N5 N7q
  have pre9 : ∀ t, SP p e below (T7.setTop (mkF m 48 #[vR p0, vR p1, vI (0 : Int32), vI (2 : Int32), .val .null, vR r_5] [(.int (f_13n4 (f_11A_1 g_))), (.ref p0)])) t → SP p e below (s₁.setTop (entryFrame m #[(.ref p0), (.ref p1), (.int (0 : Int32)), (.int (2 : Int32)), .null] 6)) t := by
    intro t k
    refine pre8 t ?_
    show SP p e below (T5.setTop (mkF m 45 #[vR p0, vR p1, vI (0 : Int32), vI (2 : Int32), .val .null, vR r_5] [(.int (2 : Int32)), (.ref r_5), (.ref p0)])) _
    refine st7 _ ?_
    exact k
  obtain ⟨T10, h10, X10, e10, W10, st10⟩ := putFN X7 hx hZ hown (ow hw 26 rfl) Via.refl e7 fld_p0_coder_5 exa_p0_5 (Or.inr ⟨(ow hw 22 rfl), rfl, hnm⟩) (ow hw 6 rfl) (ty := .byte) (v' := .int (nar .byte (f_13n4 (f_11A_1 g_)))) (by decide) rfl (fits_nar_byte _) (g := (mkF m 48 #[vR p0, vR p1, vI (0 : Int32), vI (2 : Int32), .val .null, vR r_5] [(.int (f_13n4 (f_11A_1 g_))), (.ref p0)])) rfl rfl (hb hby d3_48)
  have Fw10 := fld_p0_coder_5.same W10
  have st_COMP_10 := st_COMP_5.wr W10
  have st__ass_10 := st__ass_5.wr W10
  have st_HI_B_10 := st_HI_B_5.wr W10
  have st_LO_B_10 := st_LO_B_5.wr W10
  have exa_p0_10 := exa_p0_5.wr W10
  have fld_p0_value_10 := fld_p0_value_5.other W10 (Or.inr (slot_ne (Or.inr (ow hw 21 rfl)) (Or.inr (ow hw 22 rfl)) (by decide) (t := (.array .byte)) (t' := .byte) (by decide) (by decide)))
  have arr_p1_10 := arr_p1_5.other W10 ne_p0_p1.symm
  have arr_r_5_10 := Q5_0.other W10 ne_p0_r_5.symm
  have K10 := K5.wr W10 (Or.inl (List.mem_of_getElem? (i := 0) rfl))
  have Z10 := Nat.le_trans Z5 (Nat.le_of_eq W10.size.symm)
  have N10 := Fr.snoc X10 N7 ge_p0
  have pre11 : ∀ t, SP p e below (T10.setTop (mkF m 54 #[vR p0, vR p1, vI (0 : Int32), vI (2 : Int32), .val .null, vR r_5] [(.ref r_5), (.ref p0)])) t → SP p e below (s₁.setTop (entryFrame m #[(.ref p0), (.ref p1), (.int (0 : Int32)), (.int (2 : Int32)), .null] 6)) t := by
    intro t k
    refine pre9 t ?_
    show SP p e below (T7.setTop (mkF m 48 #[vR p0, vR p1, vI (0 : Int32), vI (2 : Int32), .val .null, vR r_5] [(.int (f_13n4 (f_11A_1 g_))), (.ref p0)])) _
    refine st10 _ ?_
    show SP p e below (T10.setTop (mkF m 51 #[vR p0, vR p1, vI (0 : Int32), vI (2 : Int32), .val .null, vR r_5] [])) _
    refine XS.aloadN X10.here hx rfl (hb hby d3_51) rfl rfl ?_
    show SP p e below (T10.setTop (mkF m 52 #[vR p0, vR p1, vI (0 : Int32), vI (2 : Int32), .val .null, vR r_5] [(.ref p0)])) _
    refine XS.aload X10.here hx rfl (hb hby d3_52) rfl rfl ?_
    exact k
  obtain ⟨T12, h12, X12, e12, W12, st12⟩ := putF X10 hx hZ hown (host := "") (Or.inl (ow hw 25 rfl)) Via.refl e10 fld_p0_value_10 exa_p0_10 (Or.inr ⟨(ow hw 21 rfl), rfl, hnm⟩) (ow hw 6 rfl) (ty := (.array .byte)) (by decide) rfl rfl (g := (mkF m 54 #[vR p0, vR p1, vI (0 : Int32), vI (2 : Int32), .val .null, vR r_5] [(.ref r_5), (.ref p0)])) rfl rfl (hb hby d3_54)
  have Fw12 := fld_p0_value_10.same W12
  have st_COMP_12 := st_COMP_10.wr W12
  have st__ass_12 := st__ass_10.wr W12
  have st_HI_B_12 := st_HI_B_10.wr W12
  have st_LO_B_12 := st_LO_B_10.wr W12
  have exa_p0_12 := exa_p0_10.wr W12
  have fld_p0_coder_12 := Fw10.other W12 (Or.inr (slot_ne (Or.inr (ow hw 22 rfl)) (Or.inr (ow hw 21 rfl)) (by decide) (t := .byte) (t' := (.array .byte)) (by decide) (by decide)))
  have arr_p1_12 := arr_p1_10.other W12 ne_p0_p1.symm
  have arr_r_5_12 := arr_r_5_10.other W12 ne_p0_r_5.symm
  have K12 := K10.wr W12 (Or.inl (List.mem_of_getElem? (i := 0) rfl))
  have Z12 := Nat.le_trans Z10 (Nat.le_of_eq W12.size.symm)
  have N12 := Fr.snoc X12 N10 ge_p0
  obtain ⟨fs, hr, hrun, hended, hW, hsame⟩ := X12.leave (v := none) (fun _ => rfl) (BodyLoose.notSynchronized Bd)
  refine ⟨_, _, pre11 _ ?_, hrun, hended, _, _, rfl, ?_, ⟨_, rfl⟩, hW, hsame.mono (by decide) (by decide)⟩
  · show SP p e below (T10.setTop (mkF m 54 #[vR p0, vR p1, vI (0 : Int32), vI (2 : Int32), .val .null, vR r_5] [(.ref r_5), (.ref p0)])) _
    refine st12 _ ?_
    show SP p e below (T12.setTop (mkF m 57 #[vR p0, vR p1, vI (0 : Int32), vI (2 : Int32), .val .null, vR r_5] [])) _
    exact X12.returnOut hx Bd.returns (hb hby d3_57) hr
  · show Q_3A Z p0 p1 g_ cs_ h0 n0 _ T12.heap _
    rw [e12]
    have o1 := (by rfl : (f_11A_1 g_) = f_3A_1 g_ cs_)
    have r1 := arr_r_5_12
    rw [o1] at r1
    exact ⟨r_5, rfl, N12, sz_r_5, K12, exa_p0_12, Fw12, fld_p0_coder_12, r1⟩
theorem ef_2A (m : MethodId) (p0 : Addr) (p1 : Addr) : entryFrame m #[(.ref p0), (.ref p1)] 2 = mkF m 0 #[vR p0, vR p1] [] := by first | (simp [entryFrame, mkF, argsToLocals, Value.category]; done) | rfl
def f_2A_1 (g_ : Nat → Int32) (cs_ : Int32) : Nat → Int32 := (f_3A_1 g_ cs_)
def Q_2A (Z : State) (p0 : Addr) (p1 : Addr) (g_ : Nat → Int32) (cs_ : Int32) (h0 : Heap) (n0 : Nat) (v : Option Value) (h : Heap) (L : List Loc) : Prop := ∃ w : Addr, v = none ∧ Fr n0 L ∧ h0.size ≤ w ∧ Keep h0 h [p0] ∧ Exa Z h p0 "java/lang/String" ∧ Fld Z h p0 "java/lang/String" "value" "[B" (.ref w) ∧ Fld Z h p0 "java/lang/String" "coder" "B" (.int (1 : Int32)) ∧ own_A Z h w .byte 4 (fun i => .int ((f_2A_1 g_ cs_) i))
theorem rm_2A (l : Launch) (Z : State) (a0 : Array Value) (hw : ∀ d ∈ tables_1, d.before a0 Z = true) (ws : List Jvm.Cond) (p0 : Addr) (p1 : Addr) (g_ : Nat → Int32) (cs_ : Int32) (h0 : Heap) (n0 : Nat) (Z0 : n0 ≤ h0.size) (E_p0 : Exa Z h0 p0 "java/lang/String") (F_p0_value : Fld Z h0 p0 "java/lang/String" "value" "[B" .null) (F_p0_coder : Fld Z h0 p0 "java/lang/String" "coder" "B" (.int (0 : Int32))) (ge_p0 : n0 ≤ p0) (A_p1 : own_A Z h0 p1 .char 2 (fun i => .int (g_ i))) (ne_p0_p1 : p0 ≠ p1) (S_COMPACT_STRINGS : Sta Z h0 "java/lang/String" "COMPACT_STRINGS" "Z" (.int cs_)) (hcs : ¬ (cs_ = (0 : Int32))) (S__assertionsDisabled : Sta Z h0 "java/lang/StringUTF16" "$assertionsDisabled" "Z" (.int (1 : Int32))) (S_HI_BYTE_SHIFT : Sta Z h0 "java/lang/StringUTF16" "HI_BYTE_SHIFT" "I" (.int (0 : Int32))) (S_LO_BYTE_SHIFT : Sta Z h0 "java/lang/StringUTF16" "LO_BYTE_SHIFT" "I" (.int (8 : Int32))) (hc0_ : (255 : Int32) < (g_ 0)) (hr_ : (g_ 0).toUInt32.toUInt16.toUInt32.toInt32 = g_ 0) :
    MetFree l (⟨"java/lang/String", "<init>", "([C)V"⟩ : MethodName) (head1 (Jvm.Cond.code (⟨"java/lang/String", "<init>", "([C)V"⟩ : MethodName) jdk_42_method_3_code 2 none :: ws) (⟨5, 2, 6, 74⟩ : Room)) (fun a U => a = #[(.ref p0), (.ref p1)] ∧ Z.Warmed39 U.vm ∧ U.heap = h0) (fun _ _ _ _ _ => True) (fun _ U o U' => ∃ v L, o = .returned v ∧ Q_2A Z p0 p1 g_ cs_ h0 n0 v U'.heap L ∧ FrameEnd U o U' L 2 6) := by
  refine MetFree.of_bodySF (plainFor_of_name pn_2) hisR ?_
  intro p e s m args below meth c s₁ Bd hml0 hP hK
  obtain ⟨rfl, hZ, hh⟩ := hP
  have hx := Bd.exec
  have hby := Bd.bytes
  have hml : c.maxLocals = 2 := hml0
  have hown : s.vm.findClass "java/lang/String" = some m.cls := findClass_of_methodNamed Bd.named
  have hnm := (name_of_methodNamed Bd.named Bd.method).1
  have X0 : Stand p l e (⟨5, 2, 6, 74⟩ : Room) s m #[(.ref p0), (.ref p1)] below meth c s₁ [] 0 0 := Stand.of_body Bd
  have e0 : s₁.heap = h0 := by rw [← hh, Bd.state]; rfl
  have N0 := Fr.nil n0
  have K0 : Keep h0 h0 [p0] := Keep.refl h0 _
  have pre0 : ∀ t, SP p e below (s₁.setTop (mkF m 0 #[vR p0, vR p1] [])) t → SP p e below (s₁.setTop (entryFrame m #[(.ref p0), (.ref p1)] 2)) t := fun t k => castTop (ef_2A m p0 p1) k
  have pre2 : ∀ t, SP p e below (s₁.setTop (mkF m 6 #[vR p0, vR p1] [.null, (.int (2 : Int32)), (.int (0 : Int32)), (.ref p1), (.ref p0)])) t → SP p e below (s₁.setTop (entryFrame m #[(.ref p0), (.ref p1)] 2)) t := by
    intro t k
    refine pre0 t ?_
    show SP p e below (s₁.setTop (mkF m 0 #[vR p0, vR p1] [])) _
    refine XS.aloadN X0.here hx rfl (hb hby d2_0) rfl rfl ?_
    show SP p e below (s₁.setTop (mkF m 1 #[vR p0, vR p1] [(.ref p0)])) _
    refine XS.aloadN X0.here hx rfl (hb hby d2_1) rfl rfl ?_
    show SP p e below (s₁.setTop (mkF m 2 #[vR p0, vR p1] [(.ref p1), (.ref p0)])) _
    refine XS.iconst X0.here hx rfl (hb hby d2_2) ?_
    show SP p e below (s₁.setTop (mkF m 3 #[vR p0, vR p1] [(.int (0 : Int32)), (.ref p1), (.ref p0)])) _
    refine XS.aloadN X0.here hx rfl (hb hby d2_3) rfl rfl ?_
    show SP p e below (s₁.setTop (mkF m 4 #[vR p0, vR p1] [(.ref p1), (.int (0 : Int32)), (.ref p1), (.ref p0)])) _
    refine own_len X0 hx hZ e0 A_p1 (z := (2 : Int32)) rfl (g := (mkF m 4 #[vR p0, vR p1] [(.ref p1), (.int (0 : Int32)), (.ref p1), (.ref p0)])) rfl rfl (hb hby d2_4) ?_
    show SP p e below (s₁.setTop (mkF m 5 #[vR p0, vR p1] [(.int (2 : Int32)), (.int (0 : Int32)), (.ref p1), (.ref p0)])) _
    refine XS.aconstNull X0.here hx rfl (hb hby d2_5) ?_
    exact k
  obtain ⟨_, _, ⟨T1, L1, k1, n1⟩, -, X1, ⟨Lc1, hQ1, l1, y1, z1⟩, st1⟩ := X0.specialBack hx (y := (⟨"java/lang/String", "<init>", "([CIILjava/lang/Void;)V"⟩ : MethodName)) rfl hown (mvT hZ (ow hw 12 rfl)) (mvT hZ (ow hw 13 rfl)) (mvT hZ (ow hw 15 rfl)) (by decide) (backOf (W := 0) (rm_3A l Z a0 hw [] p0 p1 g_ cs_ h0 n0 Z0 E_p0 F_p0_value F_p0_coder ge_p0 A_p1 ne_p0_p1 S_COMPACT_STRINGS hcs S__assertionsDisabled S_HI_BYTE_SHIFT S_LO_BYTE_SHIFT hc0_ hr_) hZ (ow hw 15 rfl) (ow hw 7 rfl) (by decide) (by decide)) (g := (mkF m 6 #[vR p0, vR p1] [.null, (.int (2 : Int32)), (.int (0 : Int32)), (.ref p1), (.ref p0)])) rfl (by rw [hml]; rfl) (Steps.refl _) (a := p0) (argsL := [(.ref p1), (.int (0 : Int32)), (.int (2 : Int32)), .null]) (rest := []) (lenOf pd_12 rfl) rfl own_le0 (hb hby d2_6) (fun _ _ => ⟨rfl, e0, (by decide : 0 + 2 ≤ _), (by decide : 0 + 6 ≤ _)⟩)
  dsimp only [Pt.U, Pt.locs, Pt.cells, Pt.slots] at X1 l1 y1 z1 st1 hQ1
  rw [l1, y1, z1] at X1
  obtain ⟨w_1, rfl, N1q, sz0_w_1, Kc1, Q1_0, Q1_1, Q1_2, Q1_3⟩ := hQ1
  have Kd1 : Keep h0 T1.heap [p0] := Kc1
  have ne_p0_w_1 : p0 ≠ w_1 := Nat.ne_of_lt (Nat.lt_of_lt_of_le E_p0.lt sz0_w_1)
  have ne_p1_w_1 : p1 ≠ w_1 := Nat.ne_of_lt (Nat.lt_of_lt_of_le A_p1.lt sz0_w_1)
  have sz_w_1 : h0.size ≤ w_1 := Nat.le_trans K0.1 sz0_w_1
  have ge_w_1 : n0 ≤ w_1 := Nat.le_trans Z0 sz0_w_1
  have st_COMP_1 := own_sta_keep S_COMPACT_STRINGS Kd1 (allS (own_E_plain E_p0) all0)
  have st__ass_1 := own_sta_keep S__assertionsDisabled Kd1 (allS (own_E_plain E_p0) all0)
  have st_HI_B_1 := own_sta_keep S_HI_BYTE_SHIFT Kd1 (allS (own_E_plain E_p0) all0)
  have st_LO_B_1 := own_sta_keep S_LO_BYTE_SHIFT Kd1 (allS (own_E_plain E_p0) all0)
  have exa_p0_1 := E_p0.keep Kd1
  have arr_p1_1 := A_p1.keep Kd1 (ninS ne_p0_p1.symm nin0)
  have K1 := K0.trans Kd1 (allS (Or.inl (List.mem_of_getElem? (i := 0) rfl)) all0)
  have Z1 := Nat.le_trans Z0 Kd1.1
  have N1 := Fr.app N0 N1q
  obtain ⟨fs, hr, hrun, hended, hW, hsame⟩ := X1.leave (v := none) (fun _ => rfl) (BodyLoose.notSynchronized Bd)
  refine ⟨_, _, pre2 _ ?_, hrun, hended, _, _, rfl, ?_, ⟨_, rfl⟩, hW, hsame.mono (by decide) (by decide)⟩
  · show SP p e below (s₁.setTop (mkF m 6 #[vR p0, vR p1] [.null, (.int (2 : Int32)), (.int (0 : Int32)), (.ref p1), (.ref p0)])) _
    refine st1.trans ?_
    show SP p e below (T1.setTop (mkF m 9 #[vR p0, vR p1] [])) _
    exact X1.returnOut hx Bd.returns (hb hby d2_9) hr
  · show Q_2A Z p0 p1 g_ cs_ h0 n0 _ T1.heap _
    have o1 := (by rfl : (f_3A_1 g_ cs_) = f_2A_1 g_ cs_)
    have r1 := Q1_3
    rw [o1] at r1
    exact ⟨w_1, rfl, N1, sz_w_1, K1, Q1_0, Q1_1, Q1_2, r1⟩
theorem ef_3B (m : MethodId) (p0 : Addr) (p1 : Addr) : entryFrame m #[(.ref p0), (.ref p1), (.int (0 : Int32)), (.int (2 : Int32)), .null] 6 = mkF m 0 #[vR p0, vR p1, vI (0 : Int32), vI (2 : Int32), .val .null, .unset] [] := by first | (simp [entryFrame, mkF, argsToLocals, Value.category]; done) | rfl
def f_3B_1 (g_ : Nat → Int32) (cs_ : Int32) : Nat → Int32 := (f_11B_1 g_)
def Q_3B (Z : State) (p0 : Addr) (p1 : Addr) (g_ : Nat → Int32) (cs_ : Int32) (h0 : Heap) (n0 : Nat) (v : Option Value) (h : Heap) (L : List Loc) : Prop := ∃ w : Addr, v = none ∧ Fr n0 L ∧ h0.size ≤ w ∧ Keep h0 h [p0] ∧ Exa Z h p0 "java/lang/String" ∧ Fld Z h p0 "java/lang/String" "value" "[B" (.ref w) ∧ Fld Z h p0 "java/lang/String" "coder" "B" (.int (1 : Int32)) ∧ own_A Z h w .byte 4 (fun i => .int ((f_3B_1 g_ cs_) i))
theorem rm_3B (l : Launch) (Z : State) (a0 : Array Value) (hw : ∀ d ∈ tables_1, d.before a0 Z = true) (ws : List Jvm.Cond) (p0 : Addr) (p1 : Addr) (g_ : Nat → Int32) (cs_ : Int32) (h0 : Heap) (n0 : Nat) (Z0 : n0 ≤ h0.size) (E_p0 : Exa Z h0 p0 "java/lang/String") (F_p0_value : Fld Z h0 p0 "java/lang/String" "value" "[B" .null) (F_p0_coder : Fld Z h0 p0 "java/lang/String" "coder" "B" (.int (0 : Int32))) (ge_p0 : n0 ≤ p0) (A_p1 : own_A Z h0 p1 .char 2 (fun i => .int (g_ i))) (ne_p0_p1 : p0 ≠ p1) (S_COMPACT_STRINGS : Sta Z h0 "java/lang/String" "COMPACT_STRINGS" "Z" (.int cs_)) (hcs : ¬ (cs_ = (0 : Int32))) (S__assertionsDisabled : Sta Z h0 "java/lang/StringUTF16" "$assertionsDisabled" "Z" (.int (1 : Int32))) (S_HI_BYTE_SHIFT : Sta Z h0 "java/lang/StringUTF16" "HI_BYTE_SHIFT" "I" (.int (0 : Int32))) (S_LO_BYTE_SHIFT : Sta Z h0 "java/lang/StringUTF16" "LO_BYTE_SHIFT" "I" (.int (8 : Int32))) (hc0_ : ¬ ((255 : Int32) < (g_ 0))) (hc1_ : (255 : Int32) < (g_ 1)) (hr_ : (g_ 1).toUInt32.toUInt16.toUInt32.toInt32 = g_ 1) :
    MetFree l (⟨"java/lang/String", "<init>", "([CIILjava/lang/Void;)V"⟩ : MethodName) (head1 (Jvm.Cond.code (⟨"java/lang/String", "<init>", "([CIILjava/lang/Void;)V"⟩ : MethodName) jdk_42_method_149_code 6 none :: ws) (⟨4, 2, 6, 57⟩ : Room)) (fun a U => a = #[(.ref p0), (.ref p1), (.int (0 : Int32)), (.int (2 : Int32)), .null] ∧ Z.Warmed39 U.vm ∧ U.heap = h0) (fun _ _ _ _ _ => True) (fun _ U o U' => ∃ v L, o = .returned v ∧ Q_3B Z p0 p1 g_ cs_ h0 n0 v U'.heap L ∧ FrameEnd U o U' L 2 6) := by
  refine MetFree.of_bodySF (plainFor_of_name pn_3) hisR ?_
  intro p e s m args below meth c s₁ Bd hml0 hP hK
  obtain ⟨rfl, hZ, hh⟩ := hP
  have hx := Bd.exec
  have hby := Bd.bytes
  have hml : c.maxLocals = 6 := hml0
  have hown : s.vm.findClass "java/lang/String" = some m.cls := findClass_of_methodNamed Bd.named
  have hnm := (name_of_methodNamed Bd.named Bd.method).1
  have X0 : Stand p l e (⟨4, 2, 6, 57⟩ : Room) s m #[(.ref p0), (.ref p1), (.int (0 : Int32)), (.int (2 : Int32)), .null] below meth c s₁ [] 0 0 := Stand.of_body Bd
  have e0 : s₁.heap = h0 := by rw [← hh, Bd.state]; rfl
  have N0 := Fr.nil n0
  have K0 : Keep h0 h0 [p0] := Keep.refl h0 _
  have pre0 : ∀ t, SP p e below (s₁.setTop (mkF m 0 #[vR p0, vR p1, vI (0 : Int32), vI (2 : Int32), .val .null, .unset] [])) t → SP p e below (s₁.setTop (entryFrame m #[(.ref p0), (.ref p1), (.int (0 : Int32)), (.int (2 : Int32)), .null] 6)) t := fun t k => castTop (ef_3B m p0 p1) k
  have pre1 : ∀ t, SP p e below (s₁.setTop (mkF m 1 #[vR p0, vR p1, vI (0 : Int32), vI (2 : Int32), .val .null, .unset] [(.ref p0)])) t → SP p e below (s₁.setTop (entryFrame m #[(.ref p0), (.ref p1), (.int (0 : Int32)), (.int (2 : Int32)), .null] 6)) t := by
    intro t k
    refine pre0 t ?_
    show SP p e below (s₁.setTop (mkF m 0 #[vR p0, vR p1, vI (0 : Int32), vI (2 : Int32), .val .null, .unset] [])) _
    refine XS.aloadN X0.here hx rfl (hb hby d3_0) rfl rfl ?_
    exact k
  obtain ⟨T2, X2, e2, st2⟩ := initO X0 hx hZ hown (ow hw 16 rfl) (ow hw 17 rfl) (ow hw 18 rfl) e0 (g := (mkF m 1 #[vR p0, vR p1, vI (0 : Int32), vI (2 : Int32), .val .null, .unset] [(.ref p0)])) rfl (by rw [hml]; rfl) rfl (hb hby d3_1) (by decide) (W := 0) own_le0 (by decide)
  have pre3 : ∀ t, SP p e below (T2.setTop (mkF m 27 #[vR p0, vR p1, vI (0 : Int32), vI (2 : Int32), .val .null, .unset] [])) t → SP p e below (s₁.setTop (entryFrame m #[(.ref p0), (.ref p1), (.int (0 : Int32)), (.int (2 : Int32)), .null] 6)) t := by
    intro t k
    refine pre1 t ?_
    show SP p e below (s₁.setTop (mkF m 1 #[vR p0, vR p1, vI (0 : Int32), vI (2 : Int32), .val .null, .unset] [(.ref p0)])) _
    refine st2 _ ?_
    show SP p e below (T2.setTop (mkF m 4 #[vR p0, vR p1, vI (0 : Int32), vI (2 : Int32), .val .null, .unset] [])) _
    refine XS.iloadN X2.here hx rfl (hb hby d3_4) rfl  ?_
    show SP p e below (T2.setTop (mkF m 5 #[vR p0, vR p1, vI (0 : Int32), vI (2 : Int32), .val .null, .unset] [(.int (2 : Int32))])) _
    refine XS.ifYes X2.here hx rfl (pc0 := 5) (pc' := 27) rfl (hb hby d3_5) rfl ((if0 _ _).trans (feq (by decide : ¬ ((2 : Int32) = (0 : Int32)))).2) (by decide) (by decide) ?_
    exact k
  obtain ⟨T4, X4, e4, st4⟩ := getS2 X2 hx hZ hown (host := "") (Or.inl (ow hw 44 rfl)) Via.refl e2 S_COMPACT_STRINGS (g := (mkF m 27 #[vR p0, vR p1, vI (0 : Int32), vI (2 : Int32), .val .null, .unset] [])) rfl (hb hby d3_27)
  have pre6 : ∀ t, SP p e below (T4.setTop (mkF m 36 #[vR p0, vR p1, vI (0 : Int32), vI (2 : Int32), .val .null, .unset] [(.int (2 : Int32)), (.int (0 : Int32)), (.ref p1)])) t → SP p e below (s₁.setTop (entryFrame m #[(.ref p0), (.ref p1), (.int (0 : Int32)), (.int (2 : Int32)), .null] 6)) t := by
    intro t k
    refine pre3 t ?_
    show SP p e below (T2.setTop (mkF m 27 #[vR p0, vR p1, vI (0 : Int32), vI (2 : Int32), .val .null, .unset] [])) _
    refine st4 _ ?_
    show SP p e below (T4.setTop (mkF m 30 #[vR p0, vR p1, vI (0 : Int32), vI (2 : Int32), .val .null, .unset] [(.int cs_)])) _
    refine XS.ifNo X4.here hx rfl (hb hby d3_30) rfl ((if0 _ _).trans (feq (hcs : ¬ (cs_ = (0 : Int32)))).1) ?_
    show SP p e below (T4.setTop (mkF m 33 #[vR p0, vR p1, vI (0 : Int32), vI (2 : Int32), .val .null, .unset] [])) _
    refine XS.aloadN X4.here hx rfl (hb hby d3_33) rfl rfl ?_
    show SP p e below (T4.setTop (mkF m 34 #[vR p0, vR p1, vI (0 : Int32), vI (2 : Int32), .val .null, .unset] [(.ref p1)])) _
    refine XS.iloadN X4.here hx rfl (hb hby d3_34) rfl  ?_
    show SP p e below (T4.setTop (mkF m 35 #[vR p0, vR p1, vI (0 : Int32), vI (2 : Int32), .val .null, .unset] [(.int (0 : Int32)), (.ref p1)])) _
    refine XS.iloadN X4.here hx rfl (hb hby d3_35) rfl  ?_
    exact k
  obtain ⟨_, _, ⟨T5, L5, k5, n5⟩, -, X5, ⟨Lc5, hQ5, l5, y5, z5⟩, st5⟩ := Jvm.LawKit.callS X4 hx (y := (⟨"java/lang/StringUTF16", "compress", "([CII)[B"⟩ : MethodName)) hown (mvT hZ (ow hw 56 rfl)) (mvT hZ (ow hw 57 rfl)) (mvT hZ (ow hw 58 rfl)) (mvT hZ (ow hw 59 rfl)) (by decide) (backOf (W := 0) (rm_11B l Z a0 hw [] p1 g_ h0 n0 Z0 A_p1 S__assertionsDisabled S_HI_BYTE_SHIFT S_LO_BYTE_SHIFT hc0_ hc1_ hr_) hZ (ow hw 59 rfl) (ow hw 58 rfl) (by decide) (by decide)) (g := (mkF m 36 #[vR p0, vR p1, vI (0 : Int32), vI (2 : Int32), .val .null, .unset] [(.int (2 : Int32)), (.int (0 : Int32)), (.ref p1)])) rfl (by rw [hml]; rfl) (argsL := [(.ref p1), (.int (0 : Int32)), (.int (2 : Int32))]) (rest := []) (lenOf pd_10 rfl) rfl own_le0 (hb hby d3_36) (fun _ _ => ⟨rfl, e4, (by decide : 0 + 2 ≤ _), (by decide : 0 + 6 ≤ _)⟩)
  dsimp only [Pt.U, Pt.locs, Pt.cells, Pt.slots] at X5 l5 y5 z5 st5 hQ5
  rw [l5, y5, z5] at X5
  obtain ⟨r_5, rfl, N5q, sz0_r_5, Kc5, Q5_0⟩ := hQ5
  have Kd5 : Keep h0 T5.heap [] := Kc5
  have ne_p0_r_5 : p0 ≠ r_5 := Nat.ne_of_lt (Nat.lt_of_lt_of_le E_p0.lt sz0_r_5)
  have ne_p1_r_5 : p1 ≠ r_5 := Nat.ne_of_lt (Nat.lt_of_lt_of_le A_p1.lt sz0_r_5)
  have sz_r_5 : h0.size ≤ r_5 := Nat.le_trans K0.1 sz0_r_5
  have ge_r_5 : n0 ≤ r_5 := Nat.le_trans Z0 sz0_r_5
  have st_COMP_5 := own_sta_keep S_COMPACT_STRINGS Kd5 all0
  have st__ass_5 := own_sta_keep S__assertionsDisabled Kd5 all0
  have st_HI_B_5 := own_sta_keep S_HI_BYTE_SHIFT Kd5 all0
  have st_LO_B_5 := own_sta_keep S_LO_BYTE_SHIFT Kd5 all0
  have exa_p0_5 := E_p0.keep Kd5
  have fld_p0_value_5 := F_p0_value.keep Kd5 nin0
  have fld_p0_coder_5 := F_p0_coder.keep Kd5 nin0
  have arr_p1_5 := A_p1.keep Kd5 nin0
  have K5 := K0.trans Kd5 all0
  have Z5 := Nat.le_trans Z0 Kd5.1
  have N5 := Fr.app N0 N5q
  have pre8 : ∀ t, SP p e below (T5.setTop (mkF m 45 #[vR p0, vR p1, vI (0 : Int32), vI (2 : Int32), .val .null, vR r_5] [(.int (2 : Int32)), (.ref r_5), (.ref p0)])) t → SP p e below (s₁.setTop (entryFrame m #[(.ref p0), (.ref p1), (.int (0 : Int32)), (.int (2 : Int32)), .null] 6)) t := by
    intro t k
    refine pre6 t ?_
    show SP p e below (T4.setTop (mkF m 36 #[vR p0, vR p1, vI (0 : Int32), vI (2 : Int32), .val .null, .unset] [(.int (2 : Int32)), (.int (0 : Int32)), (.ref p1)])) _
    refine st5 _ ?_
    show SP p e below (T5.setTop (mkF m 39 #[vR p0, vR p1, vI (0 : Int32), vI (2 : Int32), .val .null, .unset] [(.ref r_5)])) _
    refine XS.astore X5.here hx rfl (hb hby d3_39) rfl rfl (l' := #[vR p0, vR p1, vI (0 : Int32), vI (2 : Int32), .val .null, vR r_5]) rfl ?_
    show SP p e below (T5.setTop (mkF m 41 #[vR p0, vR p1, vI (0 : Int32), vI (2 : Int32), .val .null, vR r_5] [])) _
    refine XS.aloadN X5.here hx rfl (hb hby d3_41) rfl rfl ?_
    show SP p e below (T5.setTop (mkF m 42 #[vR p0, vR p1, vI (0 : Int32), vI (2 : Int32), .val .null, vR r_5] [(.ref p0)])) _
    refine XS.aload X5.here hx rfl (hb hby d3_42) rfl rfl ?_
    show SP p e below (T5.setTop (mkF m 44 #[vR p0, vR p1, vI (0 : Int32), vI (2 : Int32), .val .null, vR r_5] [(.ref r_5), (.ref p0)])) _
    refine XS.iloadN X5.here hx rfl (hb hby d3_44) rfl  ?_
    exact k
  obtain ⟨_, _, ⟨T7, L7, k7, n7⟩, -, X7, ⟨Lc7, hQ7, l7, y7, z7⟩, st7⟩ := Jvm.LawKit.callS X5 hx (y := (⟨"java/lang/StringUTF16", "coderFromArrayLen", "([BI)B"⟩ : MethodName)) hown (mvT hZ (ow hw 63 rfl)) (mvT hZ (ow hw 64 rfl)) (mvT hZ (ow hw 58 rfl)) (mvT hZ (ow hw 65 rfl)) (by decide) (backOf (W := 1) (rm_13n4 l Z a0 hw [] r_5 (f_11B_1 g_) T5.heap n0 Z5 Q5_0) hZ (ow hw 65 rfl) (ow hw 58 rfl) (by decide) (by decide)) (g := (mkF m 45 #[vR p0, vR p1, vI (0 : Int32), vI (2 : Int32), .val .null, vR r_5] [(.int (2 : Int32)), (.ref r_5), (.ref p0)])) rfl (by rw [hml]; rfl) (argsL := [(.ref r_5), (.int (2 : Int32))]) (rest := [(.ref p0)]) (lenOf pd_11 rfl) rfl own_le0 (hb hby d3_45) (fun _ _ => ⟨rfl, rfl, (by decide : 2 + 0 ≤ _), (by decide : 6 + 0 ≤ _)⟩)
  dsimp only [Pt.U, Pt.locs, Pt.cells, Pt.slots] at X7 l7 y7 z7 st7 hQ7
  rw [l7, y7, z7] at X7
  obtain ⟨rfl, N7q, e7⟩ := hQ7
  have N7 := Fr.app N5 N7q
  have pre9 : ∀ t, SP p e below (T7.setTop (mkF m 48 #[vR p0, vR p1, vI (0 : Int32), vI (2 : Int32), .val .null, vR r_5] [(.int (f_13n4 (f_11B_1 g_))), (.ref p0)])) t → SP p e below (s₁.setTop (entryFrame m #[(.ref p0), (.ref p1), (.int (0 : Int32)), (.int (2 : Int32)), .null] 6)) t := by
    intro t k
    refine pre8 t ?_
    show SP p e below (T5.setTop (mkF m 45 #[vR p0, vR p1, vI (0 : Int32), vI (2 : Int32), .val .null, vR r_5] [(.int (2 : Int32)), (.ref r_5), (.ref p0)])) _
    refine st7 _ ?_
    exact k
  obtain ⟨T10, h10, X10, e10, W10, st10⟩ := putFN X7 hx hZ hown (ow hw 26 rfl) Via.refl e7 fld_p0_coder_5 exa_p0_5 (Or.inr ⟨(ow hw 22 rfl), rfl, hnm⟩) (ow hw 6 rfl) (ty := .byte) (v' := .int (nar .byte (f_13n4 (f_11B_1 g_)))) (by decide) rfl (fits_nar_byte _) (g := (mkF m 48 #[vR p0, vR p1, vI (0 : Int32), vI (2 : Int32), .val .null, vR r_5] [(.int (f_13n4 (f_11B_1 g_))), (.ref p0)])) rfl rfl (hb hby d3_48)
  have Fw10 := fld_p0_coder_5.same W10
  have st_COMP_10 := st_COMP_5.wr W10
  have st__ass_10 := st__ass_5.wr W10
  have st_HI_B_10 := st_HI_B_5.wr W10
  have st_LO_B_10 := st_LO_B_5.wr W10
  have exa_p0_10 := exa_p0_5.wr W10
  have fld_p0_value_10 := fld_p0_value_5.other W10 (Or.inr (slot_ne (Or.inr (ow hw 21 rfl)) (Or.inr (ow hw 22 rfl)) (by decide) (t := (.array .byte)) (t' := .byte) (by decide) (by decide)))
  have arr_p1_10 := arr_p1_5.other W10 ne_p0_p1.symm
  have arr_r_5_10 := Q5_0.other W10 ne_p0_r_5.symm
  have K10 := K5.wr W10 (Or.inl (List.mem_of_getElem? (i := 0) rfl))
  have Z10 := Nat.le_trans Z5 (Nat.le_of_eq W10.size.symm)
  have N10 := Fr.snoc X10 N7 ge_p0
  have pre11 : ∀ t, SP p e below (T10.setTop (mkF m 54 #[vR p0, vR p1, vI (0 : Int32), vI (2 : Int32), .val .null, vR r_5] [(.ref r_5), (.ref p0)])) t → SP p e below (s₁.setTop (entryFrame m #[(.ref p0), (.ref p1), (.int (0 : Int32)), (.int (2 : Int32)), .null] 6)) t := by
    intro t k
    refine pre9 t ?_
    show SP p e below (T7.setTop (mkF m 48 #[vR p0, vR p1, vI (0 : Int32), vI (2 : Int32), .val .null, vR r_5] [(.int (f_13n4 (f_11B_1 g_))), (.ref p0)])) _
    refine st10 _ ?_
    show SP p e below (T10.setTop (mkF m 51 #[vR p0, vR p1, vI (0 : Int32), vI (2 : Int32), .val .null, vR r_5] [])) _
    refine XS.aloadN X10.here hx rfl (hb hby d3_51) rfl rfl ?_
    show SP p e below (T10.setTop (mkF m 52 #[vR p0, vR p1, vI (0 : Int32), vI (2 : Int32), .val .null, vR r_5] [(.ref p0)])) _
    refine XS.aload X10.here hx rfl (hb hby d3_52) rfl rfl ?_
    exact k
  obtain ⟨T12, h12, X12, e12, W12, st12⟩ := putF X10 hx hZ hown (host := "") (Or.inl (ow hw 25 rfl)) Via.refl e10 fld_p0_value_10 exa_p0_10 (Or.inr ⟨(ow hw 21 rfl), rfl, hnm⟩) (ow hw 6 rfl) (ty := (.array .byte)) (by decide) rfl rfl (g := (mkF m 54 #[vR p0, vR p1, vI (0 : Int32), vI (2 : Int32), .val .null, vR r_5] [(.ref r_5), (.ref p0)])) rfl rfl (hb hby d3_54)
  have Fw12 := fld_p0_value_10.same W12
  have st_COMP_12 := st_COMP_10.wr W12
  have st__ass_12 := st__ass_10.wr W12
  have st_HI_B_12 := st_HI_B_10.wr W12
  have st_LO_B_12 := st_LO_B_10.wr W12
  have exa_p0_12 := exa_p0_10.wr W12
  have fld_p0_coder_12 := Fw10.other W12 (Or.inr (slot_ne (Or.inr (ow hw 22 rfl)) (Or.inr (ow hw 21 rfl)) (by decide) (t := .byte) (t' := (.array .byte)) (by decide) (by decide)))
  have arr_p1_12 := arr_p1_10.other W12 ne_p0_p1.symm
  have arr_r_5_12 := arr_r_5_10.other W12 ne_p0_r_5.symm
  have K12 := K10.wr W12 (Or.inl (List.mem_of_getElem? (i := 0) rfl))
  have Z12 := Nat.le_trans Z10 (Nat.le_of_eq W12.size.symm)
  have N12 := Fr.snoc X12 N10 ge_p0
  obtain ⟨fs, hr, hrun, hended, hW, hsame⟩ := X12.leave (v := none) (fun _ => rfl) (BodyLoose.notSynchronized Bd)
  refine ⟨_, _, pre11 _ ?_, hrun, hended, _, _, rfl, ?_, ⟨_, rfl⟩, hW, hsame.mono (by decide) (by decide)⟩
  · show SP p e below (T10.setTop (mkF m 54 #[vR p0, vR p1, vI (0 : Int32), vI (2 : Int32), .val .null, vR r_5] [(.ref r_5), (.ref p0)])) _
    refine st12 _ ?_
    show SP p e below (T12.setTop (mkF m 57 #[vR p0, vR p1, vI (0 : Int32), vI (2 : Int32), .val .null, vR r_5] [])) _
    exact X12.returnOut hx Bd.returns (hb hby d3_57) hr
  · show Q_3B Z p0 p1 g_ cs_ h0 n0 _ T12.heap _
    rw [e12]
    have o1 := (by rfl : (f_11B_1 g_) = f_3B_1 g_ cs_)
    have r1 := arr_r_5_12
    rw [o1] at r1
    exact ⟨r_5, rfl, N12, sz_r_5, K12, exa_p0_12, Fw12, fld_p0_coder_12, r1⟩
theorem ef_2B (m : MethodId) (p0 : Addr) (p1 : Addr) : entryFrame m #[(.ref p0), (.ref p1)] 2 = mkF m 0 #[vR p0, vR p1] [] := by first | (simp [entryFrame, mkF, argsToLocals, Value.category]; done) | rfl
def f_2B_1 (g_ : Nat → Int32) (cs_ : Int32) : Nat → Int32 := (f_3B_1 g_ cs_)
def Q_2B (Z : State) (p0 : Addr) (p1 : Addr) (g_ : Nat → Int32) (cs_ : Int32) (h0 : Heap) (n0 : Nat) (v : Option Value) (h : Heap) (L : List Loc) : Prop := ∃ w : Addr, v = none ∧ Fr n0 L ∧ h0.size ≤ w ∧ Keep h0 h [p0] ∧ Exa Z h p0 "java/lang/String" ∧ Fld Z h p0 "java/lang/String" "value" "[B" (.ref w) ∧ Fld Z h p0 "java/lang/String" "coder" "B" (.int (1 : Int32)) ∧ own_A Z h w .byte 4 (fun i => .int ((f_2B_1 g_ cs_) i))
theorem rm_2B (l : Launch) (Z : State) (a0 : Array Value) (hw : ∀ d ∈ tables_1, d.before a0 Z = true) (ws : List Jvm.Cond) (p0 : Addr) (p1 : Addr) (g_ : Nat → Int32) (cs_ : Int32) (h0 : Heap) (n0 : Nat) (Z0 : n0 ≤ h0.size) (E_p0 : Exa Z h0 p0 "java/lang/String") (F_p0_value : Fld Z h0 p0 "java/lang/String" "value" "[B" .null) (F_p0_coder : Fld Z h0 p0 "java/lang/String" "coder" "B" (.int (0 : Int32))) (ge_p0 : n0 ≤ p0) (A_p1 : own_A Z h0 p1 .char 2 (fun i => .int (g_ i))) (ne_p0_p1 : p0 ≠ p1) (S_COMPACT_STRINGS : Sta Z h0 "java/lang/String" "COMPACT_STRINGS" "Z" (.int cs_)) (hcs : ¬ (cs_ = (0 : Int32))) (S__assertionsDisabled : Sta Z h0 "java/lang/StringUTF16" "$assertionsDisabled" "Z" (.int (1 : Int32))) (S_HI_BYTE_SHIFT : Sta Z h0 "java/lang/StringUTF16" "HI_BYTE_SHIFT" "I" (.int (0 : Int32))) (S_LO_BYTE_SHIFT : Sta Z h0 "java/lang/StringUTF16" "LO_BYTE_SHIFT" "I" (.int (8 : Int32))) (hc0_ : ¬ ((255 : Int32) < (g_ 0))) (hc1_ : (255 : Int32) < (g_ 1)) (hr_ : (g_ 1).toUInt32.toUInt16.toUInt32.toInt32 = g_ 1) :
    MetFree l (⟨"java/lang/String", "<init>", "([C)V"⟩ : MethodName) (head1 (Jvm.Cond.code (⟨"java/lang/String", "<init>", "([C)V"⟩ : MethodName) jdk_42_method_3_code 2 none :: ws) (⟨5, 2, 6, 74⟩ : Room)) (fun a U => a = #[(.ref p0), (.ref p1)] ∧ Z.Warmed39 U.vm ∧ U.heap = h0) (fun _ _ _ _ _ => True) (fun _ U o U' => ∃ v L, o = .returned v ∧ Q_2B Z p0 p1 g_ cs_ h0 n0 v U'.heap L ∧ FrameEnd U o U' L 2 6) := by
  refine MetFree.of_bodySF (plainFor_of_name pn_2) hisR ?_
  intro p e s m args below meth c s₁ Bd hml0 hP hK
  obtain ⟨rfl, hZ, hh⟩ := hP
  have hx := Bd.exec
  have hby := Bd.bytes
  have hml : c.maxLocals = 2 := hml0
  have hown : s.vm.findClass "java/lang/String" = some m.cls := findClass_of_methodNamed Bd.named
  have hnm := (name_of_methodNamed Bd.named Bd.method).1
  have X0 : Stand p l e (⟨5, 2, 6, 74⟩ : Room) s m #[(.ref p0), (.ref p1)] below meth c s₁ [] 0 0 := Stand.of_body Bd
  have e0 : s₁.heap = h0 := by rw [← hh, Bd.state]; rfl
  have N0 := Fr.nil n0
  have K0 : Keep h0 h0 [p0] := Keep.refl h0 _
  have pre0 : ∀ t, SP p e below (s₁.setTop (mkF m 0 #[vR p0, vR p1] [])) t → SP p e below (s₁.setTop (entryFrame m #[(.ref p0), (.ref p1)] 2)) t := fun t k => castTop (ef_2B m p0 p1) k
  have pre2 : ∀ t, SP p e below (s₁.setTop (mkF m 6 #[vR p0, vR p1] [.null, (.int (2 : Int32)), (.int (0 : Int32)), (.ref p1), (.ref p0)])) t → SP p e below (s₁.setTop (entryFrame m #[(.ref p0), (.ref p1)] 2)) t := by
    intro t k
    refine pre0 t ?_
    show SP p e below (s₁.setTop (mkF m 0 #[vR p0, vR p1] [])) _
    refine XS.aloadN X0.here hx rfl (hb hby d2_0) rfl rfl ?_
    show SP p e below (s₁.setTop (mkF m 1 #[vR p0, vR p1] [(.ref p0)])) _
    refine XS.aloadN X0.here hx rfl (hb hby d2_1) rfl rfl ?_
    show SP p e below (s₁.setTop (mkF m 2 #[vR p0, vR p1] [(.ref p1), (.ref p0)])) _
    refine XS.iconst X0.here hx rfl (hb hby d2_2) ?_
    show SP p e below (s₁.setTop (mkF m 3 #[vR p0, vR p1] [(.int (0 : Int32)), (.ref p1), (.ref p0)])) _
    refine XS.aloadN X0.here hx rfl (hb hby d2_3) rfl rfl ?_
    show SP p e below (s₁.setTop (mkF m 4 #[vR p0, vR p1] [(.ref p1), (.int (0 : Int32)), (.ref p1), (.ref p0)])) _
    refine own_len X0 hx hZ e0 A_p1 (z := (2 : Int32)) rfl (g := (mkF m 4 #[vR p0, vR p1] [(.ref p1), (.int (0 : Int32)), (.ref p1), (.ref p0)])) rfl rfl (hb hby d2_4) ?_
    show SP p e below (s₁.setTop (mkF m 5 #[vR p0, vR p1] [(.int (2 : Int32)), (.int (0 : Int32)), (.ref p1), (.ref p0)])) _
    refine XS.aconstNull X0.here hx rfl (hb hby d2_5) ?_
    exact k
  obtain ⟨_, _, ⟨T1, L1, k1, n1⟩, -, X1, ⟨Lc1, hQ1, l1, y1, z1⟩, st1⟩ := X0.specialBack hx (y := (⟨"java/lang/String", "<init>", "([CIILjava/lang/Void;)V"⟩ : MethodName)) rfl hown (mvT hZ (ow hw 12 rfl)) (mvT hZ (ow hw 13 rfl)) (mvT hZ (ow hw 15 rfl)) (by decide) (backOf (W := 0) (rm_3B l Z a0 hw [] p0 p1 g_ cs_ h0 n0 Z0 E_p0 F_p0_value F_p0_coder ge_p0 A_p1 ne_p0_p1 S_COMPACT_STRINGS hcs S__assertionsDisabled S_HI_BYTE_SHIFT S_LO_BYTE_SHIFT hc0_ hc1_ hr_) hZ (ow hw 15 rfl) (ow hw 7 rfl) (by decide) (by decide)) (g := (mkF m 6 #[vR p0, vR p1] [.null, (.int (2 : Int32)), (.int (0 : Int32)), (.ref p1), (.ref p0)])) rfl (by rw [hml]; rfl) (Steps.refl _) (a := p0) (argsL := [(.ref p1), (.int (0 : Int32)), (.int (2 : Int32)), .null]) (rest := []) (lenOf pd_12 rfl) rfl own_le0 (hb hby d2_6) (fun _ _ => ⟨rfl, e0, (by decide : 0 + 2 ≤ _), (by decide : 0 + 6 ≤ _)⟩)
  dsimp only [Pt.U, Pt.locs, Pt.cells, Pt.slots] at X1 l1 y1 z1 st1 hQ1
  rw [l1, y1, z1] at X1
  obtain ⟨w_1, rfl, N1q, sz0_w_1, Kc1, Q1_0, Q1_1, Q1_2, Q1_3⟩ := hQ1
  have Kd1 : Keep h0 T1.heap [p0] := Kc1
  have ne_p0_w_1 : p0 ≠ w_1 := Nat.ne_of_lt (Nat.lt_of_lt_of_le E_p0.lt sz0_w_1)
  have ne_p1_w_1 : p1 ≠ w_1 := Nat.ne_of_lt (Nat.lt_of_lt_of_le A_p1.lt sz0_w_1)
  have sz_w_1 : h0.size ≤ w_1 := Nat.le_trans K0.1 sz0_w_1
  have ge_w_1 : n0 ≤ w_1 := Nat.le_trans Z0 sz0_w_1
  have st_COMP_1 := own_sta_keep S_COMPACT_STRINGS Kd1 (allS (own_E_plain E_p0) all0)
  have st__ass_1 := own_sta_keep S__assertionsDisabled Kd1 (allS (own_E_plain E_p0) all0)
  have st_HI_B_1 := own_sta_keep S_HI_BYTE_SHIFT Kd1 (allS (own_E_plain E_p0) all0)
  have st_LO_B_1 := own_sta_keep S_LO_BYTE_SHIFT Kd1 (allS (own_E_plain E_p0) all0)
  have exa_p0_1 := E_p0.keep Kd1
  have arr_p1_1 := A_p1.keep Kd1 (ninS ne_p0_p1.symm nin0)
  have K1 := K0.trans Kd1 (allS (Or.inl (List.mem_of_getElem? (i := 0) rfl)) all0)
  have Z1 := Nat.le_trans Z0 Kd1.1
  have N1 := Fr.app N0 N1q
  obtain ⟨fs, hr, hrun, hended, hW, hsame⟩ := X1.leave (v := none) (fun _ => rfl) (BodyLoose.notSynchronized Bd)
  refine ⟨_, _, pre2 _ ?_, hrun, hended, _, _, rfl, ?_, ⟨_, rfl⟩, hW, hsame.mono (by decide) (by decide)⟩
  · show SP p e below (s₁.setTop (mkF m 6 #[vR p0, vR p1] [.null, (.int (2 : Int32)), (.int (0 : Int32)), (.ref p1), (.ref p0)])) _
    refine st1.trans ?_
    show SP p e below (T1.setTop (mkF m 9 #[vR p0, vR p1] [])) _
    exact X1.returnOut hx Bd.returns (hb hby d2_9) hr
  · show Q_2B Z p0 p1 g_ cs_ h0 n0 _ T1.heap _
    have o1 := (by rfl : (f_3B_1 g_ cs_) = f_2B_1 g_ cs_)
    have r1 := Q1_3
    rw [o1] at r1
    exact ⟨w_1, rfl, N1, sz_w_1, K1, Q1_0, Q1_1, Q1_2, r1⟩
theorem d3_8 : decode jdk_42_method_149_code 8 = .ok (.aload_n 0, 1) := by decide +kernel
theorem d3_9 : decode jdk_42_method_149_code 9 = .ok (.ldc 7, 2) := by decide +kernel
theorem d3_11 : decode jdk_42_method_149_code 11 = .ok (.getfield 9, 3) := by decide +kernel
theorem d3_14 : decode jdk_42_method_149_code 14 = .ok (.putfield 9, 3) := by decide +kernel
theorem d3_17 : decode jdk_42_method_149_code 17 = .ok (.aload_n 0, 1) := by decide +kernel
theorem d3_18 : decode jdk_42_method_149_code 18 = .ok (.ldc 7, 2) := by decide +kernel
theorem d3_20 : decode jdk_42_method_149_code 20 = .ok (.getfield 15, 3) := by decide +kernel
theorem d3_23 : decode jdk_42_method_149_code 23 = .ok (.putfield 15, 3) := by decide +kernel
theorem d3_26 : decode jdk_42_method_149_code 26 = .ok (.return_, 1) := by decide +kernel
theorem ef_3E (m : MethodId) (p0 : Addr) (p1 : Addr) : entryFrame m #[(.ref p0), (.ref p1), (.int (0 : Int32)), (.int (0 : Int32)), .null] 6 = mkF m 0 #[vR p0, vR p1, vI (0 : Int32), vI (0 : Int32), .val .null, .unset] [] := by first | (simp [entryFrame, mkF, argsToLocals, Value.category]; done) | rfl
def f_3E_1 (g_ : Nat → Int32) (cs_ : Int32) : Nat → Int32 := own_zI
def Q_3E (Z : State) (p0 : Addr) (p1 : Addr) (g_ : Nat → Int32) (cs_ : Int32) (h0 : Heap) (n0 : Nat) (v : Option Value) (h : Heap) (L : List Loc) : Prop := ∃ w : Addr, v = none ∧ Fr n0 L ∧ Keep h0 h [p0] ∧ Exa Z h p0 "java/lang/String" ∧ Fld Z h p0 "java/lang/String" "value" "[B" (.ref w) ∧ Fld Z h p0 "java/lang/String" "coder" "B" (.int (0 : Int32)) ∧ own_A Z h w .byte 0 (fun i => .int ((f_3E_1 g_ cs_) i))
theorem rm_3E (l : Launch) (Z : State) (a0 : Array Value) (hw : ∀ d ∈ tables_1, d.before a0 Z = true) (ws : List Jvm.Cond) (p0 : Addr) (p1 : Addr) (g_ : Nat → Int32) (cs_ : Int32) (h0 : Heap) (n0 : Nat) (Z0 : n0 ≤ h0.size) (E_p0 : Exa Z h0 p0 "java/lang/String") (F_p0_value : Fld Z h0 p0 "java/lang/String" "value" "[B" .null) (F_p0_coder : Fld Z h0 p0 "java/lang/String" "coder" "B" (.int (0 : Int32))) (ge_p0 : n0 ≤ p0) (A_p1 : own_A Z h0 p1 .char 0 (fun i => .int (g_ i))) (ne_p0_p1 : p0 ≠ p1) (S_COMPACT_STRINGS : Sta Z h0 "java/lang/String" "COMPACT_STRINGS" "Z" (.int cs_)) (hcs : ¬ (cs_ = (0 : Int32))) :
    MetFree l (⟨"java/lang/String", "<init>", "([CIILjava/lang/Void;)V"⟩ : MethodName) (head1 (Jvm.Cond.code (⟨"java/lang/String", "<init>", "([CIILjava/lang/Void;)V"⟩ : MethodName) jdk_42_method_149_code 6 none :: ws) (⟨1, 2, 4, 12⟩ : Room)) (fun a U => a = #[(.ref p0), (.ref p1), (.int (0 : Int32)), (.int (0 : Int32)), .null] ∧ Z.Warmed39 U.vm ∧ U.heap = h0 ∧ own_H own_cs Z U.vm h0) (fun _ _ _ _ _ => True) (fun _ U o U' => ∃ v L, o = .returned v ∧ Q_3E Z p0 p1 g_ cs_ h0 n0 v U'.heap L ∧ own_H own_cs Z U'.vm U'.heap ∧ ReturnedEndW U o U' L 2 4) := by
  refine MetFree.of_bodySF (plainFor_of_name pn_3) hisR ?_
  intro p e s m args below meth c s₁ Bd hml0 hP hK
  obtain ⟨rfl, hZ, hh, hH⟩ := hP
  have hx := Bd.exec
  have hby := Bd.bytes
  have hml : c.maxLocals = 6 := hml0
  have hown : s.vm.findClass "java/lang/String" = some m.cls := findClass_of_methodNamed Bd.named
  have hnm := (name_of_methodNamed Bd.named Bd.method).1
  have wl := own_wl hw
  have wS := own_wS hw
  have hS0 : s.Since s.vm h0.size := (State.WarmedH.refl s).since _
  have hZ : Z.Warmed39 (s.setVm s.vm).vm := hZ
  have hown : (s.setVm s.vm).vm.findClass "java/lang/String" = some m.cls := hown
  have hH : own_H own_cs Z (s.setVm s.vm).vm h0 := hH
  have X0 : Stand p l e (⟨1, 2, 4, 12⟩ : Room) (s.setVm s.vm) m #[(.ref p0), (.ref p1), (.int (0 : Int32)), (.int (0 : Int32)), .null] below meth c s₁ [] 0 0 := Stand.of_body Bd
  have e0 : s₁.heap = h0 := by rw [← hh, Bd.state]; rfl
  have N0 := Fr.nil n0
  have K0 : Keep h0 h0 [p0] := Keep.refl h0 _
  have pre0 : ∀ t, SP p e below (s₁.setTop (mkF m 0 #[vR p0, vR p1, vI (0 : Int32), vI (0 : Int32), .val .null, .unset] [])) t → SP p e below (s₁.setTop (entryFrame m #[(.ref p0), (.ref p1), (.int (0 : Int32)), (.int (0 : Int32)), .null] 6)) t := fun t k => castTop (ef_3E m p0 p1) k
  have pre1 : ∀ t, SP p e below (s₁.setTop (mkF m 1 #[vR p0, vR p1, vI (0 : Int32), vI (0 : Int32), .val .null, .unset] [(.ref p0)])) t → SP p e below (s₁.setTop (entryFrame m #[(.ref p0), (.ref p1), (.int (0 : Int32)), (.int (0 : Int32)), .null] 6)) t := by
    intro t k
    refine pre0 t ?_
    show SP p e below (s₁.setTop (mkF m 0 #[vR p0, vR p1, vI (0 : Int32), vI (0 : Int32), .val .null, .unset] [])) _
    refine XS.aloadN X0.here hx rfl (hb hby d3_0) rfl rfl ?_
    exact k
  obtain ⟨T2, X2, e2, st2⟩ := initO X0 hx hZ hown (ow hw 16 rfl) (ow hw 17 rfl) (ow hw 18 rfl) e0 (g := (mkF m 1 #[vR p0, vR p1, vI (0 : Int32), vI (0 : Int32), .val .null, .unset] [(.ref p0)])) rfl (by rw [hml]; rfl) rfl (hb hby d3_1) (by decide) (W := 0) own_le0 (by decide)
  have pre3 : ∀ t, SP p e below (T2.setTop (mkF m 9 #[vR p0, vR p1, vI (0 : Int32), vI (0 : Int32), .val .null, .unset] [(.ref p0)])) t → SP p e below (s₁.setTop (entryFrame m #[(.ref p0), (.ref p1), (.int (0 : Int32)), (.int (0 : Int32)), .null] 6)) t := by
    intro t k
    refine pre1 t ?_
    show SP p e below (s₁.setTop (mkF m 1 #[vR p0, vR p1, vI (0 : Int32), vI (0 : Int32), .val .null, .unset] [(.ref p0)])) _
    refine st2 _ ?_
    show SP p e below (T2.setTop (mkF m 4 #[vR p0, vR p1, vI (0 : Int32), vI (0 : Int32), .val .null, .unset] [])) _
    refine XS.iloadN X2.here hx rfl (hb hby d3_4) rfl  ?_
    show SP p e below (T2.setTop (mkF m 5 #[vR p0, vR p1, vI (0 : Int32), vI (0 : Int32), .val .null, .unset] [(.int (0 : Int32))])) _
    refine XS.ifNo X2.here hx rfl (hb hby d3_5) rfl ((if0 _ _).trans (teq (by decide : (0 : Int32) = (0 : Int32))).2) ?_
    show SP p e below (T2.setTop (mkF m 8 #[vR p0, vR p1, vI (0 : Int32), vI (0 : Int32), .val .null, .unset] [])) _
    refine XS.aloadN X2.here hx rfl (hb hby d3_8) rfl rfl ?_
    exact k
  obtain ⟨a4, b4, T4, h4, X4, e4, E4, hS4, -, -, Ea4, Fc4, Fv4, Ab4, hH4, L4, st4⟩ := own_ld X2 hx hZ hown (List.mem_of_getElem? (i := 0) rfl) wl own_cs_0 wS e2 hh (Keep.refl h0 []) hH (by decide) (g := (mkF m 9 #[vR p0, vR p1, vI (0 : Int32), vI (0 : Int32), .val .null, .unset] [(.ref p0)])) rfl (hb hby d3_9) (n := 0) (by decide) (by decide) (by decide) (by decide)
  have exa_p0_4 := E_p0.ext E4
  have fld_p0_value_4 := F_p0_value.ext E4
  have fld_p0_coder_4 := F_p0_coder.ext E4
  have arr_p1_4 := A_p1.ext E4
  have st_COMP_4 := S_COMPACT_STRINGS.ext E4
  have K4 := K0.ext E4
  have Z4 := Nat.le_trans Z0 E4.1
  obtain ⟨X4, hS4, hZ, hown⟩ := rebS (own := "java/lang/String") hS0 (Nat.le_trans (Keep.refl h0 []).1 (Nat.le_of_eq (congrArg Array.size (e2 : T2.heap = h0).symm))) X4 hS4 (Nat.le_trans (Nat.le_of_eq (congrArg Array.size (e2 : T2.heap = h0))) E4.1) hZ hown
  have Ab4 := Ab4 (fun i => .int (own_zI i)) rfl
  have ne_a4_p0 : a4 ≠ p0 := own_ne_fld Fv4 fld_p0_value_4 nofun
  have ne_b4_p0 : b4 ≠ p0 := own_ne_arr Ab4 exa_p0_4 (ow hw 6 rfl)
  have pre5 : ∀ t, SP p e below (T4.setTop (mkF m 11 #[vR p0, vR p1, vI (0 : Int32), vI (0 : Int32), .val .null, .unset] [(.ref a4), (.ref p0)])) t → SP p e below (s₁.setTop (entryFrame m #[(.ref p0), (.ref p1), (.int (0 : Int32)), (.int (0 : Int32)), .null] 6)) t := by
    intro t k
    refine pre3 t ?_
    show SP p e below (T2.setTop (mkF m 9 #[vR p0, vR p1, vI (0 : Int32), vI (0 : Int32), .val .null, .unset] [(.ref p0)])) _
    refine st4 _ ?_
    exact k
  obtain ⟨T6, X6, e6, st6⟩ := getF X4 hx hZ hown (host := "") (Or.inl (ow hw 25 rfl)) Via.refl e4 Fv4 (g := (mkF m 11 #[vR p0, vR p1, vI (0 : Int32), vI (0 : Int32), .val .null, .unset] [(.ref a4), (.ref p0)])) rfl rfl (hb hby d3_11)
  have pre7 : ∀ t, SP p e below (T6.setTop (mkF m 14 #[vR p0, vR p1, vI (0 : Int32), vI (0 : Int32), .val .null, .unset] [(.ref b4), (.ref p0)])) t → SP p e below (s₁.setTop (entryFrame m #[(.ref p0), (.ref p1), (.int (0 : Int32)), (.int (0 : Int32)), .null] 6)) t := by
    intro t k
    refine pre5 t ?_
    show SP p e below (T4.setTop (mkF m 11 #[vR p0, vR p1, vI (0 : Int32), vI (0 : Int32), .val .null, .unset] [(.ref a4), (.ref p0)])) _
    refine st6 _ ?_
    exact k
  obtain ⟨T8, h8, X8, e8, W8, st8⟩ := putF X6 hx hZ hown (host := "") (Or.inl (ow hw 25 rfl)) Via.refl e6 fld_p0_value_4 exa_p0_4 (Or.inr ⟨(ow hw 21 rfl), rfl, hnm⟩) (ow hw 6 rfl) (ty := (.array .byte)) (by decide) rfl rfl (g := (mkF m 14 #[vR p0, vR p1, vI (0 : Int32), vI (0 : Int32), .val .null, .unset] [(.ref b4), (.ref p0)])) rfl rfl (hb hby d3_14)
  have Fw8 := fld_p0_value_4.same W8
  have exa_p0_8 := exa_p0_4.wr W8
  have fld_p0_coder_8 := fld_p0_coder_4.other W8 (Or.inr (slot_ne (Or.inr (ow hw 22 rfl)) (Or.inr (ow hw 21 rfl)) (by decide) (t := .byte) (t' := (.array .byte)) (by decide) (by decide)))
  have arr_p1_8 := arr_p1_4.other W8 ne_p0_p1.symm
  have st_COMP_8 := st_COMP_4.wr W8
  have exa_a4_8 := Ea4.wr W8
  have fld_a4_value_8 := Fv4.other W8 (Or.inl ne_a4_p0)
  have fld_a4_coder_8 := Fc4.other W8 (Or.inl ne_a4_p0)
  have arr_b4_8 := Ab4.other W8 ne_b4_p0
  have K8 := K4.wr W8 (Or.inl (List.mem_of_getElem? (i := 0) rfl))
  have Z8 := Nat.le_trans Z4 (Nat.le_of_eq W8.size.symm)
  have N8 := Fr.snoc X8 N0 ge_p0
  have KI8 : Keep h4 h4 [p0] := own_keep_mono (Keep.refl h4 []) (fun _ q => List.mem_cons_of_mem _ q)
  have KH8 := KI8.wr W8 (Or.inl (List.mem_of_getElem? (i := 0) rfl))
  have pre9 : ∀ t, SP p e below (T8.setTop (mkF m 20 #[vR p0, vR p1, vI (0 : Int32), vI (0 : Int32), .val .null, .unset] [(.ref a4), (.ref p0)])) t → SP p e below (s₁.setTop (entryFrame m #[(.ref p0), (.ref p1), (.int (0 : Int32)), (.int (0 : Int32)), .null] 6)) t := by
    intro t k
    refine pre7 t ?_
    show SP p e below (T6.setTop (mkF m 14 #[vR p0, vR p1, vI (0 : Int32), vI (0 : Int32), .val .null, .unset] [(.ref b4), (.ref p0)])) _
    refine st8 _ ?_
    show SP p e below (T8.setTop (mkF m 17 #[vR p0, vR p1, vI (0 : Int32), vI (0 : Int32), .val .null, .unset] [])) _
    refine XS.aloadN X8.here hx rfl (hb hby d3_17) rfl rfl ?_
    show SP p e below (T8.setTop (mkF m 18 #[vR p0, vR p1, vI (0 : Int32), vI (0 : Int32), .val .null, .unset] [(.ref p0)])) _
    refine ldcAgain X8 hx hZ hown (ow hw 19 rfl) L4 (g := (mkF m 18 #[vR p0, vR p1, vI (0 : Int32), vI (0 : Int32), .val .null, .unset] [(.ref p0)])) rfl (hb hby d3_18) _ ?_
    exact k
  obtain ⟨T10, X10, e10, st10⟩ := getF X8 hx hZ hown (host := "") (Or.inl (ow hw 26 rfl)) Via.refl e8 fld_a4_coder_8 (g := (mkF m 20 #[vR p0, vR p1, vI (0 : Int32), vI (0 : Int32), .val .null, .unset] [(.ref a4), (.ref p0)])) rfl rfl (hb hby d3_20)
  have pre11 : ∀ t, SP p e below (T10.setTop (mkF m 23 #[vR p0, vR p1, vI (0 : Int32), vI (0 : Int32), .val .null, .unset] [(.int (0 : Int32)), (.ref p0)])) t → SP p e below (s₁.setTop (entryFrame m #[(.ref p0), (.ref p1), (.int (0 : Int32)), (.int (0 : Int32)), .null] 6)) t := by
    intro t k
    refine pre9 t ?_
    show SP p e below (T8.setTop (mkF m 20 #[vR p0, vR p1, vI (0 : Int32), vI (0 : Int32), .val .null, .unset] [(.ref a4), (.ref p0)])) _
    refine st10 _ ?_
    exact k
  obtain ⟨T12, h12, X12, e12, W12, st12⟩ := putFN X10 hx hZ hown (ow hw 26 rfl) Via.refl e10 fld_p0_coder_8 exa_p0_8 (Or.inr ⟨(ow hw 22 rfl), rfl, hnm⟩) (ow hw 6 rfl) (ty := .byte) (v' := .int (nar .byte (0 : Int32))) (by decide) rfl (fits_nar_byte _) (g := (mkF m 23 #[vR p0, vR p1, vI (0 : Int32), vI (0 : Int32), .val .null, .unset] [(.int (0 : Int32)), (.ref p0)])) rfl rfl (hb hby d3_23)
  have Fw12 := fld_p0_coder_8.same W12
  have exa_p0_12 := exa_p0_8.wr W12
  have fld_p0_value_12 := Fw8.other W12 (Or.inr (slot_ne (Or.inr (ow hw 21 rfl)) (Or.inr (ow hw 22 rfl)) (by decide) (t := (.array .byte)) (t' := .byte) (by decide) (by decide)))
  have arr_p1_12 := arr_p1_8.other W12 ne_p0_p1.symm
  have st_COMP_12 := st_COMP_8.wr W12
  have exa_a4_12 := exa_a4_8.wr W12
  have fld_a4_value_12 := fld_a4_value_8.other W12 (Or.inl ne_a4_p0)
  have fld_a4_coder_12 := fld_a4_coder_8.other W12 (Or.inl ne_a4_p0)
  have arr_b4_12 := arr_b4_8.other W12 ne_b4_p0
  have K12 := K8.wr W12 (Or.inl (List.mem_of_getElem? (i := 0) rfl))
  have Z12 := Nat.le_trans Z8 (Nat.le_of_eq W12.size.symm)
  have N12 := Fr.snoc X12 N8 ge_p0
  have KH12 := KH8.wr W12 (Or.inl (List.mem_of_getElem? (i := 0) rfl))
  obtain ⟨fs, hr, hrun, hended, hW1, hW2, hW3, hsame⟩ := X12.leaveW hS4 (Nat.le_trans KH12.1 (Nat.le_of_eq (congrArg Array.size (e12 : T12.heap = h12).symm))) (v := none) (fun _ => rfl) (BodyLoose.notSynchronized Bd)
  refine ⟨_, _, pre11 _ ?_, hrun, hended, _, _, rfl, ?_, ?_, hW1, hW2, hW3, hsame.mono (by decide) (by decide)⟩
  · show SP p e below (T10.setTop (mkF m 23 #[vR p0, vR p1, vI (0 : Int32), vI (0 : Int32), .val .null, .unset] [(.int (0 : Int32)), (.ref p0)])) _
    refine st12 _ ?_
    show SP p e below (T12.setTop (mkF m 26 #[vR p0, vR p1, vI (0 : Int32), vI (0 : Int32), .val .null, .unset] [])) _
    exact X12.returnOut hx Bd.returns (hb hby d3_26) hr
  · show Q_3E Z p0 p1 g_ cs_ h0 n0 _ T12.heap _
    rw [e12]
    have o1 := (by rfl : own_zI = f_3E_1 g_ cs_)
    have r1 := arr_b4_12
    rw [o1] at r1
    exact ⟨b4, rfl, N12, K12, exa_p0_12, fld_p0_value_12, Fw12, r1⟩
  · show own_H own_cs Z T12.vm T12.heap
    rw [e12]
    exact (hH4.go (B := (s.setVm T4.vm)) hZ wl X12.warmed KH12 (allS (own_apart_null hZ.alike exa_p0_4 fld_p0_value_4 (ow hw 6 rfl)) all0))
theorem ef_2E (m : MethodId) (p0 : Addr) (p1 : Addr) : entryFrame m #[(.ref p0), (.ref p1)] 2 = mkF m 0 #[vR p0, vR p1] [] := by first | (simp [entryFrame, mkF, argsToLocals, Value.category]; done) | rfl
def f_2E_1 (g_ : Nat → Int32) (cs_ : Int32) : Nat → Int32 := (f_3E_1 g_ cs_)
def Q_2E (Z : State) (p0 : Addr) (p1 : Addr) (g_ : Nat → Int32) (cs_ : Int32) (h0 : Heap) (n0 : Nat) (v : Option Value) (h : Heap) (L : List Loc) : Prop := ∃ w : Addr, v = none ∧ Fr n0 L ∧ Keep h0 h [p0] ∧ Exa Z h p0 "java/lang/String" ∧ Fld Z h p0 "java/lang/String" "value" "[B" (.ref w) ∧ Fld Z h p0 "java/lang/String" "coder" "B" (.int (0 : Int32)) ∧ own_A Z h w .byte 0 (fun i => .int ((f_2E_1 g_ cs_) i))
theorem rm_2E (l : Launch) (Z : State) (a0 : Array Value) (hw : ∀ d ∈ tables_1, d.before a0 Z = true) (ws : List Jvm.Cond) (p0 : Addr) (p1 : Addr) (g_ : Nat → Int32) (cs_ : Int32) (h0 : Heap) (n0 : Nat) (Z0 : n0 ≤ h0.size) (E_p0 : Exa Z h0 p0 "java/lang/String") (F_p0_value : Fld Z h0 p0 "java/lang/String" "value" "[B" .null) (F_p0_coder : Fld Z h0 p0 "java/lang/String" "coder" "B" (.int (0 : Int32))) (ge_p0 : n0 ≤ p0) (A_p1 : own_A Z h0 p1 .char 0 (fun i => .int (g_ i))) (ne_p0_p1 : p0 ≠ p1) (S_COMPACT_STRINGS : Sta Z h0 "java/lang/String" "COMPACT_STRINGS" "Z" (.int cs_)) (hcs : ¬ (cs_ = (0 : Int32))) :
    MetFree l (⟨"java/lang/String", "<init>", "([C)V"⟩ : MethodName) (head1 (Jvm.Cond.code (⟨"java/lang/String", "<init>", "([C)V"⟩ : MethodName) jdk_42_method_3_code 2 none :: ws) (⟨2, 2, 4, 29⟩ : Room)) (fun a U => a = #[(.ref p0), (.ref p1)] ∧ Z.Warmed39 U.vm ∧ U.heap = h0 ∧ own_H own_cs Z U.vm h0) (fun _ _ _ _ _ => True) (fun _ U o U' => ∃ v L, o = .returned v ∧ Q_2E Z p0 p1 g_ cs_ h0 n0 v U'.heap L ∧ own_H own_cs Z U'.vm U'.heap ∧ ReturnedEndW U o U' L 2 4) := by
  refine MetFree.of_bodySF (plainFor_of_name pn_2) hisR ?_
  intro p e s m args below meth c s₁ Bd hml0 hP hK
  obtain ⟨rfl, hZ, hh, hH⟩ := hP
  have hx := Bd.exec
  have hby := Bd.bytes
  have hml : c.maxLocals = 2 := hml0
  have hown : s.vm.findClass "java/lang/String" = some m.cls := findClass_of_methodNamed Bd.named
  have hnm := (name_of_methodNamed Bd.named Bd.method).1
  have wl := own_wl hw
  have wS := own_wS hw
  have hS0 : s.Since s.vm h0.size := (State.WarmedH.refl s).since _
  have hZ : Z.Warmed39 (s.setVm s.vm).vm := hZ
  have hown : (s.setVm s.vm).vm.findClass "java/lang/String" = some m.cls := hown
  have hH : own_H own_cs Z (s.setVm s.vm).vm h0 := hH
  have X0 : Stand p l e (⟨2, 2, 4, 29⟩ : Room) (s.setVm s.vm) m #[(.ref p0), (.ref p1)] below meth c s₁ [] 0 0 := Stand.of_body Bd
  have e0 : s₁.heap = h0 := by rw [← hh, Bd.state]; rfl
  have N0 := Fr.nil n0
  have K0 : Keep h0 h0 [p0] := Keep.refl h0 _
  have pre0 : ∀ t, SP p e below (s₁.setTop (mkF m 0 #[vR p0, vR p1] [])) t → SP p e below (s₁.setTop (entryFrame m #[(.ref p0), (.ref p1)] 2)) t := fun t k => castTop (ef_2E m p0 p1) k
  have pre2 : ∀ t, SP p e below (s₁.setTop (mkF m 6 #[vR p0, vR p1] [.null, (.int (0 : Int32)), (.int (0 : Int32)), (.ref p1), (.ref p0)])) t → SP p e below (s₁.setTop (entryFrame m #[(.ref p0), (.ref p1)] 2)) t := by
    intro t k
    refine pre0 t ?_
    show SP p e below (s₁.setTop (mkF m 0 #[vR p0, vR p1] [])) _
    refine XS.aloadN X0.here hx rfl (hb hby d2_0) rfl rfl ?_
    show SP p e below (s₁.setTop (mkF m 1 #[vR p0, vR p1] [(.ref p0)])) _
    refine XS.aloadN X0.here hx rfl (hb hby d2_1) rfl rfl ?_
    show SP p e below (s₁.setTop (mkF m 2 #[vR p0, vR p1] [(.ref p1), (.ref p0)])) _
    refine XS.iconst X0.here hx rfl (hb hby d2_2) ?_
    show SP p e below (s₁.setTop (mkF m 3 #[vR p0, vR p1] [(.int (0 : Int32)), (.ref p1), (.ref p0)])) _
    refine XS.aloadN X0.here hx rfl (hb hby d2_3) rfl rfl ?_
    show SP p e below (s₁.setTop (mkF m 4 #[vR p0, vR p1] [(.ref p1), (.int (0 : Int32)), (.ref p1), (.ref p0)])) _
    refine own_len X0 hx hZ e0 A_p1 (z := (0 : Int32)) rfl (g := (mkF m 4 #[vR p0, vR p1] [(.ref p1), (.int (0 : Int32)), (.ref p1), (.ref p0)])) rfl rfl (hb hby d2_4) ?_
    show SP p e below (s₁.setTop (mkF m 5 #[vR p0, vR p1] [(.int (0 : Int32)), (.int (0 : Int32)), (.ref p1), (.ref p0)])) _
    refine XS.aconstNull X0.here hx rfl (hb hby d2_5) ?_
    exact k
  obtain ⟨_, _, ⟨T1, L1, k1, n1⟩, -, X1, hS1, gr1, ⟨Lc1, hQ1, hH1, l1, y1, z1⟩, st1⟩ := X0.specialBackS hx (y := (⟨"java/lang/String", "<init>", "([CIILjava/lang/Void;)V"⟩ : MethodName)) rfl hown (mvT hZ (ow hw 12 rfl)) (mvT hZ (ow hw 13 rfl)) (mvT hZ (ow hw 15 rfl)) (by decide) (own_backOfS (W := 0) (rm_3E l Z a0 hw [] p0 p1 g_ cs_ h0 n0 Z0 E_p0 F_p0_value F_p0_coder ge_p0 A_p1 ne_p0_p1 S_COMPACT_STRINGS hcs) hZ (ow hw 15 rfl) (ow hw 7 rfl) (by decide) (by decide)) (g := (mkF m 6 #[vR p0, vR p1] [.null, (.int (0 : Int32)), (.int (0 : Int32)), (.ref p1), (.ref p0)])) rfl (by rw [hml]; rfl) (Steps.refl _) (a := p0) (argsL := [(.ref p1), (.int (0 : Int32)), (.int (0 : Int32)), .null]) (rest := []) (lenOf pd_12 rfl) rfl own_le0 (hb hby d2_6) (fun _ hwv => ⟨rfl, e0, (hH.go (B := (s.setVm s.vm)) hZ wl hwv (Keep.refl h0 []) all0), (by decide : 0 + 2 ≤ _), (by decide : 0 + 4 ≤ _)⟩)
  dsimp only [Pt.U, Pt.locs, Pt.cells, Pt.slots] at X1 l1 y1 z1 st1 hQ1 hS1 gr1 hH1
  rw [l1, y1, z1] at X1
  obtain ⟨X1, hS1, hZ, hown⟩ := rebS (own := "java/lang/String") hS0 (Nat.le_trans (Keep.refl h0 []).1 (Nat.le_of_eq (congrArg Array.size (e0 : s₁.heap = h0).symm))) X1 hS1 gr1 hZ hown
  obtain ⟨w_1, rfl, N1q, Kc1, Q1_0, Q1_1, Q1_2, Q1_3⟩ := hQ1
  have Kd1 : Keep h0 T1.heap [p0] := Kc1
  have st_COMP_1 := own_sta_keep S_COMPACT_STRINGS Kd1 (allS (own_E_plain E_p0) all0)
  have exa_p0_1 := E_p0.keep Kd1
  have arr_p1_1 := A_p1.keep Kd1 (ninS ne_p0_p1.symm nin0)
  have K1 := K0.trans Kd1 (allS (Or.inl (List.mem_of_getElem? (i := 0) rfl)) all0)
  have Z1 := Nat.le_trans Z0 Kd1.1
  have N1 := Fr.app N0 N1q
  obtain ⟨fs, hr, hrun, hended, hW1, hW2, hW3, hsame⟩ := X1.leaveW hS1 (Nat.le_trans (Keep.refl T1.heap []).1 (Nat.le_of_eq (congrArg Array.size (rfl : T1.heap = T1.heap).symm))) (v := none) (fun _ => rfl) (BodyLoose.notSynchronized Bd)
  refine ⟨_, _, pre2 _ ?_, hrun, hended, _, _, rfl, ?_, ?_, hW1, hW2, hW3, hsame.mono (by decide) (by decide)⟩
  · show SP p e below (s₁.setTop (mkF m 6 #[vR p0, vR p1] [.null, (.int (0 : Int32)), (.int (0 : Int32)), (.ref p1), (.ref p0)])) _
    refine st1.trans ?_
    show SP p e below (T1.setTop (mkF m 9 #[vR p0, vR p1] [])) _
    exact X1.returnOut hx Bd.returns (hb hby d2_9) hr
  · show Q_2E Z p0 p1 g_ cs_ h0 n0 _ T1.heap _
    have o1 := (by rfl : (f_3E_1 g_ cs_) = f_2E_1 g_ cs_)
    have r1 := Q1_3
    rw [o1] at r1
    exact ⟨w_1, rfl, N1, K1, Q1_0, Q1_1, Q1_2, r1⟩
  · show own_H own_cs Z T1.vm T1.heap
    exact (hH1.go (B := (s.setVm T1.vm)) hZ wl X1.warmed (Keep.refl T1.heap []) all0)
theorem d8_0 : decode jdk_43_method_3_code 0 = .ok (.iload_n 0, 1) := by decide +kernel
theorem d8_1 : decode jdk_43_method_3_code 1 = .ok (.sipush 255, 3) := by decide +kernel
theorem d8_4 : decode jdk_43_method_3_code 4 = .ok (.if_icmp .gt 7, 3) := by decide +kernel
theorem d8_7 : decode jdk_43_method_3_code 7 = .ok (.iconst 1, 1) := by decide +kernel
theorem d8_8 : decode jdk_43_method_3_code 8 = .ok (.goto 4, 3) := by decide +kernel
theorem d8_11 : decode jdk_43_method_3_code 11 = .ok (.iconst 0, 1) := by decide +kernel
theorem d8_12 : decode jdk_43_method_3_code 12 = .ok (.ireturn, 1) := by decide +kernel
theorem pn_8 : plainName "java/lang/StringLatin1" = true := by first | (simp [plainName, overriddenIn]; done) | decide +kernel
theorem ef_8 (m : MethodId) (p0 : Int32) : entryFrame m #[(.int p0)] 1 = mkF m 0 #[vI p0] [] := by first | (simp [entryFrame, mkF, argsToLocals, Value.category]; done) | rfl
def f_8 (p0 : Int32) : Int32 := let ms0_12 : Int32 := (if (255 : Int32) < p0 then (0 : Int32) else (1 : Int32)); ms0_12
def Q_8 (Z : State) (p0 : Int32)  (h0 : Heap) (n0 : Nat) (v : Option Value) (h : Heap) (L : List Loc) : Prop := v = some (.int (f_8 p0)) ∧ Fr n0 L ∧ h = h0
theorem rm_8 (l : Launch) (Z : State) (a0 : Array Value) (hw : ∀ d ∈ tables_1, d.before a0 Z = true) (ws : List Jvm.Cond) (p0 : Int32)  (h0 : Heap) (n0 : Nat) (Z0 : n0 ≤ h0.size)  :
    MetFree l (⟨"java/lang/StringLatin1", "canEncode", "(C)Z"⟩ : MethodName) (head1 (Jvm.Cond.code (⟨"java/lang/StringLatin1", "canEncode", "(C)Z"⟩ : MethodName) jdk_43_method_3_code 1 (some .boolean) :: ws) (⟨0, 0, 0, 0⟩ : Room)) (fun a U => a = #[(.int p0)] ∧ Z.Warmed39 U.vm ∧ U.heap = h0) (fun _ _ _ _ _ => True) (fun _ U o U' => ∃ v L, o = .returned v ∧ Q_8 Z p0 h0 n0 v U'.heap L ∧ FrameEnd U o U' L 0 0) := by
  refine MetFree.of_bodySF (plainFor_of_name pn_8) hisR ?_
  intro p e s m args below meth c s₁ Bd hml0 hP hK
  obtain ⟨rfl, hZ, hh⟩ := hP
  have hx := Bd.exec
  have hby := Bd.bytes
  have hml : c.maxLocals = 1 := hml0
  have hown : s.vm.findClass "java/lang/StringLatin1" = some m.cls := findClass_of_methodNamed Bd.named
  have hnm := (name_of_methodNamed Bd.named Bd.method).1
  have X0 : Stand p l e (⟨0, 0, 0, 0⟩ : Room) s m #[(.int p0)] below meth c s₁ [] 0 0 := Stand.of_body Bd
  have e0 : s₁.heap = h0 := by rw [← hh, Bd.state]; rfl
  have N0 := Fr.nil n0
  have K0 : Keep h0 h0 [] := Keep.refl h0 _
  have pre0 : ∀ t, SP p e below (s₁.setTop (mkF m 0 #[vI p0] [])) t → SP p e below (s₁.setTop (entryFrame m #[(.int p0)] 1)) t := fun t k => castTop (ef_8 m p0) k
  have pre1 : ∀ t, SP p e below (s₁.setTop (mkF m 4 #[vI p0] [(.int (255 : Int32)), (.int p0)])) t → SP p e below (s₁.setTop (entryFrame m #[(.int p0)] 1)) t := by
    intro t k
    refine pre0 t ?_
    show SP p e below (s₁.setTop (mkF m 0 #[vI p0] [])) _
    refine XS.iloadN X0.here hx rfl (hb hby d8_0) rfl  ?_
    show SP p e below (s₁.setTop (mkF m 1 #[vI p0] [(.int p0)])) _
    refine XS.sipush X0.here hx rfl (hb hby d8_1) ?_
    exact k
  obtain ⟨ms0_12, hms0_12⟩ : ∃ z : Int32, z = (if (255 : Int32) < p0 then (0 : Int32) else (1 : Int32)) := ⟨_, rfl⟩
  have pre2 : ∀ t, SP p e below (s₁.setTop (mkF m 12 #[vI p0] [(.int ms0_12)])) t → SP p e below (s₁.setTop (entryFrame m #[(.int p0)] 1)) t := by
    intro t k
    refine pre1 t ?_
    by_cases hc4 : (255 : Int32) < p0
    · show SP p e below (s₁.setTop (mkF m 4 #[vI p0] [(.int (255 : Int32)), (.int p0)])) _
      refine XS.icmpYes X0.here hx rfl (pc0 := 4) (pc' := 11) rfl (hb hby d8_4) rfl (tlt hc4).2.2.1 (by decide) (by decide) ?_
      show SP p e below (s₁.setTop (mkF m 11 #[vI p0] [])) _
      refine XS.iconst X0.here hx rfl (hb hby d8_11) ?_
      have qms0_12 : ms0_12 = (0 : Int32) := by rw [hms0_12, if_pos hc4]
      rw [qms0_12] at k
      exact k
    · show SP p e below (s₁.setTop (mkF m 4 #[vI p0] [(.int (255 : Int32)), (.int p0)])) _
      refine XS.icmpNo X0.here hx rfl (hb hby d8_4) rfl (flt hc4).2.2.1 ?_
      show SP p e below (s₁.setTop (mkF m 7 #[vI p0] [])) _
      refine XS.iconst X0.here hx rfl (hb hby d8_7) ?_
      show SP p e below (s₁.setTop (mkF m 8 #[vI p0] [(.int (1 : Int32))])) _
      refine XS.goto X0.here hx rfl (pc0 := 8) (pc' := 12) rfl (hb hby d8_8) (by decide) (by decide) ?_
      have qms0_12 : ms0_12 = (1 : Int32) := by rw [hms0_12, if_neg hc4]
      rw [qms0_12] at k
      exact k
  have hnar : nar .boolean ms0_12 = ms0_12 := by rw [hms0_12]; (repeat' split) <;> rfl
  obtain ⟨fs, hr, hrun, hended, hW, hsame⟩ := X0.leave (v := some (.int ms0_12)) (fun h => by rw [Bd.returns] at h; cases h) (BodyLoose.notSynchronized Bd)
  refine ⟨_, _, pre2 _ ?_, hrun, hended, _, _, rfl, ?_, ⟨_, rfl⟩, hW, hsame.mono (by decide) (by decide)⟩
  · show SP p e below (s₁.setTop (mkF m 12 #[vI p0] [(.int ms0_12)])) _
    exact retN X0 hx (t := .boolean) Bd.returns (by simp) (hb hby d8_12) (by rw [hnar]; exact hr)
  · show Q_8 Z p0 h0 n0 _ s₁.heap _
    rw [e0]
    exact ⟨congrArg (fun z => some (Value.int z)) (by subst hms0_12; rfl : ms0_12 = f_8 p0), N0, rfl⟩
theorem own_ce0 {c : Int32} (h : ¬ ((255 : Int32) < c)) : ¬ (f_8 c = (0 : Int32)) := by simp [f_8, h]
theorem own_ce1 {c : Int32} (h : (255 : Int32) < c) : f_8 c = (0 : Int32) := by simp [f_8, h]
theorem d9_0 : decode jdk_43_method_46_code 0 = .ok (.iconst 1, 1) := by decide +kernel
theorem d9_1 : decode jdk_43_method_46_code 1 = .ok (.newarray .byte, 2) := by decide +kernel
theorem d9_3 : decode jdk_43_method_46_code 3 = .ok (.dup, 1) := by decide +kernel
theorem d9_4 : decode jdk_43_method_46_code 4 = .ok (.iconst 0, 1) := by decide +kernel
theorem d9_5 : decode jdk_43_method_46_code 5 = .ok (.iload_n 0, 1) := by decide +kernel
theorem d9_6 : decode jdk_43_method_46_code 6 = .ok (.i2b, 1) := by decide +kernel
theorem d9_7 : decode jdk_43_method_46_code 7 = .ok (.bastore, 1) := by decide +kernel
theorem d9_8 : decode jdk_43_method_46_code 8 = .ok (.areturn, 1) := by decide +kernel
theorem pn_9 : plainName "java/lang/StringLatin1" = true := by first | (simp [plainName, overriddenIn]; done) | decide +kernel
theorem ef_9 (m : MethodId) (p0 : Int32) : entryFrame m #[(.int p0)] 1 = mkF m 0 #[vI p0] [] := by first | (simp [entryFrame, mkF, argsToLocals, Value.category]; done) | rfl
def f_9_1 (p0 : Int32) : Nat → Int32 := let g_7 : Nat → Int32 := (own_upd own_zI 0 (p0.toInt8.toInt32).toInt8.toInt32); g_7
def Q_9 (Z : State) (p0 : Int32)  (h0 : Heap) (n0 : Nat) (v : Option Value) (h : Heap) (L : List Loc) : Prop := ∃ r : Addr, v = some (.ref r) ∧ Fr n0 L ∧ h0.size ≤ r ∧ Keep h0 h [] ∧ own_A Z h r .byte 1 (fun i => .int ((f_9_1 p0) i))
theorem rm_9 (l : Launch) (Z : State) (a0 : Array Value) (hw : ∀ d ∈ tables_1, d.before a0 Z = true) (ws : List Jvm.Cond) (p0 : Int32)  (h0 : Heap) (n0 : Nat) (Z0 : n0 ≤ h0.size)  :
    MetFree l (⟨"java/lang/StringLatin1", "toBytes", "(C)[B"⟩ : MethodName) (head1 (Jvm.Cond.code (⟨"java/lang/StringLatin1", "toBytes", "(C)[B"⟩ : MethodName) jdk_43_method_46_code 1 (some (.array .byte)) :: ws) (⟨0, 1, 1, 0⟩ : Room)) (fun a U => a = #[(.int p0)] ∧ Z.Warmed39 U.vm ∧ U.heap = h0) (fun _ _ _ _ _ => True) (fun _ U o U' => ∃ v L, o = .returned v ∧ Q_9 Z p0 h0 n0 v U'.heap L ∧ FrameEnd U o U' L 1 1) := by
  refine MetFree.of_bodySF (plainFor_of_name pn_9) hisR ?_
  intro p e s m args below meth c s₁ Bd hml0 hP hK
  obtain ⟨rfl, hZ, hh⟩ := hP
  have hx := Bd.exec
  have hby := Bd.bytes
  have hml : c.maxLocals = 1 := hml0
  have hown : s.vm.findClass "java/lang/StringLatin1" = some m.cls := findClass_of_methodNamed Bd.named
  have hnm := (name_of_methodNamed Bd.named Bd.method).1
  have X0 : Stand p l e (⟨0, 1, 1, 0⟩ : Room) s m #[(.int p0)] below meth c s₁ [] 0 0 := Stand.of_body Bd
  have e0 : s₁.heap = h0 := by rw [← hh, Bd.state]; rfl
  have N0 := Fr.nil n0
  have K0 : Keep h0 h0 [] := Keep.refl h0 _
  have pre0 : ∀ t, SP p e below (s₁.setTop (mkF m 0 #[vI p0] [])) t → SP p e below (s₁.setTop (entryFrame m #[(.int p0)] 1)) t := fun t k => castTop (ef_9 m p0) k
  have pre1 : ∀ t, SP p e below (s₁.setTop (mkF m 1 #[vI p0] [(.int (1 : Int32))])) t → SP p e below (s₁.setTop (entryFrame m #[(.int p0)] 1)) t := by
    intro t k
    refine pre0 t ?_
    show SP p e below (s₁.setTop (mkF m 0 #[vI p0] [])) _
    refine XS.iconst X0.here hx rfl (hb hby d9_0) ?_
    exact k
  obtain ⟨T2, h2, b2, gb2, X2, e2, E2, A2, st2⟩ := own_newP X0 hx hZ (ow hw 20 rfl) e0 (g := (mkF m 1 #[vI p0] [(.int (1 : Int32))])) rfl (hb hby d9_1) rfl (by decide) (n := 1) rfl (G := fun i => .int (own_zI i)) (fun _ => rfl) (cap := 1) (by decide) (by decide) (by decide) (by decide)
  have sz_b2 : h0.size ≤ b2 := Nat.le_trans K0.1 (Nat.le_of_eq gb2.symm)
  have ge_b2 : n0 ≤ b2 := Nat.le_trans Z0 (Nat.le_of_eq gb2.symm)
  have K2 := K0.ext E2
  have Z2 := Nat.le_trans Z0 E2.1
  have pre3 : ∀ t, SP p e below (T2.setTop (mkF m 7 #[vI p0] [(.int (p0.toInt8.toInt32)), (.int (0 : Int32)), (.ref b2), (.ref b2)])) t → SP p e below (s₁.setTop (entryFrame m #[(.int p0)] 1)) t := by
    intro t k
    refine pre1 t ?_
    show SP p e below (s₁.setTop (mkF m 1 #[vI p0] [(.int (1 : Int32))])) _
    refine st2 _ ?_
    show SP p e below (T2.setTop (mkF m 3 #[vI p0] [(.ref b2)])) _
    refine XS.dup X2.here hx rfl (hb hby d9_3) rfl rfl ?_
    show SP p e below (T2.setTop (mkF m 4 #[vI p0] [(.ref b2), (.ref b2)])) _
    refine XS.iconst X2.here hx rfl (hb hby d9_4) ?_
    show SP p e below (T2.setTop (mkF m 5 #[vI p0] [(.int (0 : Int32)), (.ref b2), (.ref b2)])) _
    refine XS.iloadN X2.here hx rfl (hb hby d9_5) rfl  ?_
    show SP p e below (T2.setTop (mkF m 6 #[vI p0] [(.int p0), (.int (0 : Int32)), (.ref b2), (.ref b2)])) _
    refine XS.i2b X2.here hx rfl (hb hby d9_6) rfl ?_
    exact k
  obtain ⟨T4, h4, X4, e4, W4, A4, st4⟩ := own_stB X2 hx hZ e2 A2 (j := (0 : Int32)) (x := (p0.toInt8.toInt32)) (k := 0) (by decide) (by decide) (by decide) (g := (mkF m 7 #[vI p0] [(.int (p0.toInt8.toInt32)), (.int (0 : Int32)), (.ref b2), (.ref b2)])) rfl rfl (hb hby d9_7)
  obtain ⟨g_7, hg_7⟩ : ∃ z : Nat → Int32, z = (own_upd own_zI 0 (p0.toInt8.toInt32).toInt8.toInt32) := ⟨_, rfl⟩
  rw [← hg_7] at A4
  have K4 := K2.wr W4 (Or.inr sz_b2)
  have Z4 := Nat.le_trans Z2 (Nat.le_of_eq W4.size.symm)
  have N4 := Fr.snoc X4 N0 ge_b2
  obtain ⟨fs, hr, hrun, hended, hW, hsame⟩ := X4.leave (v := some (.ref b2)) (fun h => by rw [Bd.returns] at h; cases h) (BodyLoose.notSynchronized Bd)
  refine ⟨_, _, pre3 _ ?_, hrun, hended, _, _, rfl, ?_, ⟨_, rfl⟩, hW, hsame.mono (by decide) (by decide)⟩
  · show SP p e below (T2.setTop (mkF m 7 #[vI p0] [(.int (p0.toInt8.toInt32)), (.int (0 : Int32)), (.ref b2), (.ref b2)])) _
    refine st4 _ ?_
    show SP p e below (T4.setTop (mkF m 8 #[vI p0] [(.ref b2)])) _
    exact retOut X4 hx Bd.returns rfl (Or.inr (Or.inr (Or.inr (Or.inr ⟨rfl, rfl, rfl⟩)))) (hb hby d9_8) hr
  · show Q_9 Z p0 h0 n0 _ T4.heap _
    rw [e4]
    have o1 := (by subst hg_7; rfl : g_7 = f_9_1 p0)
    have r1 := A4
    rw [o1] at r1
    exact ⟨b2, rfl, N4, sz_b2, K4, r1⟩
theorem d10_0 : decode jdk_42_method_151_code 0 = .ok (.aload_n 0, 1) := by decide +kernel
theorem d10_1 : decode jdk_42_method_151_code 1 = .ok (.invokespecial 1, 3) := by decide +kernel
theorem d10_4 : decode jdk_42_method_151_code 4 = .ok (.aload_n 0, 1) := by decide +kernel
theorem d10_5 : decode jdk_42_method_151_code 5 = .ok (.aload_n 1, 1) := by decide +kernel
theorem d10_6 : decode jdk_42_method_151_code 6 = .ok (.putfield 9, 3) := by decide +kernel
theorem d10_9 : decode jdk_42_method_151_code 9 = .ok (.aload_n 0, 1) := by decide +kernel
theorem d10_10 : decode jdk_42_method_151_code 10 = .ok (.iload_n 2, 1) := by decide +kernel
theorem d10_11 : decode jdk_42_method_151_code 11 = .ok (.putfield 15, 3) := by decide +kernel
theorem d10_14 : decode jdk_42_method_151_code 14 = .ok (.return_, 1) := by decide +kernel
theorem pn_10 : plainName "java/lang/String" = true := by first | (simp [plainName, overriddenIn]; done) | decide +kernel
theorem ef_10L (m : MethodId) (p0 : Addr) (p1 : Addr) : entryFrame m #[(.ref p0), (.ref p1), (.int (0 : Int32))] 3 = mkF m 0 #[vR p0, vR p1, vI (0 : Int32)] [] := by first | (simp [entryFrame, mkF, argsToLocals, Value.category]; done) | rfl
def Q_10L (Z : State) (p0 : Addr) (p1 : Addr)  (h0 : Heap) (n0 : Nat) (v : Option Value) (h : Heap) (L : List Loc) : Prop := v = none ∧ Fr n0 L ∧ Keep h0 h [p0] ∧ Exa Z h p0 "java/lang/String" ∧ Fld Z h p0 "java/lang/String" "value" "[B" (.ref p1) ∧ Fld Z h p0 "java/lang/String" "coder" "B" (.int (0 : Int32))
theorem rm_10L (l : Launch) (Z : State) (a0 : Array Value) (hw : ∀ d ∈ tables_1, d.before a0 Z = true) (ws : List Jvm.Cond) (p0 : Addr) (p1 : Addr)  (h0 : Heap) (n0 : Nat) (Z0 : n0 ≤ h0.size) (E_p0 : Exa Z h0 p0 "java/lang/String") (F_p0_value : Fld Z h0 p0 "java/lang/String" "value" "[B" .null) (F_p0_coder : Fld Z h0 p0 "java/lang/String" "coder" "B" (.int (0 : Int32))) (ge_p0 : n0 ≤ p0) :
    MetFree l (⟨"java/lang/String", "<init>", "([BB)V"⟩ : MethodName) (head1 (Jvm.Cond.code (⟨"java/lang/String", "<init>", "([BB)V"⟩ : MethodName) jdk_42_method_151_code 3 none :: ws) (⟨1, 0, 0, 12⟩ : Room)) (fun a U => a = #[(.ref p0), (.ref p1), (.int (0 : Int32))] ∧ Z.Warmed39 U.vm ∧ U.heap = h0) (fun _ _ _ _ _ => True) (fun _ U o U' => ∃ v L, o = .returned v ∧ Q_10L Z p0 p1 h0 n0 v U'.heap L ∧ FrameEnd U o U' L 0 0) := by
  refine MetFree.of_bodySF (plainFor_of_name pn_10) hisR ?_
  intro p e s m args below meth c s₁ Bd hml0 hP hK
  obtain ⟨rfl, hZ, hh⟩ := hP
  have hx := Bd.exec
  have hby := Bd.bytes
  have hml : c.maxLocals = 3 := hml0
  have hown : s.vm.findClass "java/lang/String" = some m.cls := findClass_of_methodNamed Bd.named
  have hnm := (name_of_methodNamed Bd.named Bd.method).1
  have X0 : Stand p l e (⟨1, 0, 0, 12⟩ : Room) s m #[(.ref p0), (.ref p1), (.int (0 : Int32))] below meth c s₁ [] 0 0 := Stand.of_body Bd
  have e0 : s₁.heap = h0 := by rw [← hh, Bd.state]; rfl
  have N0 := Fr.nil n0
  have K0 : Keep h0 h0 [p0] := Keep.refl h0 _
  have pre0 : ∀ t, SP p e below (s₁.setTop (mkF m 0 #[vR p0, vR p1, vI (0 : Int32)] [])) t → SP p e below (s₁.setTop (entryFrame m #[(.ref p0), (.ref p1), (.int (0 : Int32))] 3)) t := fun t k => castTop (ef_10L m p0 p1) k
  have pre1 : ∀ t, SP p e below (s₁.setTop (mkF m 1 #[vR p0, vR p1, vI (0 : Int32)] [(.ref p0)])) t → SP p e below (s₁.setTop (entryFrame m #[(.ref p0), (.ref p1), (.int (0 : Int32))] 3)) t := by
    intro t k
    refine pre0 t ?_
    show SP p e below (s₁.setTop (mkF m 0 #[vR p0, vR p1, vI (0 : Int32)] [])) _
    refine XS.aloadN X0.here hx rfl (hb hby d10_0) rfl rfl ?_
    exact k
  obtain ⟨T2, X2, e2, st2⟩ := initO X0 hx hZ hown (ow hw 16 rfl) (ow hw 17 rfl) (ow hw 18 rfl) e0 (g := (mkF m 1 #[vR p0, vR p1, vI (0 : Int32)] [(.ref p0)])) rfl (by rw [hml]; rfl) rfl (hb hby d10_1) (by decide) (W := 0) own_le0 (by decide)
  have pre3 : ∀ t, SP p e below (T2.setTop (mkF m 6 #[vR p0, vR p1, vI (0 : Int32)] [(.ref p1), (.ref p0)])) t → SP p e below (s₁.setTop (entryFrame m #[(.ref p0), (.ref p1), (.int (0 : Int32))] 3)) t := by
    intro t k
    refine pre1 t ?_
    show SP p e below (s₁.setTop (mkF m 1 #[vR p0, vR p1, vI (0 : Int32)] [(.ref p0)])) _
    refine st2 _ ?_
    show SP p e below (T2.setTop (mkF m 4 #[vR p0, vR p1, vI (0 : Int32)] [])) _
    refine XS.aloadN X2.here hx rfl (hb hby d10_4) rfl rfl ?_
    show SP p e below (T2.setTop (mkF m 5 #[vR p0, vR p1, vI (0 : Int32)] [(.ref p0)])) _
    refine XS.aloadN X2.here hx rfl (hb hby d10_5) rfl rfl ?_
    exact k
  obtain ⟨T4, h4, X4, e4, W4, st4⟩ := putF X2 hx hZ hown (host := "") (Or.inl (ow hw 25 rfl)) Via.refl e2 F_p0_value E_p0 (Or.inr ⟨(ow hw 21 rfl), rfl, hnm⟩) (ow hw 6 rfl) (ty := (.array .byte)) (by decide) rfl rfl (g := (mkF m 6 #[vR p0, vR p1, vI (0 : Int32)] [(.ref p1), (.ref p0)])) rfl rfl (hb hby d10_6)
  have Fw4 := F_p0_value.same W4
  have exa_p0_4 := E_p0.wr W4
  have fld_p0_coder_4 := F_p0_coder.other W4 (Or.inr (slot_ne (Or.inr (ow hw 22 rfl)) (Or.inr (ow hw 21 rfl)) (by decide) (t := .byte) (t' := (.array .byte)) (by decide) (by decide)))
  have K4 := K0.wr W4 (Or.inl (List.mem_of_getElem? (i := 0) rfl))
  have Z4 := Nat.le_trans Z0 (Nat.le_of_eq W4.size.symm)
  have N4 := Fr.snoc X4 N0 ge_p0
  have pre5 : ∀ t, SP p e below (T4.setTop (mkF m 11 #[vR p0, vR p1, vI (0 : Int32)] [(.int (0 : Int32)), (.ref p0)])) t → SP p e below (s₁.setTop (entryFrame m #[(.ref p0), (.ref p1), (.int (0 : Int32))] 3)) t := by
    intro t k
    refine pre3 t ?_
    show SP p e below (T2.setTop (mkF m 6 #[vR p0, vR p1, vI (0 : Int32)] [(.ref p1), (.ref p0)])) _
    refine st4 _ ?_
    show SP p e below (T4.setTop (mkF m 9 #[vR p0, vR p1, vI (0 : Int32)] [])) _
    refine XS.aloadN X4.here hx rfl (hb hby d10_9) rfl rfl ?_
    show SP p e below (T4.setTop (mkF m 10 #[vR p0, vR p1, vI (0 : Int32)] [(.ref p0)])) _
    refine XS.iloadN X4.here hx rfl (hb hby d10_10) rfl  ?_
    exact k
  obtain ⟨T6, h6, X6, e6, W6, st6⟩ := putFN X4 hx hZ hown (ow hw 26 rfl) Via.refl e4 fld_p0_coder_4 exa_p0_4 (Or.inr ⟨(ow hw 22 rfl), rfl, hnm⟩) (ow hw 6 rfl) (ty := .byte) (v' := .int (nar .byte (0 : Int32))) (by decide) rfl (fits_nar_byte _) (g := (mkF m 11 #[vR p0, vR p1, vI (0 : Int32)] [(.int (0 : Int32)), (.ref p0)])) rfl rfl (hb hby d10_11)
  have Fw6 := fld_p0_coder_4.same W6
  have exa_p0_6 := exa_p0_4.wr W6
  have fld_p0_value_6 := Fw4.other W6 (Or.inr (slot_ne (Or.inr (ow hw 21 rfl)) (Or.inr (ow hw 22 rfl)) (by decide) (t := (.array .byte)) (t' := .byte) (by decide) (by decide)))
  have K6 := K4.wr W6 (Or.inl (List.mem_of_getElem? (i := 0) rfl))
  have Z6 := Nat.le_trans Z4 (Nat.le_of_eq W6.size.symm)
  have N6 := Fr.snoc X6 N4 ge_p0
  obtain ⟨fs, hr, hrun, hended, hW, hsame⟩ := X6.leave (v := none) (fun _ => rfl) (BodyLoose.notSynchronized Bd)
  refine ⟨_, _, pre5 _ ?_, hrun, hended, _, _, rfl, ?_, ⟨_, rfl⟩, hW, hsame.mono (by decide) (by decide)⟩
  · show SP p e below (T4.setTop (mkF m 11 #[vR p0, vR p1, vI (0 : Int32)] [(.int (0 : Int32)), (.ref p0)])) _
    refine st6 _ ?_
    show SP p e below (T6.setTop (mkF m 14 #[vR p0, vR p1, vI (0 : Int32)] [])) _
    exact X6.returnOut hx Bd.returns (hb hby d10_14) hr
  · show Q_10L Z p0 p1 h0 n0 _ T6.heap _
    rw [e6]
    exact ⟨rfl, N6, K6, exa_p0_6, fld_p0_value_6, Fw6⟩
theorem pd_13 : parseMethodDescriptor "(C)Z" = some ⟨[.char], some .boolean⟩ := by decide +kernel
theorem pd_14 : parseMethodDescriptor "(C)[B" = some ⟨[.char], some (.array .byte)⟩ := by decide +kernel
theorem pd_15 : parseMethodDescriptor "([BB)V" = some ⟨[(.array .byte), .byte], none⟩ := by decide +kernel
theorem d7_0 : decode jdk_42_method_139_code 0 = .ok (.getstatic 38, 3) := by decide +kernel
theorem d7_3 : decode jdk_42_method_139_code 3 = .ok (.ifCond .eq 23, 3) := by decide +kernel
theorem d7_6 : decode jdk_42_method_139_code 6 = .ok (.iload_n 0, 1) := by decide +kernel
theorem d7_7 : decode jdk_42_method_139_code 7 = .ok (.invokestatic 1015, 3) := by decide +kernel
theorem d7_10 : decode jdk_42_method_139_code 10 = .ok (.ifCond .eq 16, 3) := by decide +kernel
theorem d7_13 : decode jdk_42_method_139_code 13 = .ok (.new 10, 3) := by decide +kernel
theorem d7_16 : decode jdk_42_method_139_code 16 = .ok (.dup, 1) := by decide +kernel
theorem d7_17 : decode jdk_42_method_139_code 17 = .ok (.iload_n 0, 1) := by decide +kernel
theorem d7_18 : decode jdk_42_method_139_code 18 = .ok (.invokestatic 1018, 3) := by decide +kernel
theorem d7_21 : decode jdk_42_method_139_code 21 = .ok (.iconst 0, 1) := by decide +kernel
theorem d7_22 : decode jdk_42_method_139_code 22 = .ok (.invokespecial 209, 3) := by decide +kernel
theorem d7_25 : decode jdk_42_method_139_code 25 = .ok (.areturn, 1) := by decide +kernel
theorem pn_7 : plainName "java/lang/String" = true := by first | (simp [plainName, overriddenIn]; done) | decide +kernel
theorem ef_7L (m : MethodId) (p0 : Int32) : entryFrame m #[(.int p0)] 1 = mkF m 0 #[vI p0] [] := by first | (simp [entryFrame, mkF, argsToLocals, Value.category]; done) | rfl
def f_7L_1 (p0 : Int32) (cs_ : Int32) : Nat → Int32 := (f_9_1 p0)
def Q_7L (Z : State) (p0 : Int32) (cs_ : Int32) (h0 : Heap) (n0 : Nat) (v : Option Value) (h : Heap) (L : List Loc) : Prop := ∃ r : Addr, ∃ w : Addr, v = some (.ref r) ∧ Fr n0 L ∧ h0.size ≤ r ∧ Keep h0 h [] ∧ Exa Z h r "java/lang/String" ∧ Fld Z h r "java/lang/String" "value" "[B" (.ref w) ∧ Fld Z h r "java/lang/String" "coder" "B" (.int (0 : Int32)) ∧ own_A Z h w .byte 1 (fun i => .int ((f_7L_1 p0 cs_) i))
theorem rm_7L (l : Launch) (Z : State) (a0 : Array Value) (hw : ∀ d ∈ tables_1, d.before a0 Z = true) (ws : List Jvm.Cond) (p0 : Int32) (cs_ : Int32) (h0 : Heap) (n0 : Nat) (Z0 : n0 ≤ h0.size) (S_COMPACT_STRINGS : Sta Z h0 "java/lang/String" "COMPACT_STRINGS" "Z" (.int cs_)) (hcs : ¬ (cs_ = (0 : Int32))) (hc_ : ¬ ((255 : Int32) < p0)) :
    MetFree l (⟨"java/lang/String", "valueOf", "(C)Ljava/lang/String;"⟩ : MethodName) (head1 (Jvm.Cond.code (⟨"java/lang/String", "valueOf", "(C)Ljava/lang/String;"⟩ : MethodName) jdk_42_method_139_code 1 (some (.object "java/lang/String")) :: ws) (⟨2, 2, 5, 27⟩ : Room)) (fun a U => a = #[(.int p0)] ∧ Z.Warmed39 U.vm ∧ U.heap = h0) (fun _ _ _ _ _ => True) (fun _ U o U' => ∃ v L, o = .returned v ∧ Q_7L Z p0 cs_ h0 n0 v U'.heap L ∧ FrameEnd U o U' L 2 5) := by
  refine MetFree.of_bodySF (plainFor_of_name pn_7) hisR ?_
  intro p e s m args below meth c s₁ Bd hml0 hP hK
  obtain ⟨rfl, hZ, hh⟩ := hP
  have hx := Bd.exec
  have hby := Bd.bytes
  have hml : c.maxLocals = 1 := hml0
  have hown : s.vm.findClass "java/lang/String" = some m.cls := findClass_of_methodNamed Bd.named
  have hnm := (name_of_methodNamed Bd.named Bd.method).1
  have X0 : Stand p l e (⟨2, 2, 5, 27⟩ : Room) s m #[(.int p0)] below meth c s₁ [] 0 0 := Stand.of_body Bd
  have e0 : s₁.heap = h0 := by rw [← hh, Bd.state]; rfl
  have N0 := Fr.nil n0
  have K0 : Keep h0 h0 [] := Keep.refl h0 _
  have pre0 : ∀ t, SP p e below (s₁.setTop (mkF m 0 #[vI p0] [])) t → SP p e below (s₁.setTop (entryFrame m #[(.int p0)] 1)) t := fun t k => castTop (ef_7L m p0) k
  obtain ⟨T1, X1, e1, st1⟩ := getS2 X0 hx hZ hown (host := "") (Or.inl (ow hw 44 rfl)) Via.refl e0 S_COMPACT_STRINGS (g := (mkF m 0 #[vI p0] [])) rfl (hb hby d7_0)
  have pre3 : ∀ t, SP p e below (T1.setTop (mkF m 7 #[vI p0] [(.int p0)])) t → SP p e below (s₁.setTop (entryFrame m #[(.int p0)] 1)) t := by
    intro t k
    refine pre0 t ?_
    show SP p e below (s₁.setTop (mkF m 0 #[vI p0] [])) _
    refine st1 _ ?_
    show SP p e below (T1.setTop (mkF m 3 #[vI p0] [(.int cs_)])) _
    refine XS.ifNo X1.here hx rfl (hb hby d7_3) rfl ((if0 _ _).trans (feq (hcs : ¬ (cs_ = (0 : Int32)))).1) ?_
    show SP p e below (T1.setTop (mkF m 6 #[vI p0] [])) _
    refine XS.iloadN X1.here hx rfl (hb hby d7_6) rfl  ?_
    exact k
  obtain ⟨_, _, ⟨T2, L2, k2, n2⟩, -, X2, ⟨Lc2, hQ2, l2, y2, z2⟩, st2⟩ := Jvm.LawKit.callS X1 hx (y := (⟨"java/lang/StringLatin1", "canEncode", "(C)Z"⟩ : MethodName)) hown (mvT hZ (ow hw 45 rfl)) (mvT hZ (ow hw 46 rfl)) (mvT hZ (ow hw 47 rfl)) (mvT hZ (ow hw 48 rfl)) (by decide) (backOf (W := 0) (rm_8 l Z a0 hw [] p0 h0 n0 Z0 ) hZ (ow hw 48 rfl) (ow hw 47 rfl) (by decide) (by decide)) (g := (mkF m 7 #[vI p0] [(.int p0)])) rfl (by rw [hml]; rfl) (argsL := [(.int p0)]) (rest := []) (lenOf pd_13 rfl) rfl own_le0 (hb hby d7_7) (fun _ _ => ⟨rfl, e1, (by decide : 0 + 0 ≤ _), (by decide : 0 + 0 ≤ _)⟩)
  dsimp only [Pt.U, Pt.locs, Pt.cells, Pt.slots] at X2 l2 y2 z2 st2 hQ2
  rw [l2, y2, z2] at X2
  obtain ⟨rfl, N2q, e2⟩ := hQ2
  have N2 := Fr.app N0 N2q
  have pre4 : ∀ t, SP p e below (T2.setTop (mkF m 13 #[vI p0] [])) t → SP p e below (s₁.setTop (entryFrame m #[(.int p0)] 1)) t := by
    intro t k
    refine pre3 t ?_
    show SP p e below (T1.setTop (mkF m 7 #[vI p0] [(.int p0)])) _
    refine st2 _ ?_
    show SP p e below (T2.setTop (mkF m 10 #[vI p0] [(.int (f_8 p0))])) _
    refine XS.ifNo X2.here hx rfl (hb hby d7_10) rfl ((if0 _ _).trans (feq ((own_ce0 hc_) : ¬ ((f_8 p0) = (0 : Int32)))).1) ?_
    exact k
  obtain ⟨T5, h5, X5, e5, E5, A5, D5, -, st5⟩ := newO X2 hx hZ hown (ow hw 49 rfl) (ow hw 6 rfl) (ow hw 7 rfl) e2 (g := (mkF m 13 #[vI p0] [])) rfl (hb hby d7_13) (by decide) (by decide)
  obtain ⟨b5, gb5⟩ : ∃ z, z = h0.size := ⟨_, rfl⟩
  rw [← gb5] at A5 D5 st5
  have sz_b5 : h0.size ≤ b5 := Nat.le_trans K0.1 (Nat.le_of_eq gb5.symm)
  have ge_b5 : n0 ≤ b5 := Nat.le_trans Z0 (Nat.le_of_eq gb5.symm)
  have st_COMP_5 := S_COMPACT_STRINGS.ext E5
  have K5 := K0.ext E5
  have Z5 := Nat.le_trans Z0 E5.1
  have F5_value : Fld Z h5 b5 "java/lang/String" "value" "[B" .null := D5 (Or.inr (ow hw 21 rfl)) (ty := (.array .byte)) (by decide)
  have F5_coder : Fld Z h5 b5 "java/lang/String" "coder" "B" (.int (0 : Int32)) := D5 (Or.inr (ow hw 22 rfl)) (ty := .byte) (by decide)
  have pre7 : ∀ t, SP p e below (T5.setTop (mkF m 18 #[vI p0] [(.int p0), (.ref b5), (.ref b5)])) t → SP p e below (s₁.setTop (entryFrame m #[(.int p0)] 1)) t := by
    intro t k
    refine pre4 t ?_
    show SP p e below (T2.setTop (mkF m 13 #[vI p0] [])) _
    refine st5 _ ?_
    show SP p e below (T5.setTop (mkF m 16 #[vI p0] [(.ref b5)])) _
    refine XS.dup X5.here hx rfl (hb hby d7_16) rfl rfl ?_
    show SP p e below (T5.setTop (mkF m 17 #[vI p0] [(.ref b5), (.ref b5)])) _
    refine XS.iloadN X5.here hx rfl (hb hby d7_17) rfl  ?_
    exact k
  obtain ⟨_, _, ⟨T6, L6, k6, n6⟩, -, X6, ⟨Lc6, hQ6, l6, y6, z6⟩, st6⟩ := Jvm.LawKit.callS X5 hx (y := (⟨"java/lang/StringLatin1", "toBytes", "(C)[B"⟩ : MethodName)) hown (mvT hZ (ow hw 50 rfl)) (mvT hZ (ow hw 51 rfl)) (mvT hZ (ow hw 47 rfl)) (mvT hZ (ow hw 52 rfl)) (by decide) (backOf (W := 2) (rm_9 l Z a0 hw [] p0 h5 n0 Z5 ) hZ (ow hw 52 rfl) (ow hw 47 rfl) (by decide) (by decide)) (g := (mkF m 18 #[vI p0] [(.int p0), (.ref b5), (.ref b5)])) rfl (by rw [hml]; rfl) (argsL := [(.int p0)]) (rest := [(.ref b5), (.ref b5)]) (lenOf pd_14 rfl) rfl own_le0 (hb hby d7_18) (fun _ _ => ⟨rfl, e5, (by decide : 1 + 1 ≤ _), (by decide : 4 + 1 ≤ _)⟩)
  dsimp only [Pt.U, Pt.locs, Pt.cells, Pt.slots] at X6 l6 y6 z6 st6 hQ6
  rw [l6, y6, z6] at X6
  obtain ⟨r_6, rfl, N6q, sz0_r_6, Kc6, Q6_0⟩ := hQ6
  have Kd6 : Keep h5 T6.heap [] := Kc6
  have ne_b5_r_6 : b5 ≠ r_6 := Nat.ne_of_lt (Nat.lt_of_lt_of_le A5.lt sz0_r_6)
  have sz_r_6 : h0.size ≤ r_6 := Nat.le_trans K5.1 sz0_r_6
  have ge_r_6 : n0 ≤ r_6 := Nat.le_trans Z5 sz0_r_6
  have st_COMP_6 := own_sta_keep st_COMP_5 Kd6 all0
  have exa_b5_6 := A5.keep Kd6
  have fld_b5_value_6 := F5_value.keep Kd6 nin0
  have fld_b5_coder_6 := F5_coder.keep Kd6 nin0
  have K6 := K5.trans Kd6 all0
  have Z6 := Nat.le_trans Z5 Kd6.1
  have N6 := Fr.app N2 N6q
  have pre9 : ∀ t, SP p e below (T6.setTop (mkF m 22 #[vI p0] [(.int (0 : Int32)), (.ref r_6), (.ref b5), (.ref b5)])) t → SP p e below (s₁.setTop (entryFrame m #[(.int p0)] 1)) t := by
    intro t k
    refine pre7 t ?_
    show SP p e below (T5.setTop (mkF m 18 #[vI p0] [(.int p0), (.ref b5), (.ref b5)])) _
    refine st6 _ ?_
    show SP p e below (T6.setTop (mkF m 21 #[vI p0] [(.ref r_6), (.ref b5), (.ref b5)])) _
    refine XS.iconst X6.here hx rfl (hb hby d7_21) ?_
    exact k
  obtain ⟨_, _, ⟨T8, L8, k8, n8⟩, -, X8, ⟨Lc8, hQ8, l8, y8, z8⟩, st8⟩ := X6.specialBack hx (y := (⟨"java/lang/String", "<init>", "([BB)V"⟩ : MethodName)) rfl hown (mvT hZ (ow hw 53 rfl)) (mvT hZ (ow hw 54 rfl)) (mvT hZ (ow hw 55 rfl)) (by decide) (backOf (W := 1) (rm_10L l Z a0 hw [] b5 r_6 T6.heap n0 Z6 exa_b5_6 fld_b5_value_6 fld_b5_coder_6 ge_b5) hZ (ow hw 55 rfl) (ow hw 7 rfl) (by decide) (by decide)) (g := (mkF m 22 #[vI p0] [(.int (0 : Int32)), (.ref r_6), (.ref b5), (.ref b5)])) rfl (by rw [hml]; rfl) (Steps.refl _) (a := b5) (argsL := [(.ref r_6), (.int (0 : Int32))]) (rest := [(.ref b5)]) (lenOf pd_15 rfl) rfl own_le0 (hb hby d7_22) (fun _ _ => ⟨rfl, rfl, (by decide : 2 + 0 ≤ _), (by decide : 5 + 0 ≤ _)⟩)
  dsimp only [Pt.U, Pt.locs, Pt.cells, Pt.slots] at X8 l8 y8 z8 st8 hQ8
  rw [l8, y8, z8] at X8
  obtain ⟨rfl, N8q, Kc8, Q8_0, Q8_1, Q8_2⟩ := hQ8
  have Kd8 : Keep T6.heap T8.heap [b5] := Kc8
  have st_COMP_8 := own_sta_keep st_COMP_6 Kd8 (allS (own_E_plain exa_b5_6) all0)
  have exa_b5_8 := exa_b5_6.keep Kd8
  have arr_r_6_8 := Q6_0.keep Kd8 (ninS ne_b5_r_6.symm nin0)
  have K8 := K6.trans Kd8 (allS (Or.inr sz_b5) all0)
  have Z8 := Nat.le_trans Z6 Kd8.1
  have N8 := Fr.app N6 N8q
  obtain ⟨fs, hr, hrun, hended, hW, hsame⟩ := X8.leave (v := some (.ref b5)) (fun h => by rw [Bd.returns] at h; cases h) (BodyLoose.notSynchronized Bd)
  refine ⟨_, _, pre9 _ ?_, hrun, hended, _, _, rfl, ?_, ⟨_, rfl⟩, hW, hsame.mono (by decide) (by decide)⟩
  · show SP p e below (T6.setTop (mkF m 22 #[vI p0] [(.int (0 : Int32)), (.ref r_6), (.ref b5), (.ref b5)])) _
    refine st8.trans ?_
    show SP p e below (T8.setTop (mkF m 25 #[vI p0] [(.ref b5)])) _
    exact retOut X8 hx Bd.returns rfl (Or.inr (Or.inr (Or.inr (Or.inr ⟨rfl, rfl, rfl⟩)))) (hb hby d7_25) hr
  · show Q_7L Z p0 cs_ h0 n0 _ T8.heap _
    have o1 := (by rfl : (f_9_1 p0) = f_7L_1 p0 cs_)
    have r1 := arr_r_6_8
    rw [o1] at r1
    exact ⟨b5, r_6, rfl, N8, sz_b5, K8, Q8_0, Q8_1, Q8_2, r1⟩
theorem ef_10U (m : MethodId) (p0 : Addr) (p1 : Addr) : entryFrame m #[(.ref p0), (.ref p1), (.int (1 : Int32))] 3 = mkF m 0 #[vR p0, vR p1, vI (1 : Int32)] [] := by first | (simp [entryFrame, mkF, argsToLocals, Value.category]; done) | rfl
def Q_10U (Z : State) (p0 : Addr) (p1 : Addr)  (h0 : Heap) (n0 : Nat) (v : Option Value) (h : Heap) (L : List Loc) : Prop := v = none ∧ Fr n0 L ∧ Keep h0 h [p0] ∧ Exa Z h p0 "java/lang/String" ∧ Fld Z h p0 "java/lang/String" "value" "[B" (.ref p1) ∧ Fld Z h p0 "java/lang/String" "coder" "B" (.int (1 : Int32))
theorem rm_10U (l : Launch) (Z : State) (a0 : Array Value) (hw : ∀ d ∈ tables_1, d.before a0 Z = true) (ws : List Jvm.Cond) (p0 : Addr) (p1 : Addr)  (h0 : Heap) (n0 : Nat) (Z0 : n0 ≤ h0.size) (E_p0 : Exa Z h0 p0 "java/lang/String") (F_p0_value : Fld Z h0 p0 "java/lang/String" "value" "[B" .null) (F_p0_coder : Fld Z h0 p0 "java/lang/String" "coder" "B" (.int (0 : Int32))) (ge_p0 : n0 ≤ p0) :
    MetFree l (⟨"java/lang/String", "<init>", "([BB)V"⟩ : MethodName) (head1 (Jvm.Cond.code (⟨"java/lang/String", "<init>", "([BB)V"⟩ : MethodName) jdk_42_method_151_code 3 none :: ws) (⟨1, 0, 0, 12⟩ : Room)) (fun a U => a = #[(.ref p0), (.ref p1), (.int (1 : Int32))] ∧ Z.Warmed39 U.vm ∧ U.heap = h0) (fun _ _ _ _ _ => True) (fun _ U o U' => ∃ v L, o = .returned v ∧ Q_10U Z p0 p1 h0 n0 v U'.heap L ∧ FrameEnd U o U' L 0 0) := by
  refine MetFree.of_bodySF (plainFor_of_name pn_10) hisR ?_
  intro p e s m args below meth c s₁ Bd hml0 hP hK
  obtain ⟨rfl, hZ, hh⟩ := hP
  have hx := Bd.exec
  have hby := Bd.bytes
  have hml : c.maxLocals = 3 := hml0
  have hown : s.vm.findClass "java/lang/String" = some m.cls := findClass_of_methodNamed Bd.named
  have hnm := (name_of_methodNamed Bd.named Bd.method).1
  have X0 : Stand p l e (⟨1, 0, 0, 12⟩ : Room) s m #[(.ref p0), (.ref p1), (.int (1 : Int32))] below meth c s₁ [] 0 0 := Stand.of_body Bd
  have e0 : s₁.heap = h0 := by rw [← hh, Bd.state]; rfl
  have N0 := Fr.nil n0
  have K0 : Keep h0 h0 [p0] := Keep.refl h0 _
  have pre0 : ∀ t, SP p e below (s₁.setTop (mkF m 0 #[vR p0, vR p1, vI (1 : Int32)] [])) t → SP p e below (s₁.setTop (entryFrame m #[(.ref p0), (.ref p1), (.int (1 : Int32))] 3)) t := fun t k => castTop (ef_10U m p0 p1) k
  have pre1 : ∀ t, SP p e below (s₁.setTop (mkF m 1 #[vR p0, vR p1, vI (1 : Int32)] [(.ref p0)])) t → SP p e below (s₁.setTop (entryFrame m #[(.ref p0), (.ref p1), (.int (1 : Int32))] 3)) t := by
    intro t k
    refine pre0 t ?_
    show SP p e below (s₁.setTop (mkF m 0 #[vR p0, vR p1, vI (1 : Int32)] [])) _
    refine XS.aloadN X0.here hx rfl (hb hby d10_0) rfl rfl ?_
    exact k
  obtain ⟨T2, X2, e2, st2⟩ := initO X0 hx hZ hown (ow hw 16 rfl) (ow hw 17 rfl) (ow hw 18 rfl) e0 (g := (mkF m 1 #[vR p0, vR p1, vI (1 : Int32)] [(.ref p0)])) rfl (by rw [hml]; rfl) rfl (hb hby d10_1) (by decide) (W := 0) own_le0 (by decide)
  have pre3 : ∀ t, SP p e below (T2.setTop (mkF m 6 #[vR p0, vR p1, vI (1 : Int32)] [(.ref p1), (.ref p0)])) t → SP p e below (s₁.setTop (entryFrame m #[(.ref p0), (.ref p1), (.int (1 : Int32))] 3)) t := by
    intro t k
    refine pre1 t ?_
    show SP p e below (s₁.setTop (mkF m 1 #[vR p0, vR p1, vI (1 : Int32)] [(.ref p0)])) _
    refine st2 _ ?_
    show SP p e below (T2.setTop (mkF m 4 #[vR p0, vR p1, vI (1 : Int32)] [])) _
    refine XS.aloadN X2.here hx rfl (hb hby d10_4) rfl rfl ?_
    show SP p e below (T2.setTop (mkF m 5 #[vR p0, vR p1, vI (1 : Int32)] [(.ref p0)])) _
    refine XS.aloadN X2.here hx rfl (hb hby d10_5) rfl rfl ?_
    exact k
  obtain ⟨T4, h4, X4, e4, W4, st4⟩ := putF X2 hx hZ hown (host := "") (Or.inl (ow hw 25 rfl)) Via.refl e2 F_p0_value E_p0 (Or.inr ⟨(ow hw 21 rfl), rfl, hnm⟩) (ow hw 6 rfl) (ty := (.array .byte)) (by decide) rfl rfl (g := (mkF m 6 #[vR p0, vR p1, vI (1 : Int32)] [(.ref p1), (.ref p0)])) rfl rfl (hb hby d10_6)
  have Fw4 := F_p0_value.same W4
  have exa_p0_4 := E_p0.wr W4
  have fld_p0_coder_4 := F_p0_coder.other W4 (Or.inr (slot_ne (Or.inr (ow hw 22 rfl)) (Or.inr (ow hw 21 rfl)) (by decide) (t := .byte) (t' := (.array .byte)) (by decide) (by decide)))
  have K4 := K0.wr W4 (Or.inl (List.mem_of_getElem? (i := 0) rfl))
  have Z4 := Nat.le_trans Z0 (Nat.le_of_eq W4.size.symm)
  have N4 := Fr.snoc X4 N0 ge_p0
  have pre5 : ∀ t, SP p e below (T4.setTop (mkF m 11 #[vR p0, vR p1, vI (1 : Int32)] [(.int (1 : Int32)), (.ref p0)])) t → SP p e below (s₁.setTop (entryFrame m #[(.ref p0), (.ref p1), (.int (1 : Int32))] 3)) t := by
    intro t k
    refine pre3 t ?_
    show SP p e below (T2.setTop (mkF m 6 #[vR p0, vR p1, vI (1 : Int32)] [(.ref p1), (.ref p0)])) _
    refine st4 _ ?_
    show SP p e below (T4.setTop (mkF m 9 #[vR p0, vR p1, vI (1 : Int32)] [])) _
    refine XS.aloadN X4.here hx rfl (hb hby d10_9) rfl rfl ?_
    show SP p e below (T4.setTop (mkF m 10 #[vR p0, vR p1, vI (1 : Int32)] [(.ref p0)])) _
    refine XS.iloadN X4.here hx rfl (hb hby d10_10) rfl  ?_
    exact k
  obtain ⟨T6, h6, X6, e6, W6, st6⟩ := putFN X4 hx hZ hown (ow hw 26 rfl) Via.refl e4 fld_p0_coder_4 exa_p0_4 (Or.inr ⟨(ow hw 22 rfl), rfl, hnm⟩) (ow hw 6 rfl) (ty := .byte) (v' := .int (nar .byte (1 : Int32))) (by decide) rfl (fits_nar_byte _) (g := (mkF m 11 #[vR p0, vR p1, vI (1 : Int32)] [(.int (1 : Int32)), (.ref p0)])) rfl rfl (hb hby d10_11)
  have Fw6 := fld_p0_coder_4.same W6
  have exa_p0_6 := exa_p0_4.wr W6
  have fld_p0_value_6 := Fw4.other W6 (Or.inr (slot_ne (Or.inr (ow hw 21 rfl)) (Or.inr (ow hw 22 rfl)) (by decide) (t := (.array .byte)) (t' := .byte) (by decide) (by decide)))
  have K6 := K4.wr W6 (Or.inl (List.mem_of_getElem? (i := 0) rfl))
  have Z6 := Nat.le_trans Z4 (Nat.le_of_eq W6.size.symm)
  have N6 := Fr.snoc X6 N4 ge_p0
  obtain ⟨fs, hr, hrun, hended, hW, hsame⟩ := X6.leave (v := none) (fun _ => rfl) (BodyLoose.notSynchronized Bd)
  refine ⟨_, _, pre5 _ ?_, hrun, hended, _, _, rfl, ?_, ⟨_, rfl⟩, hW, hsame.mono (by decide) (by decide)⟩
  · show SP p e below (T4.setTop (mkF m 11 #[vR p0, vR p1, vI (1 : Int32)] [(.int (1 : Int32)), (.ref p0)])) _
    refine st6 _ ?_
    show SP p e below (T6.setTop (mkF m 14 #[vR p0, vR p1, vI (1 : Int32)] [])) _
    exact X6.returnOut hx Bd.returns (hb hby d10_14) hr
  · show Q_10U Z p0 p1 h0 n0 _ T6.heap _
    rw [e6]
    exact ⟨rfl, N6, K6, exa_p0_6, fld_p0_value_6, Fw6⟩
theorem d7_26 : decode jdk_42_method_139_code 26 = .ok (.new 10, 3) := by decide +kernel
theorem d7_29 : decode jdk_42_method_139_code 29 = .ok (.dup, 1) := by decide +kernel
theorem d7_30 : decode jdk_42_method_139_code 30 = .ok (.iload_n 0, 1) := by decide +kernel
theorem d7_31 : decode jdk_42_method_139_code 31 = .ok (.invokestatic 1021, 3) := by decide +kernel
theorem d7_34 : decode jdk_42_method_139_code 34 = .ok (.iconst 1, 1) := by decide +kernel
theorem d7_35 : decode jdk_42_method_139_code 35 = .ok (.invokespecial 209, 3) := by decide +kernel
theorem d7_38 : decode jdk_42_method_139_code 38 = .ok (.areturn, 1) := by decide +kernel
theorem ef_7U (m : MethodId) (p0 : Int32) : entryFrame m #[(.int p0)] 1 = mkF m 0 #[vI p0] [] := by first | (simp [entryFrame, mkF, argsToLocals, Value.category]; done) | rfl
def f_7U_1 (p0 : Int32) (cs_ : Int32) : Nat → Int32 := (f_29_1 p0)
def Q_7U (Z : State) (p0 : Int32) (cs_ : Int32) (h0 : Heap) (n0 : Nat) (v : Option Value) (h : Heap) (L : List Loc) : Prop := ∃ r : Addr, ∃ w : Addr, v = some (.ref r) ∧ Fr n0 L ∧ h0.size ≤ r ∧ Keep h0 h [] ∧ Exa Z h r "java/lang/String" ∧ Fld Z h r "java/lang/String" "value" "[B" (.ref w) ∧ Fld Z h r "java/lang/String" "coder" "B" (.int (1 : Int32)) ∧ own_A Z h w .byte 2 (fun i => .int ((f_7U_1 p0 cs_) i))
theorem rm_7U (l : Launch) (Z : State) (a0 : Array Value) (hw : ∀ d ∈ tables_1, d.before a0 Z = true) (ws : List Jvm.Cond) (p0 : Int32) (cs_ : Int32) (h0 : Heap) (n0 : Nat) (Z0 : n0 ≤ h0.size) (S_COMPACT_STRINGS : Sta Z h0 "java/lang/String" "COMPACT_STRINGS" "Z" (.int cs_)) (hcs : ¬ (cs_ = (0 : Int32))) (S__assertionsDisabled : Sta Z h0 "java/lang/StringUTF16" "$assertionsDisabled" "Z" (.int (1 : Int32))) (S_HI_BYTE_SHIFT : Sta Z h0 "java/lang/StringUTF16" "HI_BYTE_SHIFT" "I" (.int (0 : Int32))) (S_LO_BYTE_SHIFT : Sta Z h0 "java/lang/StringUTF16" "LO_BYTE_SHIFT" "I" (.int (8 : Int32))) (hc_ : (255 : Int32) < p0) :
    MetFree l (⟨"java/lang/String", "valueOf", "(C)Ljava/lang/String;"⟩ : MethodName) (head1 (Jvm.Cond.code (⟨"java/lang/String", "valueOf", "(C)Ljava/lang/String;"⟩ : MethodName) jdk_42_method_139_code 1 (some (.object "java/lang/String")) :: ws) (⟨2, 2, 6, 29⟩ : Room)) (fun a U => a = #[(.int p0)] ∧ Z.Warmed39 U.vm ∧ U.heap = h0) (fun _ _ _ _ _ => True) (fun _ U o U' => ∃ v L, o = .returned v ∧ Q_7U Z p0 cs_ h0 n0 v U'.heap L ∧ FrameEnd U o U' L 2 6) := by
  refine MetFree.of_bodySF (plainFor_of_name pn_7) hisR ?_
  intro p e s m args below meth c s₁ Bd hml0 hP hK
  obtain ⟨rfl, hZ, hh⟩ := hP
  have hx := Bd.exec
  have hby := Bd.bytes
  have hml : c.maxLocals = 1 := hml0
  have hown : s.vm.findClass "java/lang/String" = some m.cls := findClass_of_methodNamed Bd.named
  have hnm := (name_of_methodNamed Bd.named Bd.method).1
  have X0 : Stand p l e (⟨2, 2, 6, 29⟩ : Room) s m #[(.int p0)] below meth c s₁ [] 0 0 := Stand.of_body Bd
  have e0 : s₁.heap = h0 := by rw [← hh, Bd.state]; rfl
  have N0 := Fr.nil n0
  have K0 : Keep h0 h0 [] := Keep.refl h0 _
  have pre0 : ∀ t, SP p e below (s₁.setTop (mkF m 0 #[vI p0] [])) t → SP p e below (s₁.setTop (entryFrame m #[(.int p0)] 1)) t := fun t k => castTop (ef_7U m p0) k
  obtain ⟨T1, X1, e1, st1⟩ := getS2 X0 hx hZ hown (host := "") (Or.inl (ow hw 44 rfl)) Via.refl e0 S_COMPACT_STRINGS (g := (mkF m 0 #[vI p0] [])) rfl (hb hby d7_0)
  have pre3 : ∀ t, SP p e below (T1.setTop (mkF m 7 #[vI p0] [(.int p0)])) t → SP p e below (s₁.setTop (entryFrame m #[(.int p0)] 1)) t := by
    intro t k
    refine pre0 t ?_
    show SP p e below (s₁.setTop (mkF m 0 #[vI p0] [])) _
    refine st1 _ ?_
    show SP p e below (T1.setTop (mkF m 3 #[vI p0] [(.int cs_)])) _
    refine XS.ifNo X1.here hx rfl (hb hby d7_3) rfl ((if0 _ _).trans (feq (hcs : ¬ (cs_ = (0 : Int32)))).1) ?_
    show SP p e below (T1.setTop (mkF m 6 #[vI p0] [])) _
    refine XS.iloadN X1.here hx rfl (hb hby d7_6) rfl  ?_
    exact k
  obtain ⟨_, _, ⟨T2, L2, k2, n2⟩, -, X2, ⟨Lc2, hQ2, l2, y2, z2⟩, st2⟩ := Jvm.LawKit.callS X1 hx (y := (⟨"java/lang/StringLatin1", "canEncode", "(C)Z"⟩ : MethodName)) hown (mvT hZ (ow hw 45 rfl)) (mvT hZ (ow hw 46 rfl)) (mvT hZ (ow hw 47 rfl)) (mvT hZ (ow hw 48 rfl)) (by decide) (backOf (W := 0) (rm_8 l Z a0 hw [] p0 h0 n0 Z0 ) hZ (ow hw 48 rfl) (ow hw 47 rfl) (by decide) (by decide)) (g := (mkF m 7 #[vI p0] [(.int p0)])) rfl (by rw [hml]; rfl) (argsL := [(.int p0)]) (rest := []) (lenOf pd_13 rfl) rfl own_le0 (hb hby d7_7) (fun _ _ => ⟨rfl, e1, (by decide : 0 + 0 ≤ _), (by decide : 0 + 0 ≤ _)⟩)
  dsimp only [Pt.U, Pt.locs, Pt.cells, Pt.slots] at X2 l2 y2 z2 st2 hQ2
  rw [l2, y2, z2] at X2
  obtain ⟨rfl, N2q, e2⟩ := hQ2
  have N2 := Fr.app N0 N2q
  have pre4 : ∀ t, SP p e below (T2.setTop (mkF m 26 #[vI p0] [])) t → SP p e below (s₁.setTop (entryFrame m #[(.int p0)] 1)) t := by
    intro t k
    refine pre3 t ?_
    show SP p e below (T1.setTop (mkF m 7 #[vI p0] [(.int p0)])) _
    refine st2 _ ?_
    show SP p e below (T2.setTop (mkF m 10 #[vI p0] [(.int (f_8 p0))])) _
    refine XS.ifYes X2.here hx rfl (pc0 := 10) (pc' := 26) rfl (hb hby d7_10) rfl ((if0 _ _).trans (teq ((own_ce1 hc_) : (f_8 p0) = (0 : Int32))).1) (by decide) (by decide) ?_
    exact k
  obtain ⟨T5, h5, X5, e5, E5, A5, D5, -, st5⟩ := newO X2 hx hZ hown (ow hw 49 rfl) (ow hw 6 rfl) (ow hw 7 rfl) e2 (g := (mkF m 26 #[vI p0] [])) rfl (hb hby d7_26) (by decide) (by decide)
  obtain ⟨b5, gb5⟩ : ∃ z, z = h0.size := ⟨_, rfl⟩
  rw [← gb5] at A5 D5 st5
  have sz_b5 : h0.size ≤ b5 := Nat.le_trans K0.1 (Nat.le_of_eq gb5.symm)
  have ge_b5 : n0 ≤ b5 := Nat.le_trans Z0 (Nat.le_of_eq gb5.symm)
  have st_COMP_5 := S_COMPACT_STRINGS.ext E5
  have st__ass_5 := S__assertionsDisabled.ext E5
  have st_HI_B_5 := S_HI_BYTE_SHIFT.ext E5
  have st_LO_B_5 := S_LO_BYTE_SHIFT.ext E5
  have K5 := K0.ext E5
  have Z5 := Nat.le_trans Z0 E5.1
  have F5_value : Fld Z h5 b5 "java/lang/String" "value" "[B" .null := D5 (Or.inr (ow hw 21 rfl)) (ty := (.array .byte)) (by decide)
  have F5_coder : Fld Z h5 b5 "java/lang/String" "coder" "B" (.int (0 : Int32)) := D5 (Or.inr (ow hw 22 rfl)) (ty := .byte) (by decide)
  have pre7 : ∀ t, SP p e below (T5.setTop (mkF m 31 #[vI p0] [(.int p0), (.ref b5), (.ref b5)])) t → SP p e below (s₁.setTop (entryFrame m #[(.int p0)] 1)) t := by
    intro t k
    refine pre4 t ?_
    show SP p e below (T2.setTop (mkF m 26 #[vI p0] [])) _
    refine st5 _ ?_
    show SP p e below (T5.setTop (mkF m 29 #[vI p0] [(.ref b5)])) _
    refine XS.dup X5.here hx rfl (hb hby d7_29) rfl rfl ?_
    show SP p e below (T5.setTop (mkF m 30 #[vI p0] [(.ref b5), (.ref b5)])) _
    refine XS.iloadN X5.here hx rfl (hb hby d7_30) rfl  ?_
    exact k
  obtain ⟨_, _, ⟨T6, L6, k6, n6⟩, -, X6, ⟨Lc6, hQ6, l6, y6, z6⟩, st6⟩ := Jvm.LawKit.callS X5 hx (y := (⟨"java/lang/StringUTF16", "toBytes", "(C)[B"⟩ : MethodName)) hown (mvT hZ (ow hw 128 rfl)) (mvT hZ (ow hw 129 rfl)) (mvT hZ (ow hw 58 rfl)) (mvT hZ (ow hw 130 rfl)) (by decide) (backOf (W := 2) (rm_29 l Z a0 hw [] p0 h5 n0 Z5 st__ass_5 st_HI_B_5 st_LO_B_5) hZ (ow hw 130 rfl) (ow hw 58 rfl) (by decide) (by decide)) (g := (mkF m 31 #[vI p0] [(.int p0), (.ref b5), (.ref b5)])) rfl (by rw [hml]; rfl) (argsL := [(.int p0)]) (rest := [(.ref b5), (.ref b5)]) (lenOf pd_14 rfl) rfl own_le0 (hb hby d7_31) (fun _ _ => ⟨rfl, e5, (by decide : 1 + 1 ≤ _), (by decide : 4 + 2 ≤ _)⟩)
  dsimp only [Pt.U, Pt.locs, Pt.cells, Pt.slots] at X6 l6 y6 z6 st6 hQ6
  rw [l6, y6, z6] at X6
  obtain ⟨r_6, rfl, N6q, sz0_r_6, Kc6, Q6_0⟩ := hQ6
  have Kd6 : Keep h5 T6.heap [] := Kc6
  have ne_b5_r_6 : b5 ≠ r_6 := Nat.ne_of_lt (Nat.lt_of_lt_of_le A5.lt sz0_r_6)
  have sz_r_6 : h0.size ≤ r_6 := Nat.le_trans K5.1 sz0_r_6
  have ge_r_6 : n0 ≤ r_6 := Nat.le_trans Z5 sz0_r_6
  have st_COMP_6 := own_sta_keep st_COMP_5 Kd6 all0
  have st__ass_6 := own_sta_keep st__ass_5 Kd6 all0
  have st_HI_B_6 := own_sta_keep st_HI_B_5 Kd6 all0
  have st_LO_B_6 := own_sta_keep st_LO_B_5 Kd6 all0
  have exa_b5_6 := A5.keep Kd6
  have fld_b5_value_6 := F5_value.keep Kd6 nin0
  have fld_b5_coder_6 := F5_coder.keep Kd6 nin0
  have K6 := K5.trans Kd6 all0
  have Z6 := Nat.le_trans Z5 Kd6.1
  have N6 := Fr.app N2 N6q
  have pre9 : ∀ t, SP p e below (T6.setTop (mkF m 35 #[vI p0] [(.int (1 : Int32)), (.ref r_6), (.ref b5), (.ref b5)])) t → SP p e below (s₁.setTop (entryFrame m #[(.int p0)] 1)) t := by
    intro t k
    refine pre7 t ?_
    show SP p e below (T5.setTop (mkF m 31 #[vI p0] [(.int p0), (.ref b5), (.ref b5)])) _
    refine st6 _ ?_
    show SP p e below (T6.setTop (mkF m 34 #[vI p0] [(.ref r_6), (.ref b5), (.ref b5)])) _
    refine XS.iconst X6.here hx rfl (hb hby d7_34) ?_
    exact k
  obtain ⟨_, _, ⟨T8, L8, k8, n8⟩, -, X8, ⟨Lc8, hQ8, l8, y8, z8⟩, st8⟩ := X6.specialBack hx (y := (⟨"java/lang/String", "<init>", "([BB)V"⟩ : MethodName)) rfl hown (mvT hZ (ow hw 53 rfl)) (mvT hZ (ow hw 54 rfl)) (mvT hZ (ow hw 55 rfl)) (by decide) (backOf (W := 1) (rm_10U l Z a0 hw [] b5 r_6 T6.heap n0 Z6 exa_b5_6 fld_b5_value_6 fld_b5_coder_6 ge_b5) hZ (ow hw 55 rfl) (ow hw 7 rfl) (by decide) (by decide)) (g := (mkF m 35 #[vI p0] [(.int (1 : Int32)), (.ref r_6), (.ref b5), (.ref b5)])) rfl (by rw [hml]; rfl) (Steps.refl _) (a := b5) (argsL := [(.ref r_6), (.int (1 : Int32))]) (rest := [(.ref b5)]) (lenOf pd_15 rfl) rfl own_le0 (hb hby d7_35) (fun _ _ => ⟨rfl, rfl, (by decide : 2 + 0 ≤ _), (by decide : 6 + 0 ≤ _)⟩)
  dsimp only [Pt.U, Pt.locs, Pt.cells, Pt.slots] at X8 l8 y8 z8 st8 hQ8
  rw [l8, y8, z8] at X8
  obtain ⟨rfl, N8q, Kc8, Q8_0, Q8_1, Q8_2⟩ := hQ8
  have Kd8 : Keep T6.heap T8.heap [b5] := Kc8
  have st_COMP_8 := own_sta_keep st_COMP_6 Kd8 (allS (own_E_plain exa_b5_6) all0)
  have st__ass_8 := own_sta_keep st__ass_6 Kd8 (allS (own_E_plain exa_b5_6) all0)
  have st_HI_B_8 := own_sta_keep st_HI_B_6 Kd8 (allS (own_E_plain exa_b5_6) all0)
  have st_LO_B_8 := own_sta_keep st_LO_B_6 Kd8 (allS (own_E_plain exa_b5_6) all0)
  have exa_b5_8 := exa_b5_6.keep Kd8
  have arr_r_6_8 := Q6_0.keep Kd8 (ninS ne_b5_r_6.symm nin0)
  have K8 := K6.trans Kd8 (allS (Or.inr sz_b5) all0)
  have Z8 := Nat.le_trans Z6 Kd8.1
  have N8 := Fr.app N6 N8q
  obtain ⟨fs, hr, hrun, hended, hW, hsame⟩ := X8.leave (v := some (.ref b5)) (fun h => by rw [Bd.returns] at h; cases h) (BodyLoose.notSynchronized Bd)
  refine ⟨_, _, pre9 _ ?_, hrun, hended, _, _, rfl, ?_, ⟨_, rfl⟩, hW, hsame.mono (by decide) (by decide)⟩
  · show SP p e below (T6.setTop (mkF m 35 #[vI p0] [(.int (1 : Int32)), (.ref r_6), (.ref b5), (.ref b5)])) _
    refine st8.trans ?_
    show SP p e below (T8.setTop (mkF m 38 #[vI p0] [(.ref b5)])) _
    exact retOut X8 hx Bd.returns rfl (Or.inr (Or.inr (Or.inr (Or.inr ⟨rfl, rfl, rfl⟩)))) (hb hby d7_38) hr
  · show Q_7U Z p0 cs_ h0 n0 _ T8.heap _
    have o1 := (by rfl : (f_29_1 p0) = f_7U_1 p0 cs_)
    have r1 := arr_r_6_8
    rw [o1] at r1
    exact ⟨b5, r_6, rfl, N8, sz_b5, K8, Q8_0, Q8_1, Q8_2, r1⟩
theorem pd_16 : parseMethodDescriptor "([C)V" = some ⟨[(.array .char)], none⟩ := by decide +kernel
theorem d1_0 : decode method_5_code 0 = .ok (.iload_n 0, 1) := by decide +kernel
theorem d1_1 : decode method_5_code 1 = .ok (.ifCond .ne 14, 3) := by decide +kernel
theorem d1_4 : decode method_5_code 4 = .ok (.new 16, 3) := by decide +kernel
theorem d1_7 : decode method_5_code 7 = .ok (.dup, 1) := by decide +kernel
theorem d1_8 : decode method_5_code 8 = .ok (.iconst 0, 1) := by decide +kernel
theorem d1_9 : decode method_5_code 9 = .ok (.newarray .char, 2) := by decide +kernel
theorem d1_11 : decode method_5_code 11 = .ok (.invokespecial 38, 3) := by decide +kernel
theorem d1_14 : decode method_5_code 14 = .ok (.areturn, 1) := by decide +kernel
theorem pn_1 : plainName "com/example/tern/tern/store/HashIndexHashPinLaw" = true := by first | (simp [plainName, overriddenIn]; done) | decide +kernel
theorem ef_1a (m : MethodId) (p0 : Int32) (p1 : Int32) (p2 : Int32) : entryFrame m #[(.int p0), (.int p1), (.int p2)] 3 = mkF m 0 #[vI p0, vI p1, vI p2] [] := by first | (simp [entryFrame, mkF, argsToLocals, Value.category]; done) | rfl
def f_1a_1 (p0 : Int32) (p1 : Int32) (p2 : Int32) (cs_ : Int32) : Nat → Int32 := (f_2E_1 own_zI cs_)
def Q_1a (Z : State) (p0 : Int32) (p1 : Int32) (p2 : Int32) (cs_ : Int32) (h0 : Heap) (n0 : Nat) (v : Option Value) (h : Heap) (L : List Loc) : Prop := ∃ r : Addr, ∃ w : Addr, v = some (.ref r) ∧ Fr n0 L ∧ h0.size ≤ r ∧ Keep h0 h [] ∧ Exa Z h r "java/lang/String" ∧ Fld Z h r "java/lang/String" "value" "[B" (.ref w) ∧ Fld Z h r "java/lang/String" "coder" "B" (.int (0 : Int32)) ∧ own_A Z h w .byte 0 (fun i => .int ((f_1a_1 p0 p1 p2 cs_) i))
theorem rm_1a (l : Launch) (Z : State) (a0 : Array Value) (hw : ∀ d ∈ tables_1, d.before a0 Z = true) (ws : List Jvm.Cond) (p0 : Int32) (p1 : Int32) (p2 : Int32) (cs_ : Int32) (h0 : Heap) (n0 : Nat) (Z0 : n0 ≤ h0.size) (S_COMPACT_STRINGS : Sta Z h0 "java/lang/String" "COMPACT_STRINGS" "Z" (.int cs_)) (hcs : ¬ (cs_ = (0 : Int32))) (S__assertionsDisabled : Sta Z h0 "java/lang/StringUTF16" "$assertionsDisabled" "Z" (.int (1 : Int32))) (S_HI_BYTE_SHIFT : Sta Z h0 "java/lang/StringUTF16" "HI_BYTE_SHIFT" "I" (.int (0 : Int32))) (S_LO_BYTE_SHIFT : Sta Z h0 "java/lang/StringUTF16" "LO_BYTE_SHIFT" "I" (.int (8 : Int32))) (h0_ : p0 = (0 : Int32)) :
    MetFree l (⟨"com/example/tern/tern/store/HashIndexHashPinLaw", "text", "(ICC)Ljava/lang/String;"⟩ : MethodName) (head1 (Jvm.Cond.code (⟨"com/example/tern/tern/store/HashIndexHashPinLaw", "text", "(ICC)Ljava/lang/String;"⟩ : MethodName) method_5_code 3 (some (.object "java/lang/String")) :: ws) (⟨6, 4, 12, 88⟩ : Room)) (fun a U => a = #[(.int p0), (.int p1), (.int p2)] ∧ Z.Warmed39 U.vm ∧ U.heap = h0 ∧ own_H own_cs Z U.vm h0) (fun _ _ _ _ _ => True) (fun _ U o U' => ∃ v L, o = .returned v ∧ Q_1a Z p0 p1 p2 cs_ h0 n0 v U'.heap L ∧ own_H own_cs Z U'.vm U'.heap ∧ ReturnedEndW U o U' L 4 12) := by
  refine MetFree.of_bodySF (plainFor_of_name pn_1) hisR ?_
  intro p e s m args below meth c s₁ Bd hml0 hP hK
  obtain ⟨rfl, hZ, hh, hH⟩ := hP
  have hx := Bd.exec
  have hby := Bd.bytes
  have hml : c.maxLocals = 3 := hml0
  have hown : s.vm.findClass "com/example/tern/tern/store/HashIndexHashPinLaw" = some m.cls := findClass_of_methodNamed Bd.named
  have hnm := (name_of_methodNamed Bd.named Bd.method).1
  have wl := own_wl hw
  have wS := own_wS hw
  have hS0 : s.Since s.vm h0.size := (State.WarmedH.refl s).since _
  have hZ : Z.Warmed39 (s.setVm s.vm).vm := hZ
  have hown : (s.setVm s.vm).vm.findClass "com/example/tern/tern/store/HashIndexHashPinLaw" = some m.cls := hown
  have hH : own_H own_cs Z (s.setVm s.vm).vm h0 := hH
  have X0 : Stand p l e (⟨6, 4, 12, 88⟩ : Room) (s.setVm s.vm) m #[(.int p0), (.int p1), (.int p2)] below meth c s₁ [] 0 0 := Stand.of_body Bd
  have e0 : s₁.heap = h0 := by rw [← hh, Bd.state]; rfl
  have N0 := Fr.nil n0
  have K0 : Keep h0 h0 [] := Keep.refl h0 _
  have pre0 : ∀ t, SP p e below (s₁.setTop (mkF m 0 #[vI p0, vI p1, vI p2] [])) t → SP p e below (s₁.setTop (entryFrame m #[(.int p0), (.int p1), (.int p2)] 3)) t := fun t k => castTop (ef_1a m p0 p1 p2) k
  have pre1 : ∀ t, SP p e below (s₁.setTop (mkF m 4 #[vI p0, vI p1, vI p2] [])) t → SP p e below (s₁.setTop (entryFrame m #[(.int p0), (.int p1), (.int p2)] 3)) t := by
    intro t k
    refine pre0 t ?_
    show SP p e below (s₁.setTop (mkF m 0 #[vI p0, vI p1, vI p2] [])) _
    refine XS.iloadN X0.here hx rfl (hb hby d1_0) rfl  ?_
    show SP p e below (s₁.setTop (mkF m 1 #[vI p0, vI p1, vI p2] [(.int p0)])) _
    refine XS.ifNo X0.here hx rfl (hb hby d1_1) rfl ((if0 _ _).trans (teq (h0_ : p0 = (0 : Int32))).2) ?_
    exact k
  obtain ⟨T2, h2, X2, e2, E2, A2, D2, -, st2⟩ := newO X0 hx hZ hown (ow hw 5 rfl) (ow hw 6 rfl) (ow hw 7 rfl) e0 (g := (mkF m 4 #[vI p0, vI p1, vI p2] [])) rfl (hb hby d1_4) (by decide) (by decide)
  obtain ⟨b2, gb2⟩ : ∃ z, z = h0.size := ⟨_, rfl⟩
  rw [← gb2] at A2 D2 st2
  have sz_b2 : h0.size ≤ b2 := Nat.le_trans K0.1 (Nat.le_of_eq gb2.symm)
  have ge_b2 : n0 ≤ b2 := Nat.le_trans Z0 (Nat.le_of_eq gb2.symm)
  have st_COMP_2 := S_COMPACT_STRINGS.ext E2
  have st__ass_2 := S__assertionsDisabled.ext E2
  have st_HI_B_2 := S_HI_BYTE_SHIFT.ext E2
  have st_LO_B_2 := S_LO_BYTE_SHIFT.ext E2
  have K2 := K0.ext E2
  have Z2 := Nat.le_trans Z0 E2.1
  have szH_b2 : h0.size ≤ b2 := Nat.le_trans (Keep.refl h0 []).1 (Nat.le_of_eq gb2.symm)
  have KH2 := (Keep.refl h0 []).ext E2
  have F2_value : Fld Z h2 b2 "java/lang/String" "value" "[B" .null := D2 (Or.inr (ow hw 21 rfl)) (ty := (.array .byte)) (by decide)
  have F2_coder : Fld Z h2 b2 "java/lang/String" "coder" "B" (.int (0 : Int32)) := D2 (Or.inr (ow hw 22 rfl)) (ty := .byte) (by decide)
  have pre3 : ∀ t, SP p e below (T2.setTop (mkF m 9 #[vI p0, vI p1, vI p2] [(.int (0 : Int32)), (.ref b2), (.ref b2)])) t → SP p e below (s₁.setTop (entryFrame m #[(.int p0), (.int p1), (.int p2)] 3)) t := by
    intro t k
    refine pre1 t ?_
    show SP p e below (s₁.setTop (mkF m 4 #[vI p0, vI p1, vI p2] [])) _
    refine st2 _ ?_
    show SP p e below (T2.setTop (mkF m 7 #[vI p0, vI p1, vI p2] [(.ref b2)])) _
    refine XS.dup X2.here hx rfl (hb hby d1_7) rfl rfl ?_
    show SP p e below (T2.setTop (mkF m 8 #[vI p0, vI p1, vI p2] [(.ref b2), (.ref b2)])) _
    refine XS.iconst X2.here hx rfl (hb hby d1_8) ?_
    exact k
  obtain ⟨T4, h4, b4, gb4, X4, e4, E4, A4, st4⟩ := own_newP X2 hx hZ (ow hw 8 rfl) e2 (g := (mkF m 9 #[vI p0, vI p1, vI p2] [(.int (0 : Int32)), (.ref b2), (.ref b2)])) rfl (hb hby d1_9) rfl (by decide) (n := 0) rfl (G := fun i => .int (own_zI i)) (fun _ => rfl) (cap := 0) (by decide) (by decide) (by decide) (by decide)
  have ne_b2_b4 : b2 ≠ b4 := Nat.ne_of_lt (Nat.lt_of_lt_of_le A2.lt (Nat.le_of_eq gb4.symm))
  have sz_b4 : h0.size ≤ b4 := Nat.le_trans K2.1 (Nat.le_of_eq gb4.symm)
  have ge_b4 : n0 ≤ b4 := Nat.le_trans Z2 (Nat.le_of_eq gb4.symm)
  have st_COMP_4 := st_COMP_2.ext E4
  have st__ass_4 := st__ass_2.ext E4
  have st_HI_B_4 := st_HI_B_2.ext E4
  have st_LO_B_4 := st_LO_B_2.ext E4
  have exa_b2_4 := A2.ext E4
  have fld_b2_value_4 := F2_value.ext E4
  have fld_b2_coder_4 := F2_coder.ext E4
  have K4 := K2.ext E4
  have Z4 := Nat.le_trans Z2 E4.1
  have szH_b4 : h0.size ≤ b4 := Nat.le_trans KH2.1 (Nat.le_of_eq gb4.symm)
  have KH4 := KH2.ext E4
  have pre6 : ∀ t, SP p e below (T4.setTop (mkF m 11 #[vI p0, vI p1, vI p2] [(.ref b4), (.ref b2), (.ref b2)])) t → SP p e below (s₁.setTop (entryFrame m #[(.int p0), (.int p1), (.int p2)] 3)) t := by
    intro t k
    refine pre3 t ?_
    show SP p e below (T2.setTop (mkF m 9 #[vI p0, vI p1, vI p2] [(.int (0 : Int32)), (.ref b2), (.ref b2)])) _
    refine st4 _ ?_
    exact k
  obtain ⟨_, _, ⟨T5, L5, k5, n5⟩, -, X5, hS5, gr5, ⟨Lc5, hQ5, hH5, l5, y5, z5⟩, st5⟩ := X4.specialBackS hx (y := (⟨"java/lang/String", "<init>", "([C)V"⟩ : MethodName)) rfl hown (mvT hZ (ow hw 9 rfl)) (mvT hZ (ow hw 10 rfl)) (mvT hZ (ow hw 11 rfl)) (by decide) (own_backOfS (W := 1) (rm_2E l Z a0 hw [] b2 b4 own_zI cs_ h4 n0 Z4 exa_b2_4 fld_b2_value_4 fld_b2_coder_4 ge_b2 A4 ne_b2_b4 st_COMP_4 hcs) hZ (ow hw 11 rfl) (ow hw 7 rfl) (by decide) (by decide)) (g := (mkF m 11 #[vI p0, vI p1, vI p2] [(.ref b4), (.ref b2), (.ref b2)])) rfl (by rw [hml]; rfl) (Steps.refl _) (a := b2) (argsL := [(.ref b4)]) (rest := [(.ref b2)]) (lenOf pd_16 rfl) rfl own_le0 (hb hby d1_11) (fun _ hwv => ⟨rfl, e4, (hH.go (B := (s.setVm s.vm)) hZ wl hwv KH4 all0), (by decide : 2 + 2 ≤ _), (by decide : 4 + 4 ≤ _)⟩)
  dsimp only [Pt.U, Pt.locs, Pt.cells, Pt.slots] at X5 l5 y5 z5 st5 hQ5 hS5 gr5 hH5
  rw [l5, y5, z5] at X5
  obtain ⟨X5, hS5, hZ, hown⟩ := rebS (own := "com/example/tern/tern/store/HashIndexHashPinLaw") hS0 (Nat.le_trans KH4.1 (Nat.le_of_eq (congrArg Array.size (e4 : T4.heap = h4).symm))) X5 hS5 gr5 hZ hown
  obtain ⟨w_5, rfl, N5q, Kc5, Q5_0, Q5_1, Q5_2, Q5_3⟩ := hQ5
  have Kd5 : Keep h4 T5.heap [b2] := Kc5
  have st_COMP_5 := own_sta_keep st_COMP_4 Kd5 (allS (own_E_plain exa_b2_4) all0)
  have st__ass_5 := own_sta_keep st__ass_4 Kd5 (allS (own_E_plain exa_b2_4) all0)
  have st_HI_B_5 := own_sta_keep st_HI_B_4 Kd5 (allS (own_E_plain exa_b2_4) all0)
  have st_LO_B_5 := own_sta_keep st_LO_B_4 Kd5 (allS (own_E_plain exa_b2_4) all0)
  have exa_b2_5 := exa_b2_4.keep Kd5
  have arr_b4_5 := A4.keep Kd5 (ninS ne_b2_b4.symm nin0)
  have K5 := K4.trans Kd5 (allS (Or.inr sz_b2) all0)
  have Z5 := Nat.le_trans Z4 Kd5.1
  have N5 := Fr.app N0 N5q
  obtain ⟨fs, hr, hrun, hended, hW1, hW2, hW3, hsame⟩ := X5.leaveW hS5 (Nat.le_trans (Keep.refl T5.heap []).1 (Nat.le_of_eq (congrArg Array.size (rfl : T5.heap = T5.heap).symm))) (v := some (.ref b2)) (fun h => by rw [Bd.returns] at h; cases h) (BodyLoose.notSynchronized Bd)
  refine ⟨_, _, pre6 _ ?_, hrun, hended, _, _, rfl, ?_, ?_, hW1, hW2, hW3, hsame.mono (by decide) (by decide)⟩
  · show SP p e below (T4.setTop (mkF m 11 #[vI p0, vI p1, vI p2] [(.ref b4), (.ref b2), (.ref b2)])) _
    refine st5.trans ?_
    show SP p e below (T5.setTop (mkF m 14 #[vI p0, vI p1, vI p2] [(.ref b2)])) _
    exact retOut X5 hx Bd.returns rfl (Or.inr (Or.inr (Or.inr (Or.inr ⟨rfl, rfl, rfl⟩)))) (hb hby d1_14) hr
  · show Q_1a Z p0 p1 p2 cs_ h0 n0 _ T5.heap _
    have o1 := (by rfl : (f_2E_1 own_zI cs_) = f_1a_1 p0 p1 p2 cs_)
    have r1 := Q5_3
    rw [o1] at r1
    exact ⟨b2, w_5, rfl, N5, sz_b2, K5, Q5_0, Q5_1, Q5_2, r1⟩
  · show own_H own_cs Z T5.vm T5.heap
    exact (hH5.go (B := (s.setVm T5.vm)) hZ wl X5.warmed (Keep.refl T5.heap []) all0)
theorem pd_17 : parseMethodDescriptor "(C)Ljava/lang/String;" = some ⟨[.char], some (.object "java/lang/String")⟩ := by decide +kernel
theorem d1_15 : decode method_5_code 15 = .ok (.iload_n 0, 1) := by decide +kernel
theorem d1_16 : decode method_5_code 16 = .ok (.iconst 1, 1) := by decide +kernel
theorem d1_17 : decode method_5_code 17 = .ok (.if_icmp .ne 8, 3) := by decide +kernel
theorem d1_20 : decode method_5_code 20 = .ok (.iload_n 1, 1) := by decide +kernel
theorem d1_21 : decode method_5_code 21 = .ok (.invokestatic 41, 3) := by decide +kernel
theorem d1_24 : decode method_5_code 24 = .ok (.areturn, 1) := by decide +kernel
theorem ef_1bL (m : MethodId) (p0 : Int32) (p1 : Int32) (p2 : Int32) : entryFrame m #[(.int p0), (.int p1), (.int p2)] 3 = mkF m 0 #[vI p0, vI p1, vI p2] [] := by first | (simp [entryFrame, mkF, argsToLocals, Value.category]; done) | rfl
def f_1bL_1 (p0 : Int32) (p1 : Int32) (p2 : Int32) (cs_ : Int32) : Nat → Int32 := (f_7L_1 p1 cs_)
def Q_1bL (Z : State) (p0 : Int32) (p1 : Int32) (p2 : Int32) (cs_ : Int32) (h0 : Heap) (n0 : Nat) (v : Option Value) (h : Heap) (L : List Loc) : Prop := ∃ r : Addr, ∃ w : Addr, v = some (.ref r) ∧ Fr n0 L ∧ h0.size ≤ r ∧ Keep h0 h [] ∧ Exa Z h r "java/lang/String" ∧ Fld Z h r "java/lang/String" "value" "[B" (.ref w) ∧ Fld Z h r "java/lang/String" "coder" "B" (.int (0 : Int32)) ∧ own_A Z h w .byte 1 (fun i => .int ((f_1bL_1 p0 p1 p2 cs_) i))
theorem rm_1bL (l : Launch) (Z : State) (a0 : Array Value) (hw : ∀ d ∈ tables_1, d.before a0 Z = true) (ws : List Jvm.Cond) (p0 : Int32) (p1 : Int32) (p2 : Int32) (cs_ : Int32) (h0 : Heap) (n0 : Nat) (Z0 : n0 ≤ h0.size) (S_COMPACT_STRINGS : Sta Z h0 "java/lang/String" "COMPACT_STRINGS" "Z" (.int cs_)) (hcs : ¬ (cs_ = (0 : Int32))) (S__assertionsDisabled : Sta Z h0 "java/lang/StringUTF16" "$assertionsDisabled" "Z" (.int (1 : Int32))) (S_HI_BYTE_SHIFT : Sta Z h0 "java/lang/StringUTF16" "HI_BYTE_SHIFT" "I" (.int (0 : Int32))) (S_LO_BYTE_SHIFT : Sta Z h0 "java/lang/StringUTF16" "LO_BYTE_SHIFT" "I" (.int (8 : Int32))) (h0_ : ¬ (p0 = (0 : Int32))) (h1_ : p0 = (1 : Int32)) (hc_ : ¬ ((255 : Int32) < p1)) :
    MetFree l (⟨"com/example/tern/tern/store/HashIndexHashPinLaw", "text", "(ICC)Ljava/lang/String;"⟩ : MethodName) (head1 (Jvm.Cond.code (⟨"com/example/tern/tern/store/HashIndexHashPinLaw", "text", "(ICC)Ljava/lang/String;"⟩ : MethodName) method_5_code 3 (some (.object "java/lang/String")) :: ws) (⟨6, 4, 12, 88⟩ : Room)) (fun a U => a = #[(.int p0), (.int p1), (.int p2)] ∧ Z.Warmed39 U.vm ∧ U.heap = h0 ∧ own_H own_cs Z U.vm h0) (fun _ _ _ _ _ => True) (fun _ U o U' => ∃ v L, o = .returned v ∧ Q_1bL Z p0 p1 p2 cs_ h0 n0 v U'.heap L ∧ own_H own_cs Z U'.vm U'.heap ∧ ReturnedEndW U o U' L 4 12) := by
  refine MetFree.of_bodySF (plainFor_of_name pn_1) hisR ?_
  intro p e s m args below meth c s₁ Bd hml0 hP hK
  obtain ⟨rfl, hZ, hh, hH⟩ := hP
  have hx := Bd.exec
  have hby := Bd.bytes
  have hml : c.maxLocals = 3 := hml0
  have hown : s.vm.findClass "com/example/tern/tern/store/HashIndexHashPinLaw" = some m.cls := findClass_of_methodNamed Bd.named
  have hnm := (name_of_methodNamed Bd.named Bd.method).1
  have wl := own_wl hw
  have wS := own_wS hw
  have hS0 : s.Since s.vm h0.size := (State.WarmedH.refl s).since _
  have hZ : Z.Warmed39 (s.setVm s.vm).vm := hZ
  have hown : (s.setVm s.vm).vm.findClass "com/example/tern/tern/store/HashIndexHashPinLaw" = some m.cls := hown
  have hH : own_H own_cs Z (s.setVm s.vm).vm h0 := hH
  have X0 : Stand p l e (⟨6, 4, 12, 88⟩ : Room) (s.setVm s.vm) m #[(.int p0), (.int p1), (.int p2)] below meth c s₁ [] 0 0 := Stand.of_body Bd
  have e0 : s₁.heap = h0 := by rw [← hh, Bd.state]; rfl
  have N0 := Fr.nil n0
  have K0 : Keep h0 h0 [] := Keep.refl h0 _
  have pre0 : ∀ t, SP p e below (s₁.setTop (mkF m 0 #[vI p0, vI p1, vI p2] [])) t → SP p e below (s₁.setTop (entryFrame m #[(.int p0), (.int p1), (.int p2)] 3)) t := fun t k => castTop (ef_1bL m p0 p1 p2) k
  have pre2 : ∀ t, SP p e below (s₁.setTop (mkF m 21 #[vI p0, vI p1, vI p2] [(.int p1)])) t → SP p e below (s₁.setTop (entryFrame m #[(.int p0), (.int p1), (.int p2)] 3)) t := by
    intro t k
    refine pre0 t ?_
    show SP p e below (s₁.setTop (mkF m 0 #[vI p0, vI p1, vI p2] [])) _
    refine XS.iloadN X0.here hx rfl (hb hby d1_0) rfl  ?_
    show SP p e below (s₁.setTop (mkF m 1 #[vI p0, vI p1, vI p2] [(.int p0)])) _
    refine XS.ifYes X0.here hx rfl (pc0 := 1) (pc' := 15) rfl (hb hby d1_1) rfl ((if0 _ _).trans (feq (h0_ : ¬ (p0 = (0 : Int32)))).2) (by decide) (by decide) ?_
    show SP p e below (s₁.setTop (mkF m 15 #[vI p0, vI p1, vI p2] [])) _
    refine XS.iloadN X0.here hx rfl (hb hby d1_15) rfl  ?_
    show SP p e below (s₁.setTop (mkF m 16 #[vI p0, vI p1, vI p2] [(.int p0)])) _
    refine XS.iconst X0.here hx rfl (hb hby d1_16) ?_
    show SP p e below (s₁.setTop (mkF m 17 #[vI p0, vI p1, vI p2] [(.int (1 : Int32)), (.int p0)])) _
    refine XS.icmpNo X0.here hx rfl (hb hby d1_17) rfl (teq (h1_ : p0 = (1 : Int32))).2 ?_
    show SP p e below (s₁.setTop (mkF m 20 #[vI p0, vI p1, vI p2] [])) _
    refine XS.iloadN X0.here hx rfl (hb hby d1_20) rfl  ?_
    exact k
  obtain ⟨_, _, ⟨T1, L1, k1, n1⟩, -, X1, ⟨Lc1, hQ1, l1, y1, z1⟩, st1⟩ := Jvm.LawKit.callS X0 hx (y := (⟨"java/lang/String", "valueOf", "(C)Ljava/lang/String;"⟩ : MethodName)) hown (mvT hZ (ow hw 41 rfl)) (mvT hZ (ow hw 42 rfl)) (mvT hZ (ow hw 7 rfl)) (mvT hZ (ow hw 43 rfl)) (by decide) (backOf (W := 0) (rm_7L l Z a0 hw [] p1 cs_ h0 n0 Z0 S_COMPACT_STRINGS hcs hc_) hZ (ow hw 43 rfl) (ow hw 7 rfl) (by decide) (by decide)) (g := (mkF m 21 #[vI p0, vI p1, vI p2] [(.int p1)])) rfl (by rw [hml]; rfl) (argsL := [(.int p1)]) (rest := []) (lenOf pd_17 rfl) rfl own_le0 (hb hby d1_21) (fun _ _ => ⟨rfl, e0, (by decide : 0 + 2 ≤ _), (by decide : 0 + 5 ≤ _)⟩)
  dsimp only [Pt.U, Pt.locs, Pt.cells, Pt.slots] at X1 l1 y1 z1 st1 hQ1
  rw [l1, y1, z1] at X1
  obtain ⟨r_1, w_1, rfl, N1q, sz0_r_1, Kc1, Q1_0, Q1_1, Q1_2, Q1_3⟩ := hQ1
  have Kd1 : Keep h0 T1.heap [] := Kc1
  have sz_r_1 : h0.size ≤ r_1 := Nat.le_trans K0.1 sz0_r_1
  have ge_r_1 : n0 ≤ r_1 := Nat.le_trans Z0 sz0_r_1
  have st_COMP_1 := own_sta_keep S_COMPACT_STRINGS Kd1 all0
  have st__ass_1 := own_sta_keep S__assertionsDisabled Kd1 all0
  have st_HI_B_1 := own_sta_keep S_HI_BYTE_SHIFT Kd1 all0
  have st_LO_B_1 := own_sta_keep S_LO_BYTE_SHIFT Kd1 all0
  have K1 := K0.trans Kd1 all0
  have Z1 := Nat.le_trans Z0 Kd1.1
  have KH1 := (Keep.refl h0 []).trans Kd1 all0
  have N1 := Fr.app N0 N1q
  obtain ⟨fs, hr, hrun, hended, hW1, hW2, hW3, hsame⟩ := X1.leaveW hS0 (Nat.le_trans KH1.1 (Nat.le_of_eq (congrArg Array.size (rfl : T1.heap = T1.heap).symm))) (v := some (.ref r_1)) (fun h => by rw [Bd.returns] at h; cases h) (BodyLoose.notSynchronized Bd)
  refine ⟨_, _, pre2 _ ?_, hrun, hended, _, _, rfl, ?_, ?_, hW1, hW2, hW3, hsame.mono (by decide) (by decide)⟩
  · show SP p e below (s₁.setTop (mkF m 21 #[vI p0, vI p1, vI p2] [(.int p1)])) _
    refine st1 _ ?_
    show SP p e below (T1.setTop (mkF m 24 #[vI p0, vI p1, vI p2] [(.ref r_1)])) _
    exact retOut X1 hx Bd.returns rfl (Or.inr (Or.inr (Or.inr (Or.inr ⟨rfl, rfl, rfl⟩)))) (hb hby d1_24) hr
  · show Q_1bL Z p0 p1 p2 cs_ h0 n0 _ T1.heap _
    have o1 := (by rfl : (f_7L_1 p1 cs_) = f_1bL_1 p0 p1 p2 cs_)
    have r1 := Q1_3
    rw [o1] at r1
    exact ⟨r_1, w_1, rfl, N1, sz_r_1, K1, Q1_0, Q1_1, Q1_2, r1⟩
  · show own_H own_cs Z T1.vm T1.heap
    exact (hH.go (B := (s.setVm s.vm)) hZ wl X1.warmed KH1 all0)
theorem ef_1bU (m : MethodId) (p0 : Int32) (p1 : Int32) (p2 : Int32) : entryFrame m #[(.int p0), (.int p1), (.int p2)] 3 = mkF m 0 #[vI p0, vI p1, vI p2] [] := by first | (simp [entryFrame, mkF, argsToLocals, Value.category]; done) | rfl
def f_1bU_1 (p0 : Int32) (p1 : Int32) (p2 : Int32) (cs_ : Int32) : Nat → Int32 := (f_7U_1 p1 cs_)
def Q_1bU (Z : State) (p0 : Int32) (p1 : Int32) (p2 : Int32) (cs_ : Int32) (h0 : Heap) (n0 : Nat) (v : Option Value) (h : Heap) (L : List Loc) : Prop := ∃ r : Addr, ∃ w : Addr, v = some (.ref r) ∧ Fr n0 L ∧ h0.size ≤ r ∧ Keep h0 h [] ∧ Exa Z h r "java/lang/String" ∧ Fld Z h r "java/lang/String" "value" "[B" (.ref w) ∧ Fld Z h r "java/lang/String" "coder" "B" (.int (1 : Int32)) ∧ own_A Z h w .byte 2 (fun i => .int ((f_1bU_1 p0 p1 p2 cs_) i))
theorem rm_1bU (l : Launch) (Z : State) (a0 : Array Value) (hw : ∀ d ∈ tables_1, d.before a0 Z = true) (ws : List Jvm.Cond) (p0 : Int32) (p1 : Int32) (p2 : Int32) (cs_ : Int32) (h0 : Heap) (n0 : Nat) (Z0 : n0 ≤ h0.size) (S_COMPACT_STRINGS : Sta Z h0 "java/lang/String" "COMPACT_STRINGS" "Z" (.int cs_)) (hcs : ¬ (cs_ = (0 : Int32))) (S__assertionsDisabled : Sta Z h0 "java/lang/StringUTF16" "$assertionsDisabled" "Z" (.int (1 : Int32))) (S_HI_BYTE_SHIFT : Sta Z h0 "java/lang/StringUTF16" "HI_BYTE_SHIFT" "I" (.int (0 : Int32))) (S_LO_BYTE_SHIFT : Sta Z h0 "java/lang/StringUTF16" "LO_BYTE_SHIFT" "I" (.int (8 : Int32))) (h0_ : ¬ (p0 = (0 : Int32))) (h1_ : p0 = (1 : Int32)) (hc_ : (255 : Int32) < p1) :
    MetFree l (⟨"com/example/tern/tern/store/HashIndexHashPinLaw", "text", "(ICC)Ljava/lang/String;"⟩ : MethodName) (head1 (Jvm.Cond.code (⟨"com/example/tern/tern/store/HashIndexHashPinLaw", "text", "(ICC)Ljava/lang/String;"⟩ : MethodName) method_5_code 3 (some (.object "java/lang/String")) :: ws) (⟨6, 4, 12, 88⟩ : Room)) (fun a U => a = #[(.int p0), (.int p1), (.int p2)] ∧ Z.Warmed39 U.vm ∧ U.heap = h0 ∧ own_H own_cs Z U.vm h0) (fun _ _ _ _ _ => True) (fun _ U o U' => ∃ v L, o = .returned v ∧ Q_1bU Z p0 p1 p2 cs_ h0 n0 v U'.heap L ∧ own_H own_cs Z U'.vm U'.heap ∧ ReturnedEndW U o U' L 4 12) := by
  refine MetFree.of_bodySF (plainFor_of_name pn_1) hisR ?_
  intro p e s m args below meth c s₁ Bd hml0 hP hK
  obtain ⟨rfl, hZ, hh, hH⟩ := hP
  have hx := Bd.exec
  have hby := Bd.bytes
  have hml : c.maxLocals = 3 := hml0
  have hown : s.vm.findClass "com/example/tern/tern/store/HashIndexHashPinLaw" = some m.cls := findClass_of_methodNamed Bd.named
  have hnm := (name_of_methodNamed Bd.named Bd.method).1
  have wl := own_wl hw
  have wS := own_wS hw
  have hS0 : s.Since s.vm h0.size := (State.WarmedH.refl s).since _
  have hZ : Z.Warmed39 (s.setVm s.vm).vm := hZ
  have hown : (s.setVm s.vm).vm.findClass "com/example/tern/tern/store/HashIndexHashPinLaw" = some m.cls := hown
  have hH : own_H own_cs Z (s.setVm s.vm).vm h0 := hH
  have X0 : Stand p l e (⟨6, 4, 12, 88⟩ : Room) (s.setVm s.vm) m #[(.int p0), (.int p1), (.int p2)] below meth c s₁ [] 0 0 := Stand.of_body Bd
  have e0 : s₁.heap = h0 := by rw [← hh, Bd.state]; rfl
  have N0 := Fr.nil n0
  have K0 : Keep h0 h0 [] := Keep.refl h0 _
  have pre0 : ∀ t, SP p e below (s₁.setTop (mkF m 0 #[vI p0, vI p1, vI p2] [])) t → SP p e below (s₁.setTop (entryFrame m #[(.int p0), (.int p1), (.int p2)] 3)) t := fun t k => castTop (ef_1bU m p0 p1 p2) k
  have pre2 : ∀ t, SP p e below (s₁.setTop (mkF m 21 #[vI p0, vI p1, vI p2] [(.int p1)])) t → SP p e below (s₁.setTop (entryFrame m #[(.int p0), (.int p1), (.int p2)] 3)) t := by
    intro t k
    refine pre0 t ?_
    show SP p e below (s₁.setTop (mkF m 0 #[vI p0, vI p1, vI p2] [])) _
    refine XS.iloadN X0.here hx rfl (hb hby d1_0) rfl  ?_
    show SP p e below (s₁.setTop (mkF m 1 #[vI p0, vI p1, vI p2] [(.int p0)])) _
    refine XS.ifYes X0.here hx rfl (pc0 := 1) (pc' := 15) rfl (hb hby d1_1) rfl ((if0 _ _).trans (feq (h0_ : ¬ (p0 = (0 : Int32)))).2) (by decide) (by decide) ?_
    show SP p e below (s₁.setTop (mkF m 15 #[vI p0, vI p1, vI p2] [])) _
    refine XS.iloadN X0.here hx rfl (hb hby d1_15) rfl  ?_
    show SP p e below (s₁.setTop (mkF m 16 #[vI p0, vI p1, vI p2] [(.int p0)])) _
    refine XS.iconst X0.here hx rfl (hb hby d1_16) ?_
    show SP p e below (s₁.setTop (mkF m 17 #[vI p0, vI p1, vI p2] [(.int (1 : Int32)), (.int p0)])) _
    refine XS.icmpNo X0.here hx rfl (hb hby d1_17) rfl (teq (h1_ : p0 = (1 : Int32))).2 ?_
    show SP p e below (s₁.setTop (mkF m 20 #[vI p0, vI p1, vI p2] [])) _
    refine XS.iloadN X0.here hx rfl (hb hby d1_20) rfl  ?_
    exact k
  obtain ⟨_, _, ⟨T1, L1, k1, n1⟩, -, X1, ⟨Lc1, hQ1, l1, y1, z1⟩, st1⟩ := Jvm.LawKit.callS X0 hx (y := (⟨"java/lang/String", "valueOf", "(C)Ljava/lang/String;"⟩ : MethodName)) hown (mvT hZ (ow hw 41 rfl)) (mvT hZ (ow hw 42 rfl)) (mvT hZ (ow hw 7 rfl)) (mvT hZ (ow hw 43 rfl)) (by decide) (backOf (W := 0) (rm_7U l Z a0 hw [] p1 cs_ h0 n0 Z0 S_COMPACT_STRINGS hcs S__assertionsDisabled S_HI_BYTE_SHIFT S_LO_BYTE_SHIFT hc_) hZ (ow hw 43 rfl) (ow hw 7 rfl) (by decide) (by decide)) (g := (mkF m 21 #[vI p0, vI p1, vI p2] [(.int p1)])) rfl (by rw [hml]; rfl) (argsL := [(.int p1)]) (rest := []) (lenOf pd_17 rfl) rfl own_le0 (hb hby d1_21) (fun _ _ => ⟨rfl, e0, (by decide : 0 + 2 ≤ _), (by decide : 0 + 6 ≤ _)⟩)
  dsimp only [Pt.U, Pt.locs, Pt.cells, Pt.slots] at X1 l1 y1 z1 st1 hQ1
  rw [l1, y1, z1] at X1
  obtain ⟨r_1, w_1, rfl, N1q, sz0_r_1, Kc1, Q1_0, Q1_1, Q1_2, Q1_3⟩ := hQ1
  have Kd1 : Keep h0 T1.heap [] := Kc1
  have sz_r_1 : h0.size ≤ r_1 := Nat.le_trans K0.1 sz0_r_1
  have ge_r_1 : n0 ≤ r_1 := Nat.le_trans Z0 sz0_r_1
  have st_COMP_1 := own_sta_keep S_COMPACT_STRINGS Kd1 all0
  have st__ass_1 := own_sta_keep S__assertionsDisabled Kd1 all0
  have st_HI_B_1 := own_sta_keep S_HI_BYTE_SHIFT Kd1 all0
  have st_LO_B_1 := own_sta_keep S_LO_BYTE_SHIFT Kd1 all0
  have K1 := K0.trans Kd1 all0
  have Z1 := Nat.le_trans Z0 Kd1.1
  have KH1 := (Keep.refl h0 []).trans Kd1 all0
  have N1 := Fr.app N0 N1q
  obtain ⟨fs, hr, hrun, hended, hW1, hW2, hW3, hsame⟩ := X1.leaveW hS0 (Nat.le_trans KH1.1 (Nat.le_of_eq (congrArg Array.size (rfl : T1.heap = T1.heap).symm))) (v := some (.ref r_1)) (fun h => by rw [Bd.returns] at h; cases h) (BodyLoose.notSynchronized Bd)
  refine ⟨_, _, pre2 _ ?_, hrun, hended, _, _, rfl, ?_, ?_, hW1, hW2, hW3, hsame.mono (by decide) (by decide)⟩
  · show SP p e below (s₁.setTop (mkF m 21 #[vI p0, vI p1, vI p2] [(.int p1)])) _
    refine st1 _ ?_
    show SP p e below (T1.setTop (mkF m 24 #[vI p0, vI p1, vI p2] [(.ref r_1)])) _
    exact retOut X1 hx Bd.returns rfl (Or.inr (Or.inr (Or.inr (Or.inr ⟨rfl, rfl, rfl⟩)))) (hb hby d1_24) hr
  · show Q_1bU Z p0 p1 p2 cs_ h0 n0 _ T1.heap _
    have o1 := (by rfl : (f_7U_1 p1 cs_) = f_1bU_1 p0 p1 p2 cs_)
    have r1 := Q1_3
    rw [o1] at r1
    exact ⟨r_1, w_1, rfl, N1, sz_r_1, K1, Q1_0, Q1_1, Q1_2, r1⟩
  · show own_H own_cs Z T1.vm T1.heap
    exact (hH.go (B := (s.setVm s.vm)) hZ wl X1.warmed KH1 all0)
theorem d1_25 : decode method_5_code 25 = .ok (.new 16, 3) := by decide +kernel
theorem d1_28 : decode method_5_code 28 = .ok (.dup, 1) := by decide +kernel
theorem d1_29 : decode method_5_code 29 = .ok (.iconst 2, 1) := by decide +kernel
theorem d1_30 : decode method_5_code 30 = .ok (.newarray .char, 2) := by decide +kernel
theorem d1_32 : decode method_5_code 32 = .ok (.dup, 1) := by decide +kernel
theorem d1_33 : decode method_5_code 33 = .ok (.iconst 0, 1) := by decide +kernel
theorem d1_34 : decode method_5_code 34 = .ok (.iload_n 1, 1) := by decide +kernel
theorem d1_35 : decode method_5_code 35 = .ok (.castore, 1) := by decide +kernel
theorem d1_36 : decode method_5_code 36 = .ok (.dup, 1) := by decide +kernel
theorem d1_37 : decode method_5_code 37 = .ok (.iconst 1, 1) := by decide +kernel
theorem d1_38 : decode method_5_code 38 = .ok (.iload_n 2, 1) := by decide +kernel
theorem d1_39 : decode method_5_code 39 = .ok (.castore, 1) := by decide +kernel
theorem d1_40 : decode method_5_code 40 = .ok (.invokespecial 38, 3) := by decide +kernel
theorem d1_43 : decode method_5_code 43 = .ok (.areturn, 1) := by decide +kernel
theorem ef_1cL (m : MethodId) (p0 : Int32) (p1 : Int32) (p2 : Int32) : entryFrame m #[(.int p0), (.int p1), (.int p2)] 3 = mkF m 0 #[vI p0, vI p1, vI p2] [] := by first | (simp [entryFrame, mkF, argsToLocals, Value.category]; done) | rfl
def f_1cL_1 (p0 : Int32) (p1 : Int32) (p2 : Int32) (cs_ : Int32) : Nat → Int32 := let g_35 : Nat → Int32 := (own_upd own_zI 0 p1.toUInt32.toUInt16.toUInt32.toInt32); let g_39 : Nat → Int32 := (own_upd g_35 1 p2.toUInt32.toUInt16.toUInt32.toInt32); (f_2L_1 g_39 cs_)
def Q_1cL (Z : State) (p0 : Int32) (p1 : Int32) (p2 : Int32) (cs_ : Int32) (h0 : Heap) (n0 : Nat) (v : Option Value) (h : Heap) (L : List Loc) : Prop := ∃ r : Addr, ∃ w : Addr, v = some (.ref r) ∧ Fr n0 L ∧ h0.size ≤ r ∧ Keep h0 h [] ∧ Exa Z h r "java/lang/String" ∧ Fld Z h r "java/lang/String" "value" "[B" (.ref w) ∧ Fld Z h r "java/lang/String" "coder" "B" (.int (0 : Int32)) ∧ own_A Z h w .byte 2 (fun i => .int ((f_1cL_1 p0 p1 p2 cs_) i))
theorem rm_1cL (l : Launch) (Z : State) (a0 : Array Value) (hw : ∀ d ∈ tables_1, d.before a0 Z = true) (ws : List Jvm.Cond) (p0 : Int32) (p1 : Int32) (p2 : Int32) (cs_ : Int32) (h0 : Heap) (n0 : Nat) (Z0 : n0 ≤ h0.size) (S_COMPACT_STRINGS : Sta Z h0 "java/lang/String" "COMPACT_STRINGS" "Z" (.int cs_)) (hcs : ¬ (cs_ = (0 : Int32))) (S__assertionsDisabled : Sta Z h0 "java/lang/StringUTF16" "$assertionsDisabled" "Z" (.int (1 : Int32))) (S_HI_BYTE_SHIFT : Sta Z h0 "java/lang/StringUTF16" "HI_BYTE_SHIFT" "I" (.int (0 : Int32))) (S_LO_BYTE_SHIFT : Sta Z h0 "java/lang/StringUTF16" "LO_BYTE_SHIFT" "I" (.int (8 : Int32))) (h0_ : ¬ (p0 = (0 : Int32))) (h1_ : ¬ (p0 = (1 : Int32))) (hc_ : ¬ ((255 : Int32) < p1.toUInt32.toUInt16.toUInt32.toInt32)) (hd_ : ¬ ((255 : Int32) < p2.toUInt32.toUInt16.toUInt32.toInt32)) :
    MetFree l (⟨"com/example/tern/tern/store/HashIndexHashPinLaw", "text", "(ICC)Ljava/lang/String;"⟩ : MethodName) (head1 (Jvm.Cond.code (⟨"com/example/tern/tern/store/HashIndexHashPinLaw", "text", "(ICC)Ljava/lang/String;"⟩ : MethodName) method_5_code 3 (some (.object "java/lang/String")) :: ws) (⟨6, 4, 12, 88⟩ : Room)) (fun a U => a = #[(.int p0), (.int p1), (.int p2)] ∧ Z.Warmed39 U.vm ∧ U.heap = h0 ∧ own_H own_cs Z U.vm h0) (fun _ _ _ _ _ => True) (fun _ U o U' => ∃ v L, o = .returned v ∧ Q_1cL Z p0 p1 p2 cs_ h0 n0 v U'.heap L ∧ own_H own_cs Z U'.vm U'.heap ∧ ReturnedEndW U o U' L 4 12) := by
  refine MetFree.of_bodySF (plainFor_of_name pn_1) hisR ?_
  intro p e s m args below meth c s₁ Bd hml0 hP hK
  obtain ⟨rfl, hZ, hh, hH⟩ := hP
  have hx := Bd.exec
  have hby := Bd.bytes
  have hml : c.maxLocals = 3 := hml0
  have hown : s.vm.findClass "com/example/tern/tern/store/HashIndexHashPinLaw" = some m.cls := findClass_of_methodNamed Bd.named
  have hnm := (name_of_methodNamed Bd.named Bd.method).1
  have wl := own_wl hw
  have wS := own_wS hw
  have hS0 : s.Since s.vm h0.size := (State.WarmedH.refl s).since _
  have hZ : Z.Warmed39 (s.setVm s.vm).vm := hZ
  have hown : (s.setVm s.vm).vm.findClass "com/example/tern/tern/store/HashIndexHashPinLaw" = some m.cls := hown
  have hH : own_H own_cs Z (s.setVm s.vm).vm h0 := hH
  have X0 : Stand p l e (⟨6, 4, 12, 88⟩ : Room) (s.setVm s.vm) m #[(.int p0), (.int p1), (.int p2)] below meth c s₁ [] 0 0 := Stand.of_body Bd
  have e0 : s₁.heap = h0 := by rw [← hh, Bd.state]; rfl
  have N0 := Fr.nil n0
  have K0 : Keep h0 h0 [] := Keep.refl h0 _
  have pre0 : ∀ t, SP p e below (s₁.setTop (mkF m 0 #[vI p0, vI p1, vI p2] [])) t → SP p e below (s₁.setTop (entryFrame m #[(.int p0), (.int p1), (.int p2)] 3)) t := fun t k => castTop (ef_1cL m p0 p1 p2) k
  have pre1 : ∀ t, SP p e below (s₁.setTop (mkF m 25 #[vI p0, vI p1, vI p2] [])) t → SP p e below (s₁.setTop (entryFrame m #[(.int p0), (.int p1), (.int p2)] 3)) t := by
    intro t k
    refine pre0 t ?_
    show SP p e below (s₁.setTop (mkF m 0 #[vI p0, vI p1, vI p2] [])) _
    refine XS.iloadN X0.here hx rfl (hb hby d1_0) rfl  ?_
    show SP p e below (s₁.setTop (mkF m 1 #[vI p0, vI p1, vI p2] [(.int p0)])) _
    refine XS.ifYes X0.here hx rfl (pc0 := 1) (pc' := 15) rfl (hb hby d1_1) rfl ((if0 _ _).trans (feq (h0_ : ¬ (p0 = (0 : Int32)))).2) (by decide) (by decide) ?_
    show SP p e below (s₁.setTop (mkF m 15 #[vI p0, vI p1, vI p2] [])) _
    refine XS.iloadN X0.here hx rfl (hb hby d1_15) rfl  ?_
    show SP p e below (s₁.setTop (mkF m 16 #[vI p0, vI p1, vI p2] [(.int p0)])) _
    refine XS.iconst X0.here hx rfl (hb hby d1_16) ?_
    show SP p e below (s₁.setTop (mkF m 17 #[vI p0, vI p1, vI p2] [(.int (1 : Int32)), (.int p0)])) _
    refine XS.icmpYes X0.here hx rfl (pc0 := 17) (pc' := 25) rfl (hb hby d1_17) rfl (feq (h1_ : ¬ (p0 = (1 : Int32)))).2 (by decide) (by decide) ?_
    exact k
  obtain ⟨T2, h2, X2, e2, E2, A2, D2, -, st2⟩ := newO X0 hx hZ hown (ow hw 5 rfl) (ow hw 6 rfl) (ow hw 7 rfl) e0 (g := (mkF m 25 #[vI p0, vI p1, vI p2] [])) rfl (hb hby d1_25) (by decide) (by decide)
  obtain ⟨b2, gb2⟩ : ∃ z, z = h0.size := ⟨_, rfl⟩
  rw [← gb2] at A2 D2 st2
  have sz_b2 : h0.size ≤ b2 := Nat.le_trans K0.1 (Nat.le_of_eq gb2.symm)
  have ge_b2 : n0 ≤ b2 := Nat.le_trans Z0 (Nat.le_of_eq gb2.symm)
  have st_COMP_2 := S_COMPACT_STRINGS.ext E2
  have st__ass_2 := S__assertionsDisabled.ext E2
  have st_HI_B_2 := S_HI_BYTE_SHIFT.ext E2
  have st_LO_B_2 := S_LO_BYTE_SHIFT.ext E2
  have K2 := K0.ext E2
  have Z2 := Nat.le_trans Z0 E2.1
  have szH_b2 : h0.size ≤ b2 := Nat.le_trans (Keep.refl h0 []).1 (Nat.le_of_eq gb2.symm)
  have KH2 := (Keep.refl h0 []).ext E2
  have F2_value : Fld Z h2 b2 "java/lang/String" "value" "[B" .null := D2 (Or.inr (ow hw 21 rfl)) (ty := (.array .byte)) (by decide)
  have F2_coder : Fld Z h2 b2 "java/lang/String" "coder" "B" (.int (0 : Int32)) := D2 (Or.inr (ow hw 22 rfl)) (ty := .byte) (by decide)
  have pre3 : ∀ t, SP p e below (T2.setTop (mkF m 30 #[vI p0, vI p1, vI p2] [(.int (2 : Int32)), (.ref b2), (.ref b2)])) t → SP p e below (s₁.setTop (entryFrame m #[(.int p0), (.int p1), (.int p2)] 3)) t := by
    intro t k
    refine pre1 t ?_
    show SP p e below (s₁.setTop (mkF m 25 #[vI p0, vI p1, vI p2] [])) _
    refine st2 _ ?_
    show SP p e below (T2.setTop (mkF m 28 #[vI p0, vI p1, vI p2] [(.ref b2)])) _
    refine XS.dup X2.here hx rfl (hb hby d1_28) rfl rfl ?_
    show SP p e below (T2.setTop (mkF m 29 #[vI p0, vI p1, vI p2] [(.ref b2), (.ref b2)])) _
    refine XS.iconst X2.here hx rfl (hb hby d1_29) ?_
    exact k
  obtain ⟨T4, h4, b4, gb4, X4, e4, E4, A4, st4⟩ := own_newP X2 hx hZ (ow hw 8 rfl) e2 (g := (mkF m 30 #[vI p0, vI p1, vI p2] [(.int (2 : Int32)), (.ref b2), (.ref b2)])) rfl (hb hby d1_30) rfl (by decide) (n := 2) rfl (G := fun i => .int (own_zI i)) (fun _ => rfl) (cap := 2) (by decide) (by decide) (by decide) (by decide)
  have ne_b2_b4 : b2 ≠ b4 := Nat.ne_of_lt (Nat.lt_of_lt_of_le A2.lt (Nat.le_of_eq gb4.symm))
  have sz_b4 : h0.size ≤ b4 := Nat.le_trans K2.1 (Nat.le_of_eq gb4.symm)
  have ge_b4 : n0 ≤ b4 := Nat.le_trans Z2 (Nat.le_of_eq gb4.symm)
  have st_COMP_4 := st_COMP_2.ext E4
  have st__ass_4 := st__ass_2.ext E4
  have st_HI_B_4 := st_HI_B_2.ext E4
  have st_LO_B_4 := st_LO_B_2.ext E4
  have exa_b2_4 := A2.ext E4
  have fld_b2_value_4 := F2_value.ext E4
  have fld_b2_coder_4 := F2_coder.ext E4
  have K4 := K2.ext E4
  have Z4 := Nat.le_trans Z2 E4.1
  have szH_b4 : h0.size ≤ b4 := Nat.le_trans KH2.1 (Nat.le_of_eq gb4.symm)
  have KH4 := KH2.ext E4
  have pre5 : ∀ t, SP p e below (T4.setTop (mkF m 35 #[vI p0, vI p1, vI p2] [(.int p1), (.int (0 : Int32)), (.ref b4), (.ref b4), (.ref b2), (.ref b2)])) t → SP p e below (s₁.setTop (entryFrame m #[(.int p0), (.int p1), (.int p2)] 3)) t := by
    intro t k
    refine pre3 t ?_
    show SP p e below (T2.setTop (mkF m 30 #[vI p0, vI p1, vI p2] [(.int (2 : Int32)), (.ref b2), (.ref b2)])) _
    refine st4 _ ?_
    show SP p e below (T4.setTop (mkF m 32 #[vI p0, vI p1, vI p2] [(.ref b4), (.ref b2), (.ref b2)])) _
    refine XS.dup X4.here hx rfl (hb hby d1_32) rfl rfl ?_
    show SP p e below (T4.setTop (mkF m 33 #[vI p0, vI p1, vI p2] [(.ref b4), (.ref b4), (.ref b2), (.ref b2)])) _
    refine XS.iconst X4.here hx rfl (hb hby d1_33) ?_
    show SP p e below (T4.setTop (mkF m 34 #[vI p0, vI p1, vI p2] [(.int (0 : Int32)), (.ref b4), (.ref b4), (.ref b2), (.ref b2)])) _
    refine XS.iloadN X4.here hx rfl (hb hby d1_34) rfl  ?_
    exact k
  obtain ⟨T6, h6, X6, e6, W6, A6, st6⟩ := own_stC X4 hx hZ e4 A4 (j := (0 : Int32)) (x := p1) (k := 0) (by decide) (by decide) (by decide) (g := (mkF m 35 #[vI p0, vI p1, vI p2] [(.int p1), (.int (0 : Int32)), (.ref b4), (.ref b4), (.ref b2), (.ref b2)])) rfl rfl (hb hby d1_35)
  obtain ⟨g_35, hg_35⟩ : ∃ z : Nat → Int32, z = (own_upd own_zI 0 p1.toUInt32.toUInt16.toUInt32.toInt32) := ⟨_, rfl⟩
  rw [← hg_35] at A6
  have st_COMP_6 := st_COMP_4.wr W6
  have st__ass_6 := st__ass_4.wr W6
  have st_HI_B_6 := st_HI_B_4.wr W6
  have st_LO_B_6 := st_LO_B_4.wr W6
  have exa_b2_6 := exa_b2_4.wr W6
  have fld_b2_value_6 := fld_b2_value_4.other W6 (Or.inl ne_b2_b4)
  have fld_b2_coder_6 := fld_b2_coder_4.other W6 (Or.inl ne_b2_b4)
  have K6 := K4.wr W6 (Or.inr sz_b4)
  have Z6 := Nat.le_trans Z4 (Nat.le_of_eq W6.size.symm)
  have N6 := Fr.snoc X6 N0 ge_b4
  have KH6 := KH4.wr W6 (Or.inr szH_b4)
  have pre7 : ∀ t, SP p e below (T6.setTop (mkF m 39 #[vI p0, vI p1, vI p2] [(.int p2), (.int (1 : Int32)), (.ref b4), (.ref b4), (.ref b2), (.ref b2)])) t → SP p e below (s₁.setTop (entryFrame m #[(.int p0), (.int p1), (.int p2)] 3)) t := by
    intro t k
    refine pre5 t ?_
    show SP p e below (T4.setTop (mkF m 35 #[vI p0, vI p1, vI p2] [(.int p1), (.int (0 : Int32)), (.ref b4), (.ref b4), (.ref b2), (.ref b2)])) _
    refine st6 _ ?_
    show SP p e below (T6.setTop (mkF m 36 #[vI p0, vI p1, vI p2] [(.ref b4), (.ref b2), (.ref b2)])) _
    refine XS.dup X6.here hx rfl (hb hby d1_36) rfl rfl ?_
    show SP p e below (T6.setTop (mkF m 37 #[vI p0, vI p1, vI p2] [(.ref b4), (.ref b4), (.ref b2), (.ref b2)])) _
    refine XS.iconst X6.here hx rfl (hb hby d1_37) ?_
    show SP p e below (T6.setTop (mkF m 38 #[vI p0, vI p1, vI p2] [(.int (1 : Int32)), (.ref b4), (.ref b4), (.ref b2), (.ref b2)])) _
    refine XS.iloadN X6.here hx rfl (hb hby d1_38) rfl  ?_
    exact k
  obtain ⟨T8, h8, X8, e8, W8, A8, st8⟩ := own_stC X6 hx hZ e6 A6 (j := (1 : Int32)) (x := p2) (k := 1) (by decide) (by decide) (by decide) (g := (mkF m 39 #[vI p0, vI p1, vI p2] [(.int p2), (.int (1 : Int32)), (.ref b4), (.ref b4), (.ref b2), (.ref b2)])) rfl rfl (hb hby d1_39)
  obtain ⟨g_39, hg_39⟩ : ∃ z : Nat → Int32, z = (own_upd g_35 1 p2.toUInt32.toUInt16.toUInt32.toInt32) := ⟨_, rfl⟩
  rw [← hg_39] at A8
  have st_COMP_8 := st_COMP_6.wr W8
  have st__ass_8 := st__ass_6.wr W8
  have st_HI_B_8 := st_HI_B_6.wr W8
  have st_LO_B_8 := st_LO_B_6.wr W8
  have exa_b2_8 := exa_b2_6.wr W8
  have fld_b2_value_8 := fld_b2_value_6.other W8 (Or.inl ne_b2_b4)
  have fld_b2_coder_8 := fld_b2_coder_6.other W8 (Or.inl ne_b2_b4)
  have K8 := K6.wr W8 (Or.inr sz_b4)
  have Z8 := Nat.le_trans Z6 (Nat.le_of_eq W8.size.symm)
  have N8 := Fr.snoc X8 N6 ge_b4
  have KH8 := KH6.wr W8 (Or.inr szH_b4)
  have pre10 : ∀ t, SP p e below (T8.setTop (mkF m 40 #[vI p0, vI p1, vI p2] [(.ref b4), (.ref b2), (.ref b2)])) t → SP p e below (s₁.setTop (entryFrame m #[(.int p0), (.int p1), (.int p2)] 3)) t := by
    intro t k
    refine pre7 t ?_
    show SP p e below (T6.setTop (mkF m 39 #[vI p0, vI p1, vI p2] [(.int p2), (.int (1 : Int32)), (.ref b4), (.ref b4), (.ref b2), (.ref b2)])) _
    refine st8 _ ?_
    exact k
  obtain ⟨_, _, ⟨T9, L9, k9, n9⟩, -, X9, ⟨Lc9, hQ9, l9, y9, z9⟩, st9⟩ := X8.specialBack hx (y := (⟨"java/lang/String", "<init>", "([C)V"⟩ : MethodName)) rfl hown (mvT hZ (ow hw 9 rfl)) (mvT hZ (ow hw 10 rfl)) (mvT hZ (ow hw 11 rfl)) (by decide) (backOf (W := 1) (rm_2L l Z a0 hw [] b2 b4 g_39 cs_ h8 n0 Z8 exa_b2_8 fld_b2_value_8 fld_b2_coder_8 ge_b2 A8 ne_b2_b4 st_COMP_8 hcs (by rw [hg_39, hg_35]; exact hc_) (by rw [hg_39, hg_35]; exact hd_)) hZ (ow hw 11 rfl) (ow hw 7 rfl) (by decide) (by decide)) (g := (mkF m 40 #[vI p0, vI p1, vI p2] [(.ref b4), (.ref b2), (.ref b2)])) rfl (by rw [hml]; rfl) (Steps.refl _) (a := b2) (argsL := [(.ref b4)]) (rest := [(.ref b2)]) (lenOf pd_16 rfl) rfl own_le0 (hb hby d1_40) (fun _ _ => ⟨rfl, e8, (by decide : 2 + 1 ≤ _), (by decide : 6 + 2 ≤ _)⟩)
  dsimp only [Pt.U, Pt.locs, Pt.cells, Pt.slots] at X9 l9 y9 z9 st9 hQ9
  rw [l9, y9, z9] at X9
  obtain ⟨w_9, rfl, N9q, sz0_w_9, Kc9, Q9_0, Q9_1, Q9_2, Q9_3⟩ := hQ9
  have Kd9 : Keep h8 T9.heap [b2] := Kc9
  have ne_b2_w_9 : b2 ≠ w_9 := Nat.ne_of_lt (Nat.lt_of_lt_of_le exa_b2_8.lt sz0_w_9)
  have ne_b4_w_9 : b4 ≠ w_9 := Nat.ne_of_lt (Nat.lt_of_lt_of_le A8.lt sz0_w_9)
  have sz_w_9 : h0.size ≤ w_9 := Nat.le_trans K8.1 sz0_w_9
  have ge_w_9 : n0 ≤ w_9 := Nat.le_trans Z8 sz0_w_9
  have st_COMP_9 := own_sta_keep st_COMP_8 Kd9 (allS (own_E_plain exa_b2_8) all0)
  have st__ass_9 := own_sta_keep st__ass_8 Kd9 (allS (own_E_plain exa_b2_8) all0)
  have st_HI_B_9 := own_sta_keep st_HI_B_8 Kd9 (allS (own_E_plain exa_b2_8) all0)
  have st_LO_B_9 := own_sta_keep st_LO_B_8 Kd9 (allS (own_E_plain exa_b2_8) all0)
  have exa_b2_9 := exa_b2_8.keep Kd9
  have arr_b4_9 := A8.keep Kd9 (ninS ne_b2_b4.symm nin0)
  have K9 := K8.trans Kd9 (allS (Or.inr sz_b2) all0)
  have Z9 := Nat.le_trans Z8 Kd9.1
  have KH9 := KH8.trans Kd9 (allS (Or.inr szH_b2) all0)
  have N9 := Fr.app N8 N9q
  obtain ⟨fs, hr, hrun, hended, hW1, hW2, hW3, hsame⟩ := X9.leaveW hS0 (Nat.le_trans KH9.1 (Nat.le_of_eq (congrArg Array.size (rfl : T9.heap = T9.heap).symm))) (v := some (.ref b2)) (fun h => by rw [Bd.returns] at h; cases h) (BodyLoose.notSynchronized Bd)
  refine ⟨_, _, pre10 _ ?_, hrun, hended, _, _, rfl, ?_, ?_, hW1, hW2, hW3, hsame.mono (by decide) (by decide)⟩
  · show SP p e below (T8.setTop (mkF m 40 #[vI p0, vI p1, vI p2] [(.ref b4), (.ref b2), (.ref b2)])) _
    refine st9.trans ?_
    show SP p e below (T9.setTop (mkF m 43 #[vI p0, vI p1, vI p2] [(.ref b2)])) _
    exact retOut X9 hx Bd.returns rfl (Or.inr (Or.inr (Or.inr (Or.inr ⟨rfl, rfl, rfl⟩)))) (hb hby d1_43) hr
  · show Q_1cL Z p0 p1 p2 cs_ h0 n0 _ T9.heap _
    have o1 := (by subst hg_35 hg_39; rfl : (f_2L_1 g_39 cs_) = f_1cL_1 p0 p1 p2 cs_)
    have r1 := Q9_3
    rw [o1] at r1
    exact ⟨b2, w_9, rfl, N9, sz_b2, K9, Q9_0, Q9_1, Q9_2, r1⟩
  · show own_H own_cs Z T9.vm T9.heap
    exact (hH.go (B := (s.setVm s.vm)) hZ wl X9.warmed KH9 all0)
theorem ef_1cA (m : MethodId) (p0 : Int32) (p1 : Int32) (p2 : Int32) : entryFrame m #[(.int p0), (.int p1), (.int p2)] 3 = mkF m 0 #[vI p0, vI p1, vI p2] [] := by first | (simp [entryFrame, mkF, argsToLocals, Value.category]; done) | rfl
def f_1cA_1 (p0 : Int32) (p1 : Int32) (p2 : Int32) (cs_ : Int32) : Nat → Int32 := let g_35 : Nat → Int32 := (own_upd own_zI 0 p1.toUInt32.toUInt16.toUInt32.toInt32); let g_39 : Nat → Int32 := (own_upd g_35 1 p2.toUInt32.toUInt16.toUInt32.toInt32); (f_2A_1 g_39 cs_)
def Q_1cA (Z : State) (p0 : Int32) (p1 : Int32) (p2 : Int32) (cs_ : Int32) (h0 : Heap) (n0 : Nat) (v : Option Value) (h : Heap) (L : List Loc) : Prop := ∃ r : Addr, ∃ w : Addr, v = some (.ref r) ∧ Fr n0 L ∧ h0.size ≤ r ∧ Keep h0 h [] ∧ Exa Z h r "java/lang/String" ∧ Fld Z h r "java/lang/String" "value" "[B" (.ref w) ∧ Fld Z h r "java/lang/String" "coder" "B" (.int (1 : Int32)) ∧ own_A Z h w .byte 4 (fun i => .int ((f_1cA_1 p0 p1 p2 cs_) i))
theorem rm_1cA (l : Launch) (Z : State) (a0 : Array Value) (hw : ∀ d ∈ tables_1, d.before a0 Z = true) (ws : List Jvm.Cond) (p0 : Int32) (p1 : Int32) (p2 : Int32) (cs_ : Int32) (h0 : Heap) (n0 : Nat) (Z0 : n0 ≤ h0.size) (S_COMPACT_STRINGS : Sta Z h0 "java/lang/String" "COMPACT_STRINGS" "Z" (.int cs_)) (hcs : ¬ (cs_ = (0 : Int32))) (S__assertionsDisabled : Sta Z h0 "java/lang/StringUTF16" "$assertionsDisabled" "Z" (.int (1 : Int32))) (S_HI_BYTE_SHIFT : Sta Z h0 "java/lang/StringUTF16" "HI_BYTE_SHIFT" "I" (.int (0 : Int32))) (S_LO_BYTE_SHIFT : Sta Z h0 "java/lang/StringUTF16" "LO_BYTE_SHIFT" "I" (.int (8 : Int32))) (h0_ : ¬ (p0 = (0 : Int32))) (h1_ : ¬ (p0 = (1 : Int32))) (hc_ : (255 : Int32) < p1.toUInt32.toUInt16.toUInt32.toInt32) :
    MetFree l (⟨"com/example/tern/tern/store/HashIndexHashPinLaw", "text", "(ICC)Ljava/lang/String;"⟩ : MethodName) (head1 (Jvm.Cond.code (⟨"com/example/tern/tern/store/HashIndexHashPinLaw", "text", "(ICC)Ljava/lang/String;"⟩ : MethodName) method_5_code 3 (some (.object "java/lang/String")) :: ws) (⟨6, 4, 12, 88⟩ : Room)) (fun a U => a = #[(.int p0), (.int p1), (.int p2)] ∧ Z.Warmed39 U.vm ∧ U.heap = h0 ∧ own_H own_cs Z U.vm h0) (fun _ _ _ _ _ => True) (fun _ U o U' => ∃ v L, o = .returned v ∧ Q_1cA Z p0 p1 p2 cs_ h0 n0 v U'.heap L ∧ own_H own_cs Z U'.vm U'.heap ∧ ReturnedEndW U o U' L 4 12) := by
  refine MetFree.of_bodySF (plainFor_of_name pn_1) hisR ?_
  intro p e s m args below meth c s₁ Bd hml0 hP hK
  obtain ⟨rfl, hZ, hh, hH⟩ := hP
  have hx := Bd.exec
  have hby := Bd.bytes
  have hml : c.maxLocals = 3 := hml0
  have hown : s.vm.findClass "com/example/tern/tern/store/HashIndexHashPinLaw" = some m.cls := findClass_of_methodNamed Bd.named
  have hnm := (name_of_methodNamed Bd.named Bd.method).1
  have wl := own_wl hw
  have wS := own_wS hw
  have hS0 : s.Since s.vm h0.size := (State.WarmedH.refl s).since _
  have hZ : Z.Warmed39 (s.setVm s.vm).vm := hZ
  have hown : (s.setVm s.vm).vm.findClass "com/example/tern/tern/store/HashIndexHashPinLaw" = some m.cls := hown
  have hH : own_H own_cs Z (s.setVm s.vm).vm h0 := hH
  have X0 : Stand p l e (⟨6, 4, 12, 88⟩ : Room) (s.setVm s.vm) m #[(.int p0), (.int p1), (.int p2)] below meth c s₁ [] 0 0 := Stand.of_body Bd
  have e0 : s₁.heap = h0 := by rw [← hh, Bd.state]; rfl
  have N0 := Fr.nil n0
  have K0 : Keep h0 h0 [] := Keep.refl h0 _
  have pre0 : ∀ t, SP p e below (s₁.setTop (mkF m 0 #[vI p0, vI p1, vI p2] [])) t → SP p e below (s₁.setTop (entryFrame m #[(.int p0), (.int p1), (.int p2)] 3)) t := fun t k => castTop (ef_1cA m p0 p1 p2) k
  have pre1 : ∀ t, SP p e below (s₁.setTop (mkF m 25 #[vI p0, vI p1, vI p2] [])) t → SP p e below (s₁.setTop (entryFrame m #[(.int p0), (.int p1), (.int p2)] 3)) t := by
    intro t k
    refine pre0 t ?_
    show SP p e below (s₁.setTop (mkF m 0 #[vI p0, vI p1, vI p2] [])) _
    refine XS.iloadN X0.here hx rfl (hb hby d1_0) rfl  ?_
    show SP p e below (s₁.setTop (mkF m 1 #[vI p0, vI p1, vI p2] [(.int p0)])) _
    refine XS.ifYes X0.here hx rfl (pc0 := 1) (pc' := 15) rfl (hb hby d1_1) rfl ((if0 _ _).trans (feq (h0_ : ¬ (p0 = (0 : Int32)))).2) (by decide) (by decide) ?_
    show SP p e below (s₁.setTop (mkF m 15 #[vI p0, vI p1, vI p2] [])) _
    refine XS.iloadN X0.here hx rfl (hb hby d1_15) rfl  ?_
    show SP p e below (s₁.setTop (mkF m 16 #[vI p0, vI p1, vI p2] [(.int p0)])) _
    refine XS.iconst X0.here hx rfl (hb hby d1_16) ?_
    show SP p e below (s₁.setTop (mkF m 17 #[vI p0, vI p1, vI p2] [(.int (1 : Int32)), (.int p0)])) _
    refine XS.icmpYes X0.here hx rfl (pc0 := 17) (pc' := 25) rfl (hb hby d1_17) rfl (feq (h1_ : ¬ (p0 = (1 : Int32)))).2 (by decide) (by decide) ?_
    exact k
  obtain ⟨T2, h2, X2, e2, E2, A2, D2, -, st2⟩ := newO X0 hx hZ hown (ow hw 5 rfl) (ow hw 6 rfl) (ow hw 7 rfl) e0 (g := (mkF m 25 #[vI p0, vI p1, vI p2] [])) rfl (hb hby d1_25) (by decide) (by decide)
  obtain ⟨b2, gb2⟩ : ∃ z, z = h0.size := ⟨_, rfl⟩
  rw [← gb2] at A2 D2 st2
  have sz_b2 : h0.size ≤ b2 := Nat.le_trans K0.1 (Nat.le_of_eq gb2.symm)
  have ge_b2 : n0 ≤ b2 := Nat.le_trans Z0 (Nat.le_of_eq gb2.symm)
  have st_COMP_2 := S_COMPACT_STRINGS.ext E2
  have st__ass_2 := S__assertionsDisabled.ext E2
  have st_HI_B_2 := S_HI_BYTE_SHIFT.ext E2
  have st_LO_B_2 := S_LO_BYTE_SHIFT.ext E2
  have K2 := K0.ext E2
  have Z2 := Nat.le_trans Z0 E2.1
  have szH_b2 : h0.size ≤ b2 := Nat.le_trans (Keep.refl h0 []).1 (Nat.le_of_eq gb2.symm)
  have KH2 := (Keep.refl h0 []).ext E2
  have F2_value : Fld Z h2 b2 "java/lang/String" "value" "[B" .null := D2 (Or.inr (ow hw 21 rfl)) (ty := (.array .byte)) (by decide)
  have F2_coder : Fld Z h2 b2 "java/lang/String" "coder" "B" (.int (0 : Int32)) := D2 (Or.inr (ow hw 22 rfl)) (ty := .byte) (by decide)
  have pre3 : ∀ t, SP p e below (T2.setTop (mkF m 30 #[vI p0, vI p1, vI p2] [(.int (2 : Int32)), (.ref b2), (.ref b2)])) t → SP p e below (s₁.setTop (entryFrame m #[(.int p0), (.int p1), (.int p2)] 3)) t := by
    intro t k
    refine pre1 t ?_
    show SP p e below (s₁.setTop (mkF m 25 #[vI p0, vI p1, vI p2] [])) _
    refine st2 _ ?_
    show SP p e below (T2.setTop (mkF m 28 #[vI p0, vI p1, vI p2] [(.ref b2)])) _
    refine XS.dup X2.here hx rfl (hb hby d1_28) rfl rfl ?_
    show SP p e below (T2.setTop (mkF m 29 #[vI p0, vI p1, vI p2] [(.ref b2), (.ref b2)])) _
    refine XS.iconst X2.here hx rfl (hb hby d1_29) ?_
    exact k
  obtain ⟨T4, h4, b4, gb4, X4, e4, E4, A4, st4⟩ := own_newP X2 hx hZ (ow hw 8 rfl) e2 (g := (mkF m 30 #[vI p0, vI p1, vI p2] [(.int (2 : Int32)), (.ref b2), (.ref b2)])) rfl (hb hby d1_30) rfl (by decide) (n := 2) rfl (G := fun i => .int (own_zI i)) (fun _ => rfl) (cap := 2) (by decide) (by decide) (by decide) (by decide)
  have ne_b2_b4 : b2 ≠ b4 := Nat.ne_of_lt (Nat.lt_of_lt_of_le A2.lt (Nat.le_of_eq gb4.symm))
  have sz_b4 : h0.size ≤ b4 := Nat.le_trans K2.1 (Nat.le_of_eq gb4.symm)
  have ge_b4 : n0 ≤ b4 := Nat.le_trans Z2 (Nat.le_of_eq gb4.symm)
  have st_COMP_4 := st_COMP_2.ext E4
  have st__ass_4 := st__ass_2.ext E4
  have st_HI_B_4 := st_HI_B_2.ext E4
  have st_LO_B_4 := st_LO_B_2.ext E4
  have exa_b2_4 := A2.ext E4
  have fld_b2_value_4 := F2_value.ext E4
  have fld_b2_coder_4 := F2_coder.ext E4
  have K4 := K2.ext E4
  have Z4 := Nat.le_trans Z2 E4.1
  have szH_b4 : h0.size ≤ b4 := Nat.le_trans KH2.1 (Nat.le_of_eq gb4.symm)
  have KH4 := KH2.ext E4
  have pre5 : ∀ t, SP p e below (T4.setTop (mkF m 35 #[vI p0, vI p1, vI p2] [(.int p1), (.int (0 : Int32)), (.ref b4), (.ref b4), (.ref b2), (.ref b2)])) t → SP p e below (s₁.setTop (entryFrame m #[(.int p0), (.int p1), (.int p2)] 3)) t := by
    intro t k
    refine pre3 t ?_
    show SP p e below (T2.setTop (mkF m 30 #[vI p0, vI p1, vI p2] [(.int (2 : Int32)), (.ref b2), (.ref b2)])) _
    refine st4 _ ?_
    show SP p e below (T4.setTop (mkF m 32 #[vI p0, vI p1, vI p2] [(.ref b4), (.ref b2), (.ref b2)])) _
    refine XS.dup X4.here hx rfl (hb hby d1_32) rfl rfl ?_
    show SP p e below (T4.setTop (mkF m 33 #[vI p0, vI p1, vI p2] [(.ref b4), (.ref b4), (.ref b2), (.ref b2)])) _
    refine XS.iconst X4.here hx rfl (hb hby d1_33) ?_
    show SP p e below (T4.setTop (mkF m 34 #[vI p0, vI p1, vI p2] [(.int (0 : Int32)), (.ref b4), (.ref b4), (.ref b2), (.ref b2)])) _
    refine XS.iloadN X4.here hx rfl (hb hby d1_34) rfl  ?_
    exact k
  obtain ⟨T6, h6, X6, e6, W6, A6, st6⟩ := own_stC X4 hx hZ e4 A4 (j := (0 : Int32)) (x := p1) (k := 0) (by decide) (by decide) (by decide) (g := (mkF m 35 #[vI p0, vI p1, vI p2] [(.int p1), (.int (0 : Int32)), (.ref b4), (.ref b4), (.ref b2), (.ref b2)])) rfl rfl (hb hby d1_35)
  obtain ⟨g_35, hg_35⟩ : ∃ z : Nat → Int32, z = (own_upd own_zI 0 p1.toUInt32.toUInt16.toUInt32.toInt32) := ⟨_, rfl⟩
  rw [← hg_35] at A6
  have st_COMP_6 := st_COMP_4.wr W6
  have st__ass_6 := st__ass_4.wr W6
  have st_HI_B_6 := st_HI_B_4.wr W6
  have st_LO_B_6 := st_LO_B_4.wr W6
  have exa_b2_6 := exa_b2_4.wr W6
  have fld_b2_value_6 := fld_b2_value_4.other W6 (Or.inl ne_b2_b4)
  have fld_b2_coder_6 := fld_b2_coder_4.other W6 (Or.inl ne_b2_b4)
  have K6 := K4.wr W6 (Or.inr sz_b4)
  have Z6 := Nat.le_trans Z4 (Nat.le_of_eq W6.size.symm)
  have N6 := Fr.snoc X6 N0 ge_b4
  have KH6 := KH4.wr W6 (Or.inr szH_b4)
  have pre7 : ∀ t, SP p e below (T6.setTop (mkF m 39 #[vI p0, vI p1, vI p2] [(.int p2), (.int (1 : Int32)), (.ref b4), (.ref b4), (.ref b2), (.ref b2)])) t → SP p e below (s₁.setTop (entryFrame m #[(.int p0), (.int p1), (.int p2)] 3)) t := by
    intro t k
    refine pre5 t ?_
    show SP p e below (T4.setTop (mkF m 35 #[vI p0, vI p1, vI p2] [(.int p1), (.int (0 : Int32)), (.ref b4), (.ref b4), (.ref b2), (.ref b2)])) _
    refine st6 _ ?_
    show SP p e below (T6.setTop (mkF m 36 #[vI p0, vI p1, vI p2] [(.ref b4), (.ref b2), (.ref b2)])) _
    refine XS.dup X6.here hx rfl (hb hby d1_36) rfl rfl ?_
    show SP p e below (T6.setTop (mkF m 37 #[vI p0, vI p1, vI p2] [(.ref b4), (.ref b4), (.ref b2), (.ref b2)])) _
    refine XS.iconst X6.here hx rfl (hb hby d1_37) ?_
    show SP p e below (T6.setTop (mkF m 38 #[vI p0, vI p1, vI p2] [(.int (1 : Int32)), (.ref b4), (.ref b4), (.ref b2), (.ref b2)])) _
    refine XS.iloadN X6.here hx rfl (hb hby d1_38) rfl  ?_
    exact k
  obtain ⟨T8, h8, X8, e8, W8, A8, st8⟩ := own_stC X6 hx hZ e6 A6 (j := (1 : Int32)) (x := p2) (k := 1) (by decide) (by decide) (by decide) (g := (mkF m 39 #[vI p0, vI p1, vI p2] [(.int p2), (.int (1 : Int32)), (.ref b4), (.ref b4), (.ref b2), (.ref b2)])) rfl rfl (hb hby d1_39)
  obtain ⟨g_39, hg_39⟩ : ∃ z : Nat → Int32, z = (own_upd g_35 1 p2.toUInt32.toUInt16.toUInt32.toInt32) := ⟨_, rfl⟩
  rw [← hg_39] at A8
  have st_COMP_8 := st_COMP_6.wr W8
  have st__ass_8 := st__ass_6.wr W8
  have st_HI_B_8 := st_HI_B_6.wr W8
  have st_LO_B_8 := st_LO_B_6.wr W8
  have exa_b2_8 := exa_b2_6.wr W8
  have fld_b2_value_8 := fld_b2_value_6.other W8 (Or.inl ne_b2_b4)
  have fld_b2_coder_8 := fld_b2_coder_6.other W8 (Or.inl ne_b2_b4)
  have K8 := K6.wr W8 (Or.inr sz_b4)
  have Z8 := Nat.le_trans Z6 (Nat.le_of_eq W8.size.symm)
  have N8 := Fr.snoc X8 N6 ge_b4
  have KH8 := KH6.wr W8 (Or.inr szH_b4)
  have pre10 : ∀ t, SP p e below (T8.setTop (mkF m 40 #[vI p0, vI p1, vI p2] [(.ref b4), (.ref b2), (.ref b2)])) t → SP p e below (s₁.setTop (entryFrame m #[(.int p0), (.int p1), (.int p2)] 3)) t := by
    intro t k
    refine pre7 t ?_
    show SP p e below (T6.setTop (mkF m 39 #[vI p0, vI p1, vI p2] [(.int p2), (.int (1 : Int32)), (.ref b4), (.ref b4), (.ref b2), (.ref b2)])) _
    refine st8 _ ?_
    exact k
  obtain ⟨_, _, ⟨T9, L9, k9, n9⟩, -, X9, ⟨Lc9, hQ9, l9, y9, z9⟩, st9⟩ := X8.specialBack hx (y := (⟨"java/lang/String", "<init>", "([C)V"⟩ : MethodName)) rfl hown (mvT hZ (ow hw 9 rfl)) (mvT hZ (ow hw 10 rfl)) (mvT hZ (ow hw 11 rfl)) (by decide) (backOf (W := 1) (rm_2A l Z a0 hw [] b2 b4 g_39 cs_ h8 n0 Z8 exa_b2_8 fld_b2_value_8 fld_b2_coder_8 ge_b2 A8 ne_b2_b4 st_COMP_8 hcs st__ass_8 st_HI_B_8 st_LO_B_8 (by rw [hg_39, hg_35]; exact hc_) (by rw [hg_39, hg_35]; exact own_i2c_i p1)) hZ (ow hw 11 rfl) (ow hw 7 rfl) (by decide) (by decide)) (g := (mkF m 40 #[vI p0, vI p1, vI p2] [(.ref b4), (.ref b2), (.ref b2)])) rfl (by rw [hml]; rfl) (Steps.refl _) (a := b2) (argsL := [(.ref b4)]) (rest := [(.ref b2)]) (lenOf pd_16 rfl) rfl own_le0 (hb hby d1_40) (fun _ _ => ⟨rfl, e8, (by decide : 2 + 2 ≤ _), (by decide : 6 + 6 ≤ _)⟩)
  dsimp only [Pt.U, Pt.locs, Pt.cells, Pt.slots] at X9 l9 y9 z9 st9 hQ9
  rw [l9, y9, z9] at X9
  obtain ⟨w_9, rfl, N9q, sz0_w_9, Kc9, Q9_0, Q9_1, Q9_2, Q9_3⟩ := hQ9
  have Kd9 : Keep h8 T9.heap [b2] := Kc9
  have ne_b2_w_9 : b2 ≠ w_9 := Nat.ne_of_lt (Nat.lt_of_lt_of_le exa_b2_8.lt sz0_w_9)
  have ne_b4_w_9 : b4 ≠ w_9 := Nat.ne_of_lt (Nat.lt_of_lt_of_le A8.lt sz0_w_9)
  have sz_w_9 : h0.size ≤ w_9 := Nat.le_trans K8.1 sz0_w_9
  have ge_w_9 : n0 ≤ w_9 := Nat.le_trans Z8 sz0_w_9
  have st_COMP_9 := own_sta_keep st_COMP_8 Kd9 (allS (own_E_plain exa_b2_8) all0)
  have st__ass_9 := own_sta_keep st__ass_8 Kd9 (allS (own_E_plain exa_b2_8) all0)
  have st_HI_B_9 := own_sta_keep st_HI_B_8 Kd9 (allS (own_E_plain exa_b2_8) all0)
  have st_LO_B_9 := own_sta_keep st_LO_B_8 Kd9 (allS (own_E_plain exa_b2_8) all0)
  have exa_b2_9 := exa_b2_8.keep Kd9
  have arr_b4_9 := A8.keep Kd9 (ninS ne_b2_b4.symm nin0)
  have K9 := K8.trans Kd9 (allS (Or.inr sz_b2) all0)
  have Z9 := Nat.le_trans Z8 Kd9.1
  have KH9 := KH8.trans Kd9 (allS (Or.inr szH_b2) all0)
  have N9 := Fr.app N8 N9q
  obtain ⟨fs, hr, hrun, hended, hW1, hW2, hW3, hsame⟩ := X9.leaveW hS0 (Nat.le_trans KH9.1 (Nat.le_of_eq (congrArg Array.size (rfl : T9.heap = T9.heap).symm))) (v := some (.ref b2)) (fun h => by rw [Bd.returns] at h; cases h) (BodyLoose.notSynchronized Bd)
  refine ⟨_, _, pre10 _ ?_, hrun, hended, _, _, rfl, ?_, ?_, hW1, hW2, hW3, hsame.mono (by decide) (by decide)⟩
  · show SP p e below (T8.setTop (mkF m 40 #[vI p0, vI p1, vI p2] [(.ref b4), (.ref b2), (.ref b2)])) _
    refine st9.trans ?_
    show SP p e below (T9.setTop (mkF m 43 #[vI p0, vI p1, vI p2] [(.ref b2)])) _
    exact retOut X9 hx Bd.returns rfl (Or.inr (Or.inr (Or.inr (Or.inr ⟨rfl, rfl, rfl⟩)))) (hb hby d1_43) hr
  · show Q_1cA Z p0 p1 p2 cs_ h0 n0 _ T9.heap _
    have o1 := (by subst hg_35 hg_39; rfl : (f_2A_1 g_39 cs_) = f_1cA_1 p0 p1 p2 cs_)
    have r1 := Q9_3
    rw [o1] at r1
    exact ⟨b2, w_9, rfl, N9, sz_b2, K9, Q9_0, Q9_1, Q9_2, r1⟩
  · show own_H own_cs Z T9.vm T9.heap
    exact (hH.go (B := (s.setVm s.vm)) hZ wl X9.warmed KH9 all0)
theorem ef_1cB (m : MethodId) (p0 : Int32) (p1 : Int32) (p2 : Int32) : entryFrame m #[(.int p0), (.int p1), (.int p2)] 3 = mkF m 0 #[vI p0, vI p1, vI p2] [] := by first | (simp [entryFrame, mkF, argsToLocals, Value.category]; done) | rfl
def f_1cB_1 (p0 : Int32) (p1 : Int32) (p2 : Int32) (cs_ : Int32) : Nat → Int32 := let g_35 : Nat → Int32 := (own_upd own_zI 0 p1.toUInt32.toUInt16.toUInt32.toInt32); let g_39 : Nat → Int32 := (own_upd g_35 1 p2.toUInt32.toUInt16.toUInt32.toInt32); (f_2B_1 g_39 cs_)
def Q_1cB (Z : State) (p0 : Int32) (p1 : Int32) (p2 : Int32) (cs_ : Int32) (h0 : Heap) (n0 : Nat) (v : Option Value) (h : Heap) (L : List Loc) : Prop := ∃ r : Addr, ∃ w : Addr, v = some (.ref r) ∧ Fr n0 L ∧ h0.size ≤ r ∧ Keep h0 h [] ∧ Exa Z h r "java/lang/String" ∧ Fld Z h r "java/lang/String" "value" "[B" (.ref w) ∧ Fld Z h r "java/lang/String" "coder" "B" (.int (1 : Int32)) ∧ own_A Z h w .byte 4 (fun i => .int ((f_1cB_1 p0 p1 p2 cs_) i))
theorem rm_1cB (l : Launch) (Z : State) (a0 : Array Value) (hw : ∀ d ∈ tables_1, d.before a0 Z = true) (ws : List Jvm.Cond) (p0 : Int32) (p1 : Int32) (p2 : Int32) (cs_ : Int32) (h0 : Heap) (n0 : Nat) (Z0 : n0 ≤ h0.size) (S_COMPACT_STRINGS : Sta Z h0 "java/lang/String" "COMPACT_STRINGS" "Z" (.int cs_)) (hcs : ¬ (cs_ = (0 : Int32))) (S__assertionsDisabled : Sta Z h0 "java/lang/StringUTF16" "$assertionsDisabled" "Z" (.int (1 : Int32))) (S_HI_BYTE_SHIFT : Sta Z h0 "java/lang/StringUTF16" "HI_BYTE_SHIFT" "I" (.int (0 : Int32))) (S_LO_BYTE_SHIFT : Sta Z h0 "java/lang/StringUTF16" "LO_BYTE_SHIFT" "I" (.int (8 : Int32))) (h0_ : ¬ (p0 = (0 : Int32))) (h1_ : ¬ (p0 = (1 : Int32))) (hc_ : ¬ ((255 : Int32) < p1.toUInt32.toUInt16.toUInt32.toInt32)) (hd_ : (255 : Int32) < p2.toUInt32.toUInt16.toUInt32.toInt32) :
    MetFree l (⟨"com/example/tern/tern/store/HashIndexHashPinLaw", "text", "(ICC)Ljava/lang/String;"⟩ : MethodName) (head1 (Jvm.Cond.code (⟨"com/example/tern/tern/store/HashIndexHashPinLaw", "text", "(ICC)Ljava/lang/String;"⟩ : MethodName) method_5_code 3 (some (.object "java/lang/String")) :: ws) (⟨6, 4, 12, 88⟩ : Room)) (fun a U => a = #[(.int p0), (.int p1), (.int p2)] ∧ Z.Warmed39 U.vm ∧ U.heap = h0 ∧ own_H own_cs Z U.vm h0) (fun _ _ _ _ _ => True) (fun _ U o U' => ∃ v L, o = .returned v ∧ Q_1cB Z p0 p1 p2 cs_ h0 n0 v U'.heap L ∧ own_H own_cs Z U'.vm U'.heap ∧ ReturnedEndW U o U' L 4 12) := by
  refine MetFree.of_bodySF (plainFor_of_name pn_1) hisR ?_
  intro p e s m args below meth c s₁ Bd hml0 hP hK
  obtain ⟨rfl, hZ, hh, hH⟩ := hP
  have hx := Bd.exec
  have hby := Bd.bytes
  have hml : c.maxLocals = 3 := hml0
  have hown : s.vm.findClass "com/example/tern/tern/store/HashIndexHashPinLaw" = some m.cls := findClass_of_methodNamed Bd.named
  have hnm := (name_of_methodNamed Bd.named Bd.method).1
  have wl := own_wl hw
  have wS := own_wS hw
  have hS0 : s.Since s.vm h0.size := (State.WarmedH.refl s).since _
  have hZ : Z.Warmed39 (s.setVm s.vm).vm := hZ
  have hown : (s.setVm s.vm).vm.findClass "com/example/tern/tern/store/HashIndexHashPinLaw" = some m.cls := hown
  have hH : own_H own_cs Z (s.setVm s.vm).vm h0 := hH
  have X0 : Stand p l e (⟨6, 4, 12, 88⟩ : Room) (s.setVm s.vm) m #[(.int p0), (.int p1), (.int p2)] below meth c s₁ [] 0 0 := Stand.of_body Bd
  have e0 : s₁.heap = h0 := by rw [← hh, Bd.state]; rfl
  have N0 := Fr.nil n0
  have K0 : Keep h0 h0 [] := Keep.refl h0 _
  have pre0 : ∀ t, SP p e below (s₁.setTop (mkF m 0 #[vI p0, vI p1, vI p2] [])) t → SP p e below (s₁.setTop (entryFrame m #[(.int p0), (.int p1), (.int p2)] 3)) t := fun t k => castTop (ef_1cB m p0 p1 p2) k
  have pre1 : ∀ t, SP p e below (s₁.setTop (mkF m 25 #[vI p0, vI p1, vI p2] [])) t → SP p e below (s₁.setTop (entryFrame m #[(.int p0), (.int p1), (.int p2)] 3)) t := by
    intro t k
    refine pre0 t ?_
    show SP p e below (s₁.setTop (mkF m 0 #[vI p0, vI p1, vI p2] [])) _
    refine XS.iloadN X0.here hx rfl (hb hby d1_0) rfl  ?_
    show SP p e below (s₁.setTop (mkF m 1 #[vI p0, vI p1, vI p2] [(.int p0)])) _
    refine XS.ifYes X0.here hx rfl (pc0 := 1) (pc' := 15) rfl (hb hby d1_1) rfl ((if0 _ _).trans (feq (h0_ : ¬ (p0 = (0 : Int32)))).2) (by decide) (by decide) ?_
    show SP p e below (s₁.setTop (mkF m 15 #[vI p0, vI p1, vI p2] [])) _
    refine XS.iloadN X0.here hx rfl (hb hby d1_15) rfl  ?_
    show SP p e below (s₁.setTop (mkF m 16 #[vI p0, vI p1, vI p2] [(.int p0)])) _
    refine XS.iconst X0.here hx rfl (hb hby d1_16) ?_
    show SP p e below (s₁.setTop (mkF m 17 #[vI p0, vI p1, vI p2] [(.int (1 : Int32)), (.int p0)])) _
    refine XS.icmpYes X0.here hx rfl (pc0 := 17) (pc' := 25) rfl (hb hby d1_17) rfl (feq (h1_ : ¬ (p0 = (1 : Int32)))).2 (by decide) (by decide) ?_
    exact k
  obtain ⟨T2, h2, X2, e2, E2, A2, D2, -, st2⟩ := newO X0 hx hZ hown (ow hw 5 rfl) (ow hw 6 rfl) (ow hw 7 rfl) e0 (g := (mkF m 25 #[vI p0, vI p1, vI p2] [])) rfl (hb hby d1_25) (by decide) (by decide)
  obtain ⟨b2, gb2⟩ : ∃ z, z = h0.size := ⟨_, rfl⟩
  rw [← gb2] at A2 D2 st2
  have sz_b2 : h0.size ≤ b2 := Nat.le_trans K0.1 (Nat.le_of_eq gb2.symm)
  have ge_b2 : n0 ≤ b2 := Nat.le_trans Z0 (Nat.le_of_eq gb2.symm)
  have st_COMP_2 := S_COMPACT_STRINGS.ext E2
  have st__ass_2 := S__assertionsDisabled.ext E2
  have st_HI_B_2 := S_HI_BYTE_SHIFT.ext E2
  have st_LO_B_2 := S_LO_BYTE_SHIFT.ext E2
  have K2 := K0.ext E2
  have Z2 := Nat.le_trans Z0 E2.1
  have szH_b2 : h0.size ≤ b2 := Nat.le_trans (Keep.refl h0 []).1 (Nat.le_of_eq gb2.symm)
  have KH2 := (Keep.refl h0 []).ext E2
  have F2_value : Fld Z h2 b2 "java/lang/String" "value" "[B" .null := D2 (Or.inr (ow hw 21 rfl)) (ty := (.array .byte)) (by decide)
  have F2_coder : Fld Z h2 b2 "java/lang/String" "coder" "B" (.int (0 : Int32)) := D2 (Or.inr (ow hw 22 rfl)) (ty := .byte) (by decide)
  have pre3 : ∀ t, SP p e below (T2.setTop (mkF m 30 #[vI p0, vI p1, vI p2] [(.int (2 : Int32)), (.ref b2), (.ref b2)])) t → SP p e below (s₁.setTop (entryFrame m #[(.int p0), (.int p1), (.int p2)] 3)) t := by
    intro t k
    refine pre1 t ?_
    show SP p e below (s₁.setTop (mkF m 25 #[vI p0, vI p1, vI p2] [])) _
    refine st2 _ ?_
    show SP p e below (T2.setTop (mkF m 28 #[vI p0, vI p1, vI p2] [(.ref b2)])) _
    refine XS.dup X2.here hx rfl (hb hby d1_28) rfl rfl ?_
    show SP p e below (T2.setTop (mkF m 29 #[vI p0, vI p1, vI p2] [(.ref b2), (.ref b2)])) _
    refine XS.iconst X2.here hx rfl (hb hby d1_29) ?_
    exact k
  obtain ⟨T4, h4, b4, gb4, X4, e4, E4, A4, st4⟩ := own_newP X2 hx hZ (ow hw 8 rfl) e2 (g := (mkF m 30 #[vI p0, vI p1, vI p2] [(.int (2 : Int32)), (.ref b2), (.ref b2)])) rfl (hb hby d1_30) rfl (by decide) (n := 2) rfl (G := fun i => .int (own_zI i)) (fun _ => rfl) (cap := 2) (by decide) (by decide) (by decide) (by decide)
  have ne_b2_b4 : b2 ≠ b4 := Nat.ne_of_lt (Nat.lt_of_lt_of_le A2.lt (Nat.le_of_eq gb4.symm))
  have sz_b4 : h0.size ≤ b4 := Nat.le_trans K2.1 (Nat.le_of_eq gb4.symm)
  have ge_b4 : n0 ≤ b4 := Nat.le_trans Z2 (Nat.le_of_eq gb4.symm)
  have st_COMP_4 := st_COMP_2.ext E4
  have st__ass_4 := st__ass_2.ext E4
  have st_HI_B_4 := st_HI_B_2.ext E4
  have st_LO_B_4 := st_LO_B_2.ext E4
  have exa_b2_4 := A2.ext E4
  have fld_b2_value_4 := F2_value.ext E4
  have fld_b2_coder_4 := F2_coder.ext E4
  have K4 := K2.ext E4
  have Z4 := Nat.le_trans Z2 E4.1
  have szH_b4 : h0.size ≤ b4 := Nat.le_trans KH2.1 (Nat.le_of_eq gb4.symm)
  have KH4 := KH2.ext E4
  have pre5 : ∀ t, SP p e below (T4.setTop (mkF m 35 #[vI p0, vI p1, vI p2] [(.int p1), (.int (0 : Int32)), (.ref b4), (.ref b4), (.ref b2), (.ref b2)])) t → SP p e below (s₁.setTop (entryFrame m #[(.int p0), (.int p1), (.int p2)] 3)) t := by
    intro t k
    refine pre3 t ?_
    show SP p e below (T2.setTop (mkF m 30 #[vI p0, vI p1, vI p2] [(.int (2 : Int32)), (.ref b2), (.ref b2)])) _
    refine st4 _ ?_
    show SP p e below (T4.setTop (mkF m 32 #[vI p0, vI p1, vI p2] [(.ref b4), (.ref b2), (.ref b2)])) _
    refine XS.dup X4.here hx rfl (hb hby d1_32) rfl rfl ?_
    show SP p e below (T4.setTop (mkF m 33 #[vI p0, vI p1, vI p2] [(.ref b4), (.ref b4), (.ref b2), (.ref b2)])) _
    refine XS.iconst X4.here hx rfl (hb hby d1_33) ?_
    show SP p e below (T4.setTop (mkF m 34 #[vI p0, vI p1, vI p2] [(.int (0 : Int32)), (.ref b4), (.ref b4), (.ref b2), (.ref b2)])) _
    refine XS.iloadN X4.here hx rfl (hb hby d1_34) rfl  ?_
    exact k
  obtain ⟨T6, h6, X6, e6, W6, A6, st6⟩ := own_stC X4 hx hZ e4 A4 (j := (0 : Int32)) (x := p1) (k := 0) (by decide) (by decide) (by decide) (g := (mkF m 35 #[vI p0, vI p1, vI p2] [(.int p1), (.int (0 : Int32)), (.ref b4), (.ref b4), (.ref b2), (.ref b2)])) rfl rfl (hb hby d1_35)
  obtain ⟨g_35, hg_35⟩ : ∃ z : Nat → Int32, z = (own_upd own_zI 0 p1.toUInt32.toUInt16.toUInt32.toInt32) := ⟨_, rfl⟩
  rw [← hg_35] at A6
  have st_COMP_6 := st_COMP_4.wr W6
  have st__ass_6 := st__ass_4.wr W6
  have st_HI_B_6 := st_HI_B_4.wr W6
  have st_LO_B_6 := st_LO_B_4.wr W6
  have exa_b2_6 := exa_b2_4.wr W6
  have fld_b2_value_6 := fld_b2_value_4.other W6 (Or.inl ne_b2_b4)
  have fld_b2_coder_6 := fld_b2_coder_4.other W6 (Or.inl ne_b2_b4)
  have K6 := K4.wr W6 (Or.inr sz_b4)
  have Z6 := Nat.le_trans Z4 (Nat.le_of_eq W6.size.symm)
  have N6 := Fr.snoc X6 N0 ge_b4
  have KH6 := KH4.wr W6 (Or.inr szH_b4)
  have pre7 : ∀ t, SP p e below (T6.setTop (mkF m 39 #[vI p0, vI p1, vI p2] [(.int p2), (.int (1 : Int32)), (.ref b4), (.ref b4), (.ref b2), (.ref b2)])) t → SP p e below (s₁.setTop (entryFrame m #[(.int p0), (.int p1), (.int p2)] 3)) t := by
    intro t k
    refine pre5 t ?_
    show SP p e below (T4.setTop (mkF m 35 #[vI p0, vI p1, vI p2] [(.int p1), (.int (0 : Int32)), (.ref b4), (.ref b4), (.ref b2), (.ref b2)])) _
    refine st6 _ ?_
    show SP p e below (T6.setTop (mkF m 36 #[vI p0, vI p1, vI p2] [(.ref b4), (.ref b2), (.ref b2)])) _
    refine XS.dup X6.here hx rfl (hb hby d1_36) rfl rfl ?_
    show SP p e below (T6.setTop (mkF m 37 #[vI p0, vI p1, vI p2] [(.ref b4), (.ref b4), (.ref b2), (.ref b2)])) _
    refine XS.iconst X6.here hx rfl (hb hby d1_37) ?_
    show SP p e below (T6.setTop (mkF m 38 #[vI p0, vI p1, vI p2] [(.int (1 : Int32)), (.ref b4), (.ref b4), (.ref b2), (.ref b2)])) _
    refine XS.iloadN X6.here hx rfl (hb hby d1_38) rfl  ?_
    exact k
  obtain ⟨T8, h8, X8, e8, W8, A8, st8⟩ := own_stC X6 hx hZ e6 A6 (j := (1 : Int32)) (x := p2) (k := 1) (by decide) (by decide) (by decide) (g := (mkF m 39 #[vI p0, vI p1, vI p2] [(.int p2), (.int (1 : Int32)), (.ref b4), (.ref b4), (.ref b2), (.ref b2)])) rfl rfl (hb hby d1_39)
  obtain ⟨g_39, hg_39⟩ : ∃ z : Nat → Int32, z = (own_upd g_35 1 p2.toUInt32.toUInt16.toUInt32.toInt32) := ⟨_, rfl⟩
  rw [← hg_39] at A8
  have st_COMP_8 := st_COMP_6.wr W8
  have st__ass_8 := st__ass_6.wr W8
  have st_HI_B_8 := st_HI_B_6.wr W8
  have st_LO_B_8 := st_LO_B_6.wr W8
  have exa_b2_8 := exa_b2_6.wr W8
  have fld_b2_value_8 := fld_b2_value_6.other W8 (Or.inl ne_b2_b4)
  have fld_b2_coder_8 := fld_b2_coder_6.other W8 (Or.inl ne_b2_b4)
  have K8 := K6.wr W8 (Or.inr sz_b4)
  have Z8 := Nat.le_trans Z6 (Nat.le_of_eq W8.size.symm)
  have N8 := Fr.snoc X8 N6 ge_b4
  have KH8 := KH6.wr W8 (Or.inr szH_b4)
  have pre10 : ∀ t, SP p e below (T8.setTop (mkF m 40 #[vI p0, vI p1, vI p2] [(.ref b4), (.ref b2), (.ref b2)])) t → SP p e below (s₁.setTop (entryFrame m #[(.int p0), (.int p1), (.int p2)] 3)) t := by
    intro t k
    refine pre7 t ?_
    show SP p e below (T6.setTop (mkF m 39 #[vI p0, vI p1, vI p2] [(.int p2), (.int (1 : Int32)), (.ref b4), (.ref b4), (.ref b2), (.ref b2)])) _
    refine st8 _ ?_
    exact k
  obtain ⟨_, _, ⟨T9, L9, k9, n9⟩, -, X9, ⟨Lc9, hQ9, l9, y9, z9⟩, st9⟩ := X8.specialBack hx (y := (⟨"java/lang/String", "<init>", "([C)V"⟩ : MethodName)) rfl hown (mvT hZ (ow hw 9 rfl)) (mvT hZ (ow hw 10 rfl)) (mvT hZ (ow hw 11 rfl)) (by decide) (backOf (W := 1) (rm_2B l Z a0 hw [] b2 b4 g_39 cs_ h8 n0 Z8 exa_b2_8 fld_b2_value_8 fld_b2_coder_8 ge_b2 A8 ne_b2_b4 st_COMP_8 hcs st__ass_8 st_HI_B_8 st_LO_B_8 (by rw [hg_39, hg_35]; exact hc_) (by rw [hg_39, hg_35]; exact hd_) (by rw [hg_39, hg_35]; exact own_i2c_i p2)) hZ (ow hw 11 rfl) (ow hw 7 rfl) (by decide) (by decide)) (g := (mkF m 40 #[vI p0, vI p1, vI p2] [(.ref b4), (.ref b2), (.ref b2)])) rfl (by rw [hml]; rfl) (Steps.refl _) (a := b2) (argsL := [(.ref b4)]) (rest := [(.ref b2)]) (lenOf pd_16 rfl) rfl own_le0 (hb hby d1_40) (fun _ _ => ⟨rfl, e8, (by decide : 2 + 2 ≤ _), (by decide : 6 + 6 ≤ _)⟩)
  dsimp only [Pt.U, Pt.locs, Pt.cells, Pt.slots] at X9 l9 y9 z9 st9 hQ9
  rw [l9, y9, z9] at X9
  obtain ⟨w_9, rfl, N9q, sz0_w_9, Kc9, Q9_0, Q9_1, Q9_2, Q9_3⟩ := hQ9
  have Kd9 : Keep h8 T9.heap [b2] := Kc9
  have ne_b2_w_9 : b2 ≠ w_9 := Nat.ne_of_lt (Nat.lt_of_lt_of_le exa_b2_8.lt sz0_w_9)
  have ne_b4_w_9 : b4 ≠ w_9 := Nat.ne_of_lt (Nat.lt_of_lt_of_le A8.lt sz0_w_9)
  have sz_w_9 : h0.size ≤ w_9 := Nat.le_trans K8.1 sz0_w_9
  have ge_w_9 : n0 ≤ w_9 := Nat.le_trans Z8 sz0_w_9
  have st_COMP_9 := own_sta_keep st_COMP_8 Kd9 (allS (own_E_plain exa_b2_8) all0)
  have st__ass_9 := own_sta_keep st__ass_8 Kd9 (allS (own_E_plain exa_b2_8) all0)
  have st_HI_B_9 := own_sta_keep st_HI_B_8 Kd9 (allS (own_E_plain exa_b2_8) all0)
  have st_LO_B_9 := own_sta_keep st_LO_B_8 Kd9 (allS (own_E_plain exa_b2_8) all0)
  have exa_b2_9 := exa_b2_8.keep Kd9
  have arr_b4_9 := A8.keep Kd9 (ninS ne_b2_b4.symm nin0)
  have K9 := K8.trans Kd9 (allS (Or.inr sz_b2) all0)
  have Z9 := Nat.le_trans Z8 Kd9.1
  have KH9 := KH8.trans Kd9 (allS (Or.inr szH_b2) all0)
  have N9 := Fr.app N8 N9q
  obtain ⟨fs, hr, hrun, hended, hW1, hW2, hW3, hsame⟩ := X9.leaveW hS0 (Nat.le_trans KH9.1 (Nat.le_of_eq (congrArg Array.size (rfl : T9.heap = T9.heap).symm))) (v := some (.ref b2)) (fun h => by rw [Bd.returns] at h; cases h) (BodyLoose.notSynchronized Bd)
  refine ⟨_, _, pre10 _ ?_, hrun, hended, _, _, rfl, ?_, ?_, hW1, hW2, hW3, hsame.mono (by decide) (by decide)⟩
  · show SP p e below (T8.setTop (mkF m 40 #[vI p0, vI p1, vI p2] [(.ref b4), (.ref b2), (.ref b2)])) _
    refine st9.trans ?_
    show SP p e below (T9.setTop (mkF m 43 #[vI p0, vI p1, vI p2] [(.ref b2)])) _
    exact retOut X9 hx Bd.returns rfl (Or.inr (Or.inr (Or.inr (Or.inr ⟨rfl, rfl, rfl⟩)))) (hb hby d1_43) hr
  · show Q_1cB Z p0 p1 p2 cs_ h0 n0 _ T9.heap _
    have o1 := (by subst hg_35 hg_39; rfl : (f_2B_1 g_39 cs_) = f_1cB_1 p0 p1 p2 cs_)
    have r1 := Q9_3
    rw [o1] at r1
    exact ⟨b2, w_9, rfl, N9, sz_b2, K9, Q9_0, Q9_1, Q9_2, r1⟩
  · show own_H own_cs Z T9.vm T9.heap
    exact (hH.go (B := (s.setVm s.vm)) hZ wl X9.warmed KH9 all0)
def own_co (l a b : Int32) : Int32 := if l = 0 then 0 else if l = 1 then (if (255 : Int32) < a then 1 else 0) else if (255 : Int32) < a.toUInt32.toUInt16.toUInt32.toInt32 then 1 else if (255 : Int32) < b.toUInt32.toUInt16.toUInt32.toInt32 then 1 else 0
def own_nb (l a b : Int32) : Nat := if l = 0 then 0 else if l = 1 then (if (255 : Int32) < a then 2 else 1) else if (255 : Int32) < a.toUInt32.toUInt16.toUInt32.toInt32 then 4 else if (255 : Int32) < b.toUInt32.toUInt16.toUInt32.toInt32 then 4 else 2
def own_by (l a b cs : Int32) : Nat → Int32 := if l = 0 then f_1a_1 l a b cs else if l = 1 then (if (255 : Int32) < a then f_1bU_1 l a b cs else f_1bL_1 l a b cs) else if (255 : Int32) < a.toUInt32.toUInt16.toUInt32.toInt32 then f_1cA_1 l a b cs else if (255 : Int32) < b.toUInt32.toUInt16.toUInt32.toInt32 then f_1cB_1 l a b cs else f_1cL_1 l a b cs
def own_k (c : Int32) (n : Nat) : Prop := (c = 0 ∧ (n = 0 ∨ n = 1 ∨ n = 2)) ∨ (c = 1 ∧ (n = 2 ∨ n = 4))
theorem own_kk (l a b : Int32) : own_k (own_co l a b) (own_nb l a b) := by
  unfold own_k own_co own_nb
  (repeat' split) <;> simp
def own_r0 (_ : Nat) : Value := .null
def own_r1 (a : Addr) (_ : Nat) : Value := .ref a
def own_r2 (a b : Addr) : Nat → Value
  | 0 => .ref a
  | _ => .ref b
theorem own_r0_eq (i : Nat) (hi : i < 0) : own_zR i = own_r0 i := rfl
theorem own_r1_eq (a : Addr) (i : Nat) (hi : i < 1) : own_upd own_zR 0 (Value.ref a) i = own_r1 a i := by
  obtain rfl : i = 0 := by omega
  rfl
theorem own_r2_eq (a b : Addr) (i : Nat) (hi : i < 2) : own_upd (own_upd own_zR 0 (Value.ref a)) 1 (Value.ref b) i = own_r2 a b i := by
  rcases (by omega : i = 0 ∨ i = 1) with rfl | rfl <;> rfl
def Q_1 (Z : State) (p0 : Int32) (p1 : Int32) (p2 : Int32) (cs_ : Int32) (h0 : Heap) (n0 : Nat) (v : Option Value) (h : Heap) (L : List Loc) : Prop := ∃ r : Addr, ∃ w : Addr, v = some (.ref r) ∧ Fr n0 L ∧ h0.size ≤ r ∧ Keep h0 h [] ∧ Exa Z h r "java/lang/String" ∧ Fld Z h r "java/lang/String" "value" "[B" (.ref w) ∧ Fld Z h r "java/lang/String" "coder" "B" (.int (own_co p0 p1 p2)) ∧ own_A Z h w .byte (own_nb p0 p1 p2) (fun i => .int (own_by p0 p1 p2 cs_ i))
theorem rm_1 (l : Launch) (Z : State) (a0 : Array Value) (hw : ∀ d ∈ tables_1, d.before a0 Z = true) (ws : List Jvm.Cond) (p0 : Int32) (p1 : Int32) (p2 : Int32) (cs_ : Int32) (h0 : Heap) (n0 : Nat) (Z0 : n0 ≤ h0.size) (S_COMPACT_STRINGS : Sta Z h0 "java/lang/String" "COMPACT_STRINGS" "Z" (.int cs_)) (hcs : ¬ (cs_ = (0 : Int32))) (S__assertionsDisabled : Sta Z h0 "java/lang/StringUTF16" "$assertionsDisabled" "Z" (.int (1 : Int32))) (S_HI_BYTE_SHIFT : Sta Z h0 "java/lang/StringUTF16" "HI_BYTE_SHIFT" "I" (.int (0 : Int32))) (S_LO_BYTE_SHIFT : Sta Z h0 "java/lang/StringUTF16" "LO_BYTE_SHIFT" "I" (.int (8 : Int32))) :
    MetFree l (⟨"com/example/tern/tern/store/HashIndexHashPinLaw", "text", "(ICC)Ljava/lang/String;"⟩ : MethodName) (head1 (Jvm.Cond.code (⟨"com/example/tern/tern/store/HashIndexHashPinLaw", "text", "(ICC)Ljava/lang/String;"⟩ : MethodName) method_5_code 3 (some (.object "java/lang/String")) :: ws) (⟨6, 4, 12, 88⟩ : Room)) (fun a U => a = #[(.int p0), (.int p1), (.int p2)] ∧ Z.Warmed39 U.vm ∧ U.heap = h0 ∧ own_H own_cs Z U.vm h0) (fun _ _ _ _ _ => True) (fun _ U o U' => ∃ v L, o = .returned v ∧ Q_1 Z p0 p1 p2 cs_ h0 n0 v U'.heap L ∧ own_H own_cs Z U'.vm U'.heap ∧ ReturnedEndW U o U' L 4 12) := by
  by_cases h0_ : p0 = (0 : Int32)
  ·
    refine MetFree.imp (rm_1a l Z a0 hw ws p0 p1 p2 cs_ h0 n0 Z0 S_COMPACT_STRINGS hcs S__assertionsDisabled S_HI_BYTE_SHIFT S_LO_BYTE_SHIFT h0_) ?_
    rintro _ U o U' ⟨v, L, rfl, ⟨r, w, rfl, N, sz, K, E, F1, F2, A⟩, H, RE⟩
    have e0 : own_co p0 p1 p2 = (0 : Int32) := by rw [own_co, if_pos h0_]
    have e1 : own_nb p0 p1 p2 = 0 := by rw [own_nb, if_pos h0_]
    have e2 : own_by p0 p1 p2 cs_ = f_1a_1 p0 p1 p2 cs_ := by rw [own_by, if_pos h0_]
    refine ⟨_, L, rfl, ⟨r, w, rfl, N, sz, K, E, F1, ?_, ?_⟩, H, RE⟩
    · rw [e0]; exact F2
    · rw [e1, e2]; exact A
  by_cases h1_ : p0 = (1 : Int32)
  · by_cases hc_ : (255 : Int32) < p1
    ·
      refine MetFree.imp (rm_1bU l Z a0 hw ws p0 p1 p2 cs_ h0 n0 Z0 S_COMPACT_STRINGS hcs S__assertionsDisabled S_HI_BYTE_SHIFT S_LO_BYTE_SHIFT h0_ h1_ hc_) ?_
      rintro _ U o U' ⟨v, L, rfl, ⟨r, w, rfl, N, sz, K, E, F1, F2, A⟩, H, RE⟩
      have e0 : own_co p0 p1 p2 = (1 : Int32) := by rw [own_co, if_neg h0_, if_pos h1_, if_pos hc_]
      have e1 : own_nb p0 p1 p2 = 2 := by rw [own_nb, if_neg h0_, if_pos h1_, if_pos hc_]
      have e2 : own_by p0 p1 p2 cs_ = f_1bU_1 p0 p1 p2 cs_ := by rw [own_by, if_neg h0_, if_pos h1_, if_pos hc_]
      refine ⟨_, L, rfl, ⟨r, w, rfl, N, sz, K, E, F1, ?_, ?_⟩, H, RE⟩
      · rw [e0]; exact F2
      · rw [e1, e2]; exact A
    ·
      refine MetFree.imp (rm_1bL l Z a0 hw ws p0 p1 p2 cs_ h0 n0 Z0 S_COMPACT_STRINGS hcs S__assertionsDisabled S_HI_BYTE_SHIFT S_LO_BYTE_SHIFT h0_ h1_ hc_) ?_
      rintro _ U o U' ⟨v, L, rfl, ⟨r, w, rfl, N, sz, K, E, F1, F2, A⟩, H, RE⟩
      have e0 : own_co p0 p1 p2 = (0 : Int32) := by rw [own_co, if_neg h0_, if_pos h1_, if_neg hc_]
      have e1 : own_nb p0 p1 p2 = 1 := by rw [own_nb, if_neg h0_, if_pos h1_, if_neg hc_]
      have e2 : own_by p0 p1 p2 cs_ = f_1bL_1 p0 p1 p2 cs_ := by rw [own_by, if_neg h0_, if_pos h1_, if_neg hc_]
      refine ⟨_, L, rfl, ⟨r, w, rfl, N, sz, K, E, F1, ?_, ?_⟩, H, RE⟩
      · rw [e0]; exact F2
      · rw [e1, e2]; exact A
  by_cases hc_ : (255 : Int32) < p1.toUInt32.toUInt16.toUInt32.toInt32
  ·
    refine MetFree.imp (rm_1cA l Z a0 hw ws p0 p1 p2 cs_ h0 n0 Z0 S_COMPACT_STRINGS hcs S__assertionsDisabled S_HI_BYTE_SHIFT S_LO_BYTE_SHIFT h0_ h1_ hc_) ?_
    rintro _ U o U' ⟨v, L, rfl, ⟨r, w, rfl, N, sz, K, E, F1, F2, A⟩, H, RE⟩
    have e0 : own_co p0 p1 p2 = (1 : Int32) := by rw [own_co, if_neg h0_, if_neg h1_, if_pos hc_]
    have e1 : own_nb p0 p1 p2 = 4 := by rw [own_nb, if_neg h0_, if_neg h1_, if_pos hc_]
    have e2 : own_by p0 p1 p2 cs_ = f_1cA_1 p0 p1 p2 cs_ := by rw [own_by, if_neg h0_, if_neg h1_, if_pos hc_]
    refine ⟨_, L, rfl, ⟨r, w, rfl, N, sz, K, E, F1, ?_, ?_⟩, H, RE⟩
    · rw [e0]; exact F2
    · rw [e1, e2]; exact A
  by_cases hd_ : (255 : Int32) < p2.toUInt32.toUInt16.toUInt32.toInt32
  ·
    refine MetFree.imp (rm_1cB l Z a0 hw ws p0 p1 p2 cs_ h0 n0 Z0 S_COMPACT_STRINGS hcs S__assertionsDisabled S_HI_BYTE_SHIFT S_LO_BYTE_SHIFT h0_ h1_ hc_ hd_) ?_
    rintro _ U o U' ⟨v, L, rfl, ⟨r, w, rfl, N, sz, K, E, F1, F2, A⟩, H, RE⟩
    have e0 : own_co p0 p1 p2 = (1 : Int32) := by rw [own_co, if_neg h0_, if_neg h1_, if_neg hc_, if_pos hd_]
    have e1 : own_nb p0 p1 p2 = 4 := by rw [own_nb, if_neg h0_, if_neg h1_, if_neg hc_, if_pos hd_]
    have e2 : own_by p0 p1 p2 cs_ = f_1cB_1 p0 p1 p2 cs_ := by rw [own_by, if_neg h0_, if_neg h1_, if_neg hc_, if_pos hd_]
    refine ⟨_, L, rfl, ⟨r, w, rfl, N, sz, K, E, F1, ?_, ?_⟩, H, RE⟩
    · rw [e0]; exact F2
    · rw [e1, e2]; exact A
  refine MetFree.imp (rm_1cL l Z a0 hw ws p0 p1 p2 cs_ h0 n0 Z0 S_COMPACT_STRINGS hcs S__assertionsDisabled S_HI_BYTE_SHIFT S_LO_BYTE_SHIFT h0_ h1_ hc_ hd_) ?_
  rintro _ U o U' ⟨v, L, rfl, ⟨r, w, rfl, N, sz, K, E, F1, F2, A⟩, H, RE⟩
  have e0 : own_co p0 p1 p2 = (0 : Int32) := by rw [own_co, if_neg h0_, if_neg h1_, if_neg hc_, if_neg hd_]
  have e1 : own_nb p0 p1 p2 = 2 := by rw [own_nb, if_neg h0_, if_neg h1_, if_neg hc_, if_neg hd_]
  have e2 : own_by p0 p1 p2 cs_ = f_1cL_1 p0 p1 p2 cs_ := by rw [own_by, if_neg h0_, if_neg h1_, if_neg hc_, if_neg hd_]
  refine ⟨_, L, rfl, ⟨r, w, rfl, N, sz, K, E, F1, ?_, ?_⟩, H, RE⟩
  · rw [e0]; exact F2
  · rw [e1, e2]; exact A
theorem d18_0 : decode jdk_42_method_152_code 0 = .ok (.getstatic 38, 3) := by decide +kernel
theorem d18_3 : decode jdk_42_method_152_code 3 = .ok (.ifCond .eq 10, 3) := by decide +kernel
theorem d18_6 : decode jdk_42_method_152_code 6 = .ok (.aload_n 0, 1) := by decide +kernel
theorem d18_7 : decode jdk_42_method_152_code 7 = .ok (.getfield 15, 3) := by decide +kernel
theorem d18_10 : decode jdk_42_method_152_code 10 = .ok (.goto 4, 3) := by decide +kernel
theorem d18_14 : decode jdk_42_method_152_code 14 = .ok (.ireturn, 1) := by decide +kernel
theorem pn_18 : plainName "java/lang/String" = true := by first | (simp [plainName, overriddenIn]; done) | decide +kernel
theorem ef_18L (m : MethodId) (p0 : Addr) : entryFrame m #[(.ref p0)] 1 = mkF m 0 #[vR p0] [] := by first | (simp [entryFrame, mkF, argsToLocals, Value.category]; done) | rfl
def f_18L (cs_ : Int32) : Int32 := (nar .byte (0 : Int32))
def Q_18L (Z : State) (p0 : Addr) (cs_ : Int32) (h0 : Heap) (n0 : Nat) (v : Option Value) (h : Heap) (L : List Loc) : Prop := v = some (.int (f_18L cs_)) ∧ Fr n0 L ∧ h = h0
theorem rm_18L (l : Launch) (Z : State) (a0 : Array Value) (hw : ∀ d ∈ tables_1, d.before a0 Z = true) (ws : List Jvm.Cond) (p0 : Addr) (cs_ : Int32) (h0 : Heap) (n0 : Nat) (Z0 : n0 ≤ h0.size) (S_COMPACT_STRINGS : Sta Z h0 "java/lang/String" "COMPACT_STRINGS" "Z" (.int cs_)) (hcs : ¬ (cs_ = (0 : Int32))) (F_p0_coder : Fld Z h0 p0 "java/lang/String" "coder" "B" (.int (0 : Int32))) :
    MetFree l (⟨"java/lang/String", "coder", "()B"⟩ : MethodName) (head1 (Jvm.Cond.code (⟨"java/lang/String", "coder", "()B"⟩ : MethodName) jdk_42_method_152_code 1 (some .byte) :: ws) (⟨0, 0, 0, 0⟩ : Room)) (fun a U => a = #[(.ref p0)] ∧ Z.Warmed39 U.vm ∧ U.heap = h0) (fun _ _ _ _ _ => True) (fun _ U o U' => ∃ v L, o = .returned v ∧ Q_18L Z p0 cs_ h0 n0 v U'.heap L ∧ FrameEnd U o U' L 0 0) := by
  refine MetFree.of_bodySF (plainFor_of_name pn_18) hisR ?_
  intro p e s m args below meth c s₁ Bd hml0 hP hK
  obtain ⟨rfl, hZ, hh⟩ := hP
  have hx := Bd.exec
  have hby := Bd.bytes
  have hml : c.maxLocals = 1 := hml0
  have hown : s.vm.findClass "java/lang/String" = some m.cls := findClass_of_methodNamed Bd.named
  have hnm := (name_of_methodNamed Bd.named Bd.method).1
  have X0 : Stand p l e (⟨0, 0, 0, 0⟩ : Room) s m #[(.ref p0)] below meth c s₁ [] 0 0 := Stand.of_body Bd
  have e0 : s₁.heap = h0 := by rw [← hh, Bd.state]; rfl
  have N0 := Fr.nil n0
  have K0 : Keep h0 h0 [] := Keep.refl h0 _
  have pre0 : ∀ t, SP p e below (s₁.setTop (mkF m 0 #[vR p0] [])) t → SP p e below (s₁.setTop (entryFrame m #[(.ref p0)] 1)) t := fun t k => castTop (ef_18L m p0) k
  obtain ⟨T1, X1, e1, st1⟩ := getS2 X0 hx hZ hown (host := "") (Or.inl (ow hw 44 rfl)) Via.refl e0 S_COMPACT_STRINGS (g := (mkF m 0 #[vR p0] [])) rfl (hb hby d18_0)
  have pre2 : ∀ t, SP p e below (T1.setTop (mkF m 7 #[vR p0] [(.ref p0)])) t → SP p e below (s₁.setTop (entryFrame m #[(.ref p0)] 1)) t := by
    intro t k
    refine pre0 t ?_
    show SP p e below (s₁.setTop (mkF m 0 #[vR p0] [])) _
    refine st1 _ ?_
    show SP p e below (T1.setTop (mkF m 3 #[vR p0] [(.int cs_)])) _
    refine XS.ifNo X1.here hx rfl (hb hby d18_3) rfl ((if0 _ _).trans (feq (hcs : ¬ (cs_ = (0 : Int32)))).1) ?_
    show SP p e below (T1.setTop (mkF m 6 #[vR p0] [])) _
    refine XS.aloadN X1.here hx rfl (hb hby d18_6) rfl rfl ?_
    exact k
  obtain ⟨T3, X3, e3, st3⟩ := getF X1 hx hZ hown (host := "") (Or.inl (ow hw 26 rfl)) Via.refl e1 F_p0_coder (g := (mkF m 7 #[vR p0] [(.ref p0)])) rfl rfl (hb hby d18_7)
  obtain ⟨fs, hr, hrun, hended, hW, hsame⟩ := X3.leave (v := some (.int (nar .byte (0 : Int32)))) (fun h => by rw [Bd.returns] at h; cases h) (BodyLoose.notSynchronized Bd)
  refine ⟨_, _, pre2 _ ?_, hrun, hended, _, _, rfl, ?_, ⟨_, rfl⟩, hW, hsame.mono (by decide) (by decide)⟩
  · show SP p e below (T1.setTop (mkF m 7 #[vR p0] [(.ref p0)])) _
    refine st3 _ ?_
    show SP p e below (T3.setTop (mkF m 10 #[vR p0] [(.int (0 : Int32))])) _
    refine XS.goto X3.here hx rfl (pc0 := 10) (pc' := 14) rfl (hb hby d18_10) (by decide) (by decide) ?_
    show SP p e below (T3.setTop (mkF m 14 #[vR p0] [(.int (0 : Int32))])) _
    exact retN X3 hx (t := .byte) Bd.returns (by simp) (hb hby d18_14) hr
  · show Q_18L Z p0 cs_ h0 n0 _ T3.heap _
    rw [e3]
    exact ⟨congrArg (fun z => some (Value.int z)) (by rfl : (nar .byte (0 : Int32)) = f_18L cs_), N0, rfl⟩
theorem d20_0 : decode jdk_42_method_154_code 0 = .ok (.getstatic 38, 3) := by decide +kernel
theorem d20_3 : decode jdk_42_method_154_code 3 = .ok (.ifCond .eq 14, 3) := by decide +kernel
theorem d20_6 : decode jdk_42_method_154_code 6 = .ok (.aload_n 0, 1) := by decide +kernel
theorem d20_7 : decode jdk_42_method_154_code 7 = .ok (.getfield 15, 3) := by decide +kernel
theorem d20_10 : decode jdk_42_method_154_code 10 = .ok (.ifCond .ne 7, 3) := by decide +kernel
theorem d20_13 : decode jdk_42_method_154_code 13 = .ok (.iconst 1, 1) := by decide +kernel
theorem d20_14 : decode jdk_42_method_154_code 14 = .ok (.goto 4, 3) := by decide +kernel
theorem d20_18 : decode jdk_42_method_154_code 18 = .ok (.ireturn, 1) := by decide +kernel
theorem pn_20 : plainName "java/lang/String" = true := by first | (simp [plainName, overriddenIn]; done) | decide +kernel
theorem ef_20L (m : MethodId) (p0 : Addr) : entryFrame m #[(.ref p0)] 1 = mkF m 0 #[vR p0] [] := by first | (simp [entryFrame, mkF, argsToLocals, Value.category]; done) | rfl
def f_20L (cs_ : Int32) : Int32 := (1 : Int32)
def Q_20L (Z : State) (p0 : Addr) (cs_ : Int32) (h0 : Heap) (n0 : Nat) (v : Option Value) (h : Heap) (L : List Loc) : Prop := v = some (.int (f_20L cs_)) ∧ Fr n0 L ∧ h = h0
theorem rm_20L (l : Launch) (Z : State) (a0 : Array Value) (hw : ∀ d ∈ tables_1, d.before a0 Z = true) (ws : List Jvm.Cond) (p0 : Addr) (cs_ : Int32) (h0 : Heap) (n0 : Nat) (Z0 : n0 ≤ h0.size) (S_COMPACT_STRINGS : Sta Z h0 "java/lang/String" "COMPACT_STRINGS" "Z" (.int cs_)) (hcs : ¬ (cs_ = (0 : Int32))) (F_p0_coder : Fld Z h0 p0 "java/lang/String" "coder" "B" (.int (0 : Int32))) :
    MetFree l (⟨"java/lang/String", "isLatin1", "()Z"⟩ : MethodName) (head1 (Jvm.Cond.code (⟨"java/lang/String", "isLatin1", "()Z"⟩ : MethodName) jdk_42_method_154_code 1 (some .boolean) :: ws) (⟨0, 0, 0, 0⟩ : Room)) (fun a U => a = #[(.ref p0)] ∧ Z.Warmed39 U.vm ∧ U.heap = h0) (fun _ _ _ _ _ => True) (fun _ U o U' => ∃ v L, o = .returned v ∧ Q_20L Z p0 cs_ h0 n0 v U'.heap L ∧ FrameEnd U o U' L 0 0) := by
  refine MetFree.of_bodySF (plainFor_of_name pn_20) hisR ?_
  intro p e s m args below meth c s₁ Bd hml0 hP hK
  obtain ⟨rfl, hZ, hh⟩ := hP
  have hx := Bd.exec
  have hby := Bd.bytes
  have hml : c.maxLocals = 1 := hml0
  have hown : s.vm.findClass "java/lang/String" = some m.cls := findClass_of_methodNamed Bd.named
  have hnm := (name_of_methodNamed Bd.named Bd.method).1
  have X0 : Stand p l e (⟨0, 0, 0, 0⟩ : Room) s m #[(.ref p0)] below meth c s₁ [] 0 0 := Stand.of_body Bd
  have e0 : s₁.heap = h0 := by rw [← hh, Bd.state]; rfl
  have N0 := Fr.nil n0
  have K0 : Keep h0 h0 [] := Keep.refl h0 _
  have pre0 : ∀ t, SP p e below (s₁.setTop (mkF m 0 #[vR p0] [])) t → SP p e below (s₁.setTop (entryFrame m #[(.ref p0)] 1)) t := fun t k => castTop (ef_20L m p0) k
  obtain ⟨T1, X1, e1, st1⟩ := getS2 X0 hx hZ hown (host := "") (Or.inl (ow hw 44 rfl)) Via.refl e0 S_COMPACT_STRINGS (g := (mkF m 0 #[vR p0] [])) rfl (hb hby d20_0)
  have pre2 : ∀ t, SP p e below (T1.setTop (mkF m 7 #[vR p0] [(.ref p0)])) t → SP p e below (s₁.setTop (entryFrame m #[(.ref p0)] 1)) t := by
    intro t k
    refine pre0 t ?_
    show SP p e below (s₁.setTop (mkF m 0 #[vR p0] [])) _
    refine st1 _ ?_
    show SP p e below (T1.setTop (mkF m 3 #[vR p0] [(.int cs_)])) _
    refine XS.ifNo X1.here hx rfl (hb hby d20_3) rfl ((if0 _ _).trans (feq (hcs : ¬ (cs_ = (0 : Int32)))).1) ?_
    show SP p e below (T1.setTop (mkF m 6 #[vR p0] [])) _
    refine XS.aloadN X1.here hx rfl (hb hby d20_6) rfl rfl ?_
    exact k
  obtain ⟨T3, X3, e3, st3⟩ := getF X1 hx hZ hown (host := "") (Or.inl (ow hw 26 rfl)) Via.refl e1 F_p0_coder (g := (mkF m 7 #[vR p0] [(.ref p0)])) rfl rfl (hb hby d20_7)
  have pre4 : ∀ t, SP p e below (T3.setTop (mkF m 10 #[vR p0] [(.int (0 : Int32))])) t → SP p e below (s₁.setTop (entryFrame m #[(.ref p0)] 1)) t := by
    intro t k
    refine pre2 t ?_
    show SP p e below (T1.setTop (mkF m 7 #[vR p0] [(.ref p0)])) _
    refine st3 _ ?_
    exact k
  have pre5 : ∀ t, SP p e below (T3.setTop (mkF m 18 #[vR p0] [(.int (1 : Int32))])) t → SP p e below (s₁.setTop (entryFrame m #[(.ref p0)] 1)) t := by
    intro t k
    refine pre4 t ?_
    show SP p e below (T3.setTop (mkF m 10 #[vR p0] [(.int (0 : Int32))])) _
    refine XS.ifNo X3.here hx rfl (hb hby d20_10) rfl ((if0 _ _).trans (teq (by decide : (0 : Int32) = (0 : Int32))).2) ?_
    show SP p e below (T3.setTop (mkF m 13 #[vR p0] [])) _
    refine XS.iconst X3.here hx rfl (hb hby d20_13) ?_
    show SP p e below (T3.setTop (mkF m 14 #[vR p0] [(.int (1 : Int32))])) _
    refine XS.goto X3.here hx rfl (pc0 := 14) (pc' := 18) rfl (hb hby d20_14) (by decide) (by decide) ?_
    exact k
  obtain ⟨fs, hr, hrun, hended, hW, hsame⟩ := X3.leave (v := some (.int (1 : Int32))) (fun h => by rw [Bd.returns] at h; cases h) (BodyLoose.notSynchronized Bd)
  refine ⟨_, _, pre5 _ ?_, hrun, hended, _, _, rfl, ?_, ⟨_, rfl⟩, hW, hsame.mono (by decide) (by decide)⟩
  · show SP p e below (T3.setTop (mkF m 18 #[vR p0] [(.int (1 : Int32))])) _
    exact retN X3 hx (t := .boolean) Bd.returns (by simp) (hb hby d20_18) hr
  · show Q_20L Z p0 cs_ h0 n0 _ T3.heap _
    rw [e3]
    exact ⟨congrArg (fun z => some (Value.int z)) (by rfl : (1 : Int32) = f_20L cs_), N0, rfl⟩
theorem pd_18 : parseMethodDescriptor "()B" = some ⟨[], some .byte⟩ := by decide +kernel
theorem d17_0 : decode jdk_42_method_54_code 0 = .ok (.aload_n 0, 1) := by decide +kernel
theorem d17_1 : decode jdk_42_method_54_code 1 = .ok (.getfield 9, 3) := by decide +kernel
theorem d17_4 : decode jdk_42_method_54_code 4 = .ok (.arraylength, 1) := by decide +kernel
theorem d17_5 : decode jdk_42_method_54_code 5 = .ok (.aload_n 0, 1) := by decide +kernel
theorem d17_6 : decode jdk_42_method_54_code 6 = .ok (.invokevirtual 335, 3) := by decide +kernel
theorem d17_9 : decode jdk_42_method_54_code 9 = .ok (.ishr, 1) := by decide +kernel
theorem d17_10 : decode jdk_42_method_54_code 10 = .ok (.ireturn, 1) := by decide +kernel
theorem pn_17 : plainName "java/lang/String" = true := by first | (simp [plainName, overriddenIn]; done) | decide +kernel
theorem ef_17L0 (m : MethodId) (p0 : Addr) : entryFrame m #[(.ref p0)] 1 = mkF m 0 #[vR p0] [] := by first | (simp [entryFrame, mkF, argsToLocals, Value.category]; done) | rfl
def f_17L0 (cs_ : Int32) (x_ : Nat → Int32) : Int32 := (0 : Int32)
def Q_17L0 (Z : State) (p0 : Addr) (cs_ : Int32) (v_ : Addr) (x_ : Nat → Int32) (h0 : Heap) (n0 : Nat) (v : Option Value) (h : Heap) (L : List Loc) : Prop := v = some (.int (f_17L0 cs_ x_)) ∧ Fr n0 L ∧ h = h0
theorem rm_17L0 (l : Launch) (Z : State) (a0 : Array Value) (hw : ∀ d ∈ tables_1, d.before a0 Z = true) (ws : List Jvm.Cond) (p0 : Addr) (cs_ : Int32) (v_ : Addr) (x_ : Nat → Int32) (h0 : Heap) (n0 : Nat) (Z0 : n0 ≤ h0.size) (S_COMPACT_STRINGS : Sta Z h0 "java/lang/String" "COMPACT_STRINGS" "Z" (.int cs_)) (hcs : ¬ (cs_ = (0 : Int32))) (E_p0 : Exa Z h0 p0 "java/lang/String") (F_p0_value : Fld Z h0 p0 "java/lang/String" "value" "[B" (.ref v_)) (F_p0_coder : Fld Z h0 p0 "java/lang/String" "coder" "B" (.int (0 : Int32))) (A_v_ : own_A Z h0 v_ .byte 0 (fun i => .int (x_ i))) :
    MetFree l (⟨"java/lang/String", "length", "()I"⟩ : MethodName) (head1 (Jvm.Cond.code (⟨"java/lang/String", "length", "()I"⟩ : MethodName) jdk_42_method_54_code 1 (some .int) :: ws) (⟨1, 0, 0, 13⟩ : Room)) (fun a U => a = #[(.ref p0)] ∧ Z.Warmed39 U.vm ∧ U.heap = h0) (fun _ _ _ _ _ => True) (fun _ U o U' => ∃ v L, o = .returned v ∧ Q_17L0 Z p0 cs_ v_ x_ h0 n0 v U'.heap L ∧ FrameEnd U o U' L 0 0) := by
  refine MetFree.of_bodySF (plainFor_of_name pn_17) hisR ?_
  intro p e s m args below meth c s₁ Bd hml0 hP hK
  obtain ⟨rfl, hZ, hh⟩ := hP
  have hx := Bd.exec
  have hby := Bd.bytes
  have hml : c.maxLocals = 1 := hml0
  have hown : s.vm.findClass "java/lang/String" = some m.cls := findClass_of_methodNamed Bd.named
  have hnm := (name_of_methodNamed Bd.named Bd.method).1
  have X0 : Stand p l e (⟨1, 0, 0, 13⟩ : Room) s m #[(.ref p0)] below meth c s₁ [] 0 0 := Stand.of_body Bd
  have e0 : s₁.heap = h0 := by rw [← hh, Bd.state]; rfl
  have N0 := Fr.nil n0
  have K0 : Keep h0 h0 [] := Keep.refl h0 _
  have pre0 : ∀ t, SP p e below (s₁.setTop (mkF m 0 #[vR p0] [])) t → SP p e below (s₁.setTop (entryFrame m #[(.ref p0)] 1)) t := fun t k => castTop (ef_17L0 m p0) k
  have pre1 : ∀ t, SP p e below (s₁.setTop (mkF m 1 #[vR p0] [(.ref p0)])) t → SP p e below (s₁.setTop (entryFrame m #[(.ref p0)] 1)) t := by
    intro t k
    refine pre0 t ?_
    show SP p e below (s₁.setTop (mkF m 0 #[vR p0] [])) _
    refine XS.aloadN X0.here hx rfl (hb hby d17_0) rfl rfl ?_
    exact k
  obtain ⟨T2, X2, e2, st2⟩ := getF X0 hx hZ hown (host := "") (Or.inl (ow hw 25 rfl)) Via.refl e0 F_p0_value (g := (mkF m 1 #[vR p0] [(.ref p0)])) rfl rfl (hb hby d17_1)
  have pre4 : ∀ t, SP p e below (T2.setTop (mkF m 6 #[vR p0] [(.ref p0), (.int (0 : Int32))])) t → SP p e below (s₁.setTop (entryFrame m #[(.ref p0)] 1)) t := by
    intro t k
    refine pre1 t ?_
    show SP p e below (s₁.setTop (mkF m 1 #[vR p0] [(.ref p0)])) _
    refine st2 _ ?_
    show SP p e below (T2.setTop (mkF m 4 #[vR p0] [(.ref v_)])) _
    refine own_len X2 hx hZ e2 A_v_ (z := (0 : Int32)) rfl (g := (mkF m 4 #[vR p0] [(.ref v_)])) rfl rfl (hb hby d17_4) ?_
    show SP p e below (T2.setTop (mkF m 5 #[vR p0] [(.int (0 : Int32))])) _
    refine XS.aloadN X2.here hx rfl (hb hby d17_5) rfl rfl ?_
    exact k
  obtain ⟨cq3, kq3, q3a, q3b, q3c⟩ := isOf hZ e2 E_p0
  obtain ⟨_, _, ⟨T3, L3, k3, n3⟩, -, X3, ⟨Lc3, hQ3, l3, y3, z3⟩, st3⟩ := X2.virtualBack hx (y := (⟨"java/lang/String", "coder", "()B"⟩ : MethodName)) (z := (⟨"java/lang/String", "coder", "()B"⟩ : MethodName)) hown (mvT hZ (ow hw 81 rfl)) (mvT hZ (ow hw 82 rfl)) (notFace_of_selects (args := #[]) (mvT hZ (ow hw 84 rfl))) (mvT hZ (ow hw 84 rfl)) (mvT hZ (ow hw 83 rfl)) (by decide) (backOf (W := 1) (rm_18L l Z a0 hw [] p0 cs_ h0 n0 Z0 S_COMPACT_STRINGS hcs F_p0_coder) hZ (ow hw 85 rfl) (ow hw 7 rfl) (by decide) (by decide)) q3a q3c (g := (mkF m 6 #[vR p0] [(.ref p0), (.int (0 : Int32))])) rfl (by rw [hml]; rfl) (Steps.refl _) (argsL := []) (rest := [(.int (0 : Int32))]) (lenOf pd_18 rfl) rfl own_le0 (hb hby d17_6) (fun _ _ => ⟨rfl, e2, (by decide : 0 + 0 ≤ _), (by decide : 0 + 0 ≤ _)⟩)
  dsimp only [Pt.U, Pt.locs, Pt.cells, Pt.slots] at X3 l3 y3 z3 st3 hQ3
  rw [l3, y3, z3] at X3
  obtain ⟨rfl, N3q, e3⟩ := hQ3
  have N3 := Fr.app N0 N3q
  have pre5 : ∀ t, SP p e below (T3.setTop (mkF m 10 #[vR p0] [(.int ((0 : Int32) >>> ((f_18L cs_) &&& 31)))])) t → SP p e below (s₁.setTop (entryFrame m #[(.ref p0)] 1)) t := by
    intro t k
    refine pre4 t ?_
    show SP p e below (T2.setTop (mkF m 6 #[vR p0] [(.ref p0), (.int (0 : Int32))])) _
    refine st3.trans ?_
    show SP p e below (T3.setTop (mkF m 9 #[vR p0] [(.int (f_18L cs_)), (.int (0 : Int32))])) _
    refine XS.ishr X3.here hx rfl (hb hby d17_9) rfl ?_
    exact k
  have hl6 : ((0 : Int32) >>> ((f_18L cs_) &&& 31)) = (0 : Int32) := (by rw [show f_18L cs_ = (0 : Int32) from rfl]; decide)
  have preL6 : ∀ t, SP p e below (T3.setTop (mkF m 10 #[vR p0] [(.int (0 : Int32))])) t → SP p e below (s₁.setTop (entryFrame m #[(.ref p0)] 1)) t := by
    intro t k_
    refine pre5 t ?_
    rw [hl6]
    exact k_
  obtain ⟨fs, hr, hrun, hended, hW, hsame⟩ := X3.leave (v := some (.int (0 : Int32))) (fun h => by rw [Bd.returns] at h; cases h) (BodyLoose.notSynchronized Bd)
  refine ⟨_, _, preL6 _ ?_, hrun, hended, _, _, rfl, ?_, ⟨_, rfl⟩, hW, hsame.mono (by decide) (by decide)⟩
  · show SP p e below (T3.setTop (mkF m 10 #[vR p0] [(.int (0 : Int32))])) _
    exact retI X3 hx Bd.returns (hb hby d17_10) hr
  · show Q_17L0 Z p0 cs_ v_ x_ h0 n0 _ T3.heap _
    rw [e3]
    exact ⟨congrArg (fun z => some (Value.int z)) (by rfl : (0 : Int32) = f_17L0 cs_ x_), N3, rfl⟩
theorem pd_19 : parseMethodDescriptor "()I" = some ⟨[], some .int⟩ := by decide +kernel
theorem d16_0 : decode prog_23_method_7_code 0 = .ok (.lload_n 0, 1) := by decide +kernel
theorem d16_1 : decode prog_23_method_7_code 1 = .ok (.lstore_n 3, 1) := by decide +kernel
theorem d16_2 : decode prog_23_method_7_code 2 = .ok (.iconst 0, 1) := by decide +kernel
theorem d16_3 : decode prog_23_method_7_code 3 = .ok (.istore 5, 2) := by decide +kernel
theorem d16_5 : decode prog_23_method_7_code 5 = .ok (.iload 5, 2) := by decide +kernel
theorem d16_7 : decode prog_23_method_7_code 7 = .ok (.aload_n 2, 1) := by decide +kernel
theorem d16_8 : decode prog_23_method_7_code 8 = .ok (.invokevirtual 50, 3) := by decide +kernel
theorem d16_11 : decode prog_23_method_7_code 11 = .ok (.if_icmp .ge 23, 3) := by decide +kernel
theorem d16_34 : decode prog_23_method_7_code 34 = .ok (.lload_n 3, 1) := by decide +kernel
theorem d16_35 : decode prog_23_method_7_code 35 = .ok (.lreturn, 1) := by decide +kernel
theorem pn_16 : plainName "com/example/tern/tern/store/HashIndex" = true := by first | (simp [plainName, overriddenIn]; done) | decide +kernel
theorem ef_16L0 (m : MethodId) (p0 : Int64) (p1 : Addr) : entryFrame m #[(.long p0), (.ref p1)] 6 = mkF m 0 #[vJ p0, .second, vR p1, .unset, .unset, .unset] [] := by first | (simp [entryFrame, mkF, argsToLocals, Value.category]; done) | rfl
def f_16L0 (p0 : Int64) (cs_ : Int32) (x_ : Nat → Int32) : Int64 := p0
def Q_16L0 (Z : State) (p0 : Int64) (p1 : Addr) (cs_ : Int32) (v_ : Addr) (x_ : Nat → Int32) (fm_ : Value) (h0 : Heap) (n0 : Nat) (v : Option Value) (h : Heap) (L : List Loc) : Prop := v = some (.long (f_16L0 p0 cs_ x_)) ∧ Fr n0 L ∧ h = h0
theorem rm_16L0 (l : Launch) (Z : State) (a0 : Array Value) (hw : ∀ d ∈ tables_1, d.before a0 Z = true) (ws : List Jvm.Cond) (p0 : Int64) (p1 : Addr) (cs_ : Int32) (v_ : Addr) (x_ : Nat → Int32) (fm_ : Value) (h0 : Heap) (n0 : Nat) (Z0 : n0 ≤ h0.size) (S_COMPACT_STRINGS : Sta Z h0 "java/lang/String" "COMPACT_STRINGS" "Z" (.int cs_)) (hcs : ¬ (cs_ = (0 : Int32))) (E_p1 : Exa Z h0 p1 "java/lang/String") (F_p1_value : Fld Z h0 p1 "java/lang/String" "value" "[B" (.ref v_)) (F_p1_coder : Fld Z h0 p1 "java/lang/String" "coder" "B" (.int (0 : Int32))) (A_v_ : own_A Z h0 v_ .byte 0 (fun i => .int (x_ i))) (S_SIOOBE_FORMATTER : Sta Z h0 "jdk/internal/util/Preconditions" "SIOOBE_FORMATTER" "Ljava/util/function/BiFunction;" fm_) (hfm : fm_ = Value.null ∨ ∃ a, fm_ = Value.ref a) (S__assertionsDisabled : Sta Z h0 "java/lang/StringUTF16" "$assertionsDisabled" "Z" (.int (1 : Int32))) (S_HI_BYTE_SHIFT : Sta Z h0 "java/lang/StringUTF16" "HI_BYTE_SHIFT" "I" (.int (0 : Int32))) (S_LO_BYTE_SHIFT : Sta Z h0 "java/lang/StringUTF16" "LO_BYTE_SHIFT" "I" (.int (8 : Int32))) :
    MetFree l (⟨"com/example/tern/tern/store/HashIndex", "hash", "(JLjava/lang/String;)J"⟩ : MethodName) (head1 (Jvm.Cond.code (⟨"com/example/tern/tern/store/HashIndex", "hash", "(JLjava/lang/String;)J"⟩ : MethodName) prog_23_method_7_code 6 (some .long) :: ws) (⟨5, 0, 0, 68⟩ : Room)) (fun a U => a = #[(.long p0), (.ref p1)] ∧ Z.Warmed39 U.vm ∧ U.heap = h0) (fun _ _ _ _ _ => True) (fun _ U o U' => ∃ v L, o = .returned v ∧ Q_16L0 Z p0 p1 cs_ v_ x_ fm_ h0 n0 v U'.heap L ∧ FrameEnd U o U' L 0 0) := by
  refine MetFree.of_bodySF (plainFor_of_name pn_16) hisR ?_
  intro p e s m args below meth c s₁ Bd hml0 hP hK
  obtain ⟨rfl, hZ, hh⟩ := hP
  have hx := Bd.exec
  have hby := Bd.bytes
  have hml : c.maxLocals = 6 := hml0
  have hown : s.vm.findClass "com/example/tern/tern/store/HashIndex" = some m.cls := findClass_of_methodNamed Bd.named
  have hnm := (name_of_methodNamed Bd.named Bd.method).1
  have X0 : Stand p l e (⟨5, 0, 0, 68⟩ : Room) s m #[(.long p0), (.ref p1)] below meth c s₁ [] 0 0 := Stand.of_body Bd
  have e0 : s₁.heap = h0 := by rw [← hh, Bd.state]; rfl
  have N0 := Fr.nil n0
  have K0 : Keep h0 h0 [] := Keep.refl h0 _
  have pre0 : ∀ t, SP p e below (s₁.setTop (mkF m 0 #[vJ p0, .second, vR p1, .unset, .unset, .unset] [])) t → SP p e below (s₁.setTop (entryFrame m #[(.long p0), (.ref p1)] 6)) t := fun t k => castTop (ef_16L0 m p0 p1) k
  have pre2 : ∀ t, SP p e below (s₁.setTop (mkF m 8 #[vJ p0, .second, vR p1, vJ p0, .second, vI (0 : Int32)] [(.ref p1), (.int (0 : Int32))])) t → SP p e below (s₁.setTop (entryFrame m #[(.long p0), (.ref p1)] 6)) t := by
    intro t k
    refine pre0 t ?_
    show SP p e below (s₁.setTop (mkF m 0 #[vJ p0, .second, vR p1, .unset, .unset, .unset] [])) _
    refine XS.lloadN X0.here hx rfl (hb hby d16_0) rfl  ?_
    show SP p e below (s₁.setTop (mkF m 1 #[vJ p0, .second, vR p1, .unset, .unset, .unset] [(.long p0)])) _
    refine XS.lstoreN X0.here hx rfl (hb hby d16_1) rfl (l' := #[vJ p0, .second, vR p1, vJ p0, .second, .unset]) rfl ?_
    show SP p e below (s₁.setTop (mkF m 2 #[vJ p0, .second, vR p1, vJ p0, .second, .unset] [])) _
    refine XS.iconst X0.here hx rfl (hb hby d16_2) ?_
    show SP p e below (s₁.setTop (mkF m 3 #[vJ p0, .second, vR p1, vJ p0, .second, .unset] [(.int (0 : Int32))])) _
    refine XS.istore X0.here hx rfl (hb hby d16_3) rfl (l' := #[vJ p0, .second, vR p1, vJ p0, .second, vI (0 : Int32)]) rfl ?_
    show SP p e below (s₁.setTop (mkF m 5 #[vJ p0, .second, vR p1, vJ p0, .second, vI (0 : Int32)] [])) _
    refine XS.iload X0.here hx rfl (hb hby d16_5) rfl  ?_
    show SP p e below (s₁.setTop (mkF m 7 #[vJ p0, .second, vR p1, vJ p0, .second, vI (0 : Int32)] [(.int (0 : Int32))])) _
    refine XS.aloadN X0.here hx rfl (hb hby d16_7) rfl rfl ?_
    exact k
  obtain ⟨cq1, kq1, q1a, q1b, q1c⟩ := isOf hZ e0 E_p1
  obtain ⟨_, _, ⟨T1, L1, k1, n1⟩, -, X1, ⟨Lc1, hQ1, l1, y1, z1⟩, st1⟩ := X0.virtualBack hx (y := (⟨"java/lang/String", "length", "()I"⟩ : MethodName)) (z := (⟨"java/lang/String", "length", "()I"⟩ : MethodName)) hown (mvT hZ (ow hw 76 rfl)) (mvT hZ (ow hw 77 rfl)) (notFace_of_selects (args := #[]) (mvT hZ (ow hw 79 rfl))) (mvT hZ (ow hw 79 rfl)) (mvT hZ (ow hw 78 rfl)) (by decide) (backOf (W := 1) (rm_17L0 l Z a0 hw [] p1 cs_ v_ x_ h0 n0 Z0 S_COMPACT_STRINGS hcs E_p1 F_p1_value F_p1_coder A_v_) hZ (ow hw 80 rfl) (ow hw 7 rfl) (by decide) (by decide)) q1a q1c (g := (mkF m 8 #[vJ p0, .second, vR p1, vJ p0, .second, vI (0 : Int32)] [(.ref p1), (.int (0 : Int32))])) rfl (by rw [hml]; rfl) (Steps.refl _) (argsL := []) (rest := [(.int (0 : Int32))]) (lenOf pd_19 rfl) rfl own_le0 (hb hby d16_8) (fun _ _ => ⟨rfl, e0, (by decide : 0 + 0 ≤ _), (by decide : 0 + 0 ≤ _)⟩)
  dsimp only [Pt.U, Pt.locs, Pt.cells, Pt.slots] at X1 l1 y1 z1 st1 hQ1
  rw [l1, y1, z1] at X1
  obtain ⟨rfl, N1q, e1⟩ := hQ1
  have N1 := Fr.app N0 N1q
  have pre3 : ∀ t, SP p e below (T1.setTop (mkF m 11 #[vJ p0, .second, vR p1, vJ p0, .second, vI (0 : Int32)] [(.int (f_17L0 cs_ x_)), (.int (0 : Int32))])) t → SP p e below (s₁.setTop (entryFrame m #[(.long p0), (.ref p1)] 6)) t := by
    intro t k
    refine pre2 t ?_
    show SP p e below (s₁.setTop (mkF m 8 #[vJ p0, .second, vR p1, vJ p0, .second, vI (0 : Int32)] [(.ref p1), (.int (0 : Int32))])) _
    refine st1.trans ?_
    exact k
  have hl4 : (f_17L0 cs_ x_) = (0 : Int32) := rfl
  have preL4 : ∀ t, SP p e below (T1.setTop (mkF m 11 #[vJ p0, .second, vR p1, vJ p0, .second, vI (0 : Int32)] [(.int (0 : Int32)), (.int (0 : Int32))])) t → SP p e below (s₁.setTop (entryFrame m #[(.long p0), (.ref p1)] 6)) t := by
    intro t k_
    refine pre3 t ?_
    rw [hl4]
    exact k_
  obtain ⟨fs, hr, hrun, hended, hW, hsame⟩ := X1.leave (v := some (.long p0)) (fun h => by rw [Bd.returns] at h; cases h) (BodyLoose.notSynchronized Bd)
  refine ⟨_, _, preL4 _ ?_, hrun, hended, _, _, rfl, ?_, ⟨_, rfl⟩, hW, hsame.mono (by decide) (by decide)⟩
  · show SP p e below (T1.setTop (mkF m 11 #[vJ p0, .second, vR p1, vJ p0, .second, vI (0 : Int32)] [(.int (0 : Int32)), (.int (0 : Int32))])) _
    refine XS.icmpYes X1.here hx rfl (pc0 := 11) (pc' := 34) rfl (hb hby d16_11) rfl (flt (by decide : ¬ ((0 : Int32) < (0 : Int32)))).2.1 (by decide) (by decide) ?_
    show SP p e below (T1.setTop (mkF m 34 #[vJ p0, .second, vR p1, vJ p0, .second, vI (0 : Int32)] [])) _
    refine XS.lloadN X1.here hx rfl (hb hby d16_34) rfl  ?_
    show SP p e below (T1.setTop (mkF m 35 #[vJ p0, .second, vR p1, vJ p0, .second, vI (0 : Int32)] [(.long p0)])) _
    exact retOut X1 hx Bd.returns rfl (Or.inr (Or.inl ⟨rfl, rfl, _, rfl⟩)) (hb hby d16_35) hr
  · show Q_16L0 Z p0 p1 cs_ v_ x_ fm_ h0 n0 _ T1.heap _
    rw [e1]
    exact ⟨congrArg (fun z => some (Value.long z)) (by rfl : p0 = f_16L0 p0 cs_ x_), N1, rfl⟩
theorem ef_17L1 (m : MethodId) (p0 : Addr) : entryFrame m #[(.ref p0)] 1 = mkF m 0 #[vR p0] [] := by first | (simp [entryFrame, mkF, argsToLocals, Value.category]; done) | rfl
def f_17L1 (cs_ : Int32) (x_ : Nat → Int32) : Int32 := (1 : Int32)
def Q_17L1 (Z : State) (p0 : Addr) (cs_ : Int32) (v_ : Addr) (x_ : Nat → Int32) (h0 : Heap) (n0 : Nat) (v : Option Value) (h : Heap) (L : List Loc) : Prop := v = some (.int (f_17L1 cs_ x_)) ∧ Fr n0 L ∧ h = h0
theorem rm_17L1 (l : Launch) (Z : State) (a0 : Array Value) (hw : ∀ d ∈ tables_1, d.before a0 Z = true) (ws : List Jvm.Cond) (p0 : Addr) (cs_ : Int32) (v_ : Addr) (x_ : Nat → Int32) (h0 : Heap) (n0 : Nat) (Z0 : n0 ≤ h0.size) (S_COMPACT_STRINGS : Sta Z h0 "java/lang/String" "COMPACT_STRINGS" "Z" (.int cs_)) (hcs : ¬ (cs_ = (0 : Int32))) (E_p0 : Exa Z h0 p0 "java/lang/String") (F_p0_value : Fld Z h0 p0 "java/lang/String" "value" "[B" (.ref v_)) (F_p0_coder : Fld Z h0 p0 "java/lang/String" "coder" "B" (.int (0 : Int32))) (A_v_ : own_A Z h0 v_ .byte 1 (fun i => .int (x_ i))) :
    MetFree l (⟨"java/lang/String", "length", "()I"⟩ : MethodName) (head1 (Jvm.Cond.code (⟨"java/lang/String", "length", "()I"⟩ : MethodName) jdk_42_method_54_code 1 (some .int) :: ws) (⟨1, 0, 0, 13⟩ : Room)) (fun a U => a = #[(.ref p0)] ∧ Z.Warmed39 U.vm ∧ U.heap = h0) (fun _ _ _ _ _ => True) (fun _ U o U' => ∃ v L, o = .returned v ∧ Q_17L1 Z p0 cs_ v_ x_ h0 n0 v U'.heap L ∧ FrameEnd U o U' L 0 0) := by
  refine MetFree.of_bodySF (plainFor_of_name pn_17) hisR ?_
  intro p e s m args below meth c s₁ Bd hml0 hP hK
  obtain ⟨rfl, hZ, hh⟩ := hP
  have hx := Bd.exec
  have hby := Bd.bytes
  have hml : c.maxLocals = 1 := hml0
  have hown : s.vm.findClass "java/lang/String" = some m.cls := findClass_of_methodNamed Bd.named
  have hnm := (name_of_methodNamed Bd.named Bd.method).1
  have X0 : Stand p l e (⟨1, 0, 0, 13⟩ : Room) s m #[(.ref p0)] below meth c s₁ [] 0 0 := Stand.of_body Bd
  have e0 : s₁.heap = h0 := by rw [← hh, Bd.state]; rfl
  have N0 := Fr.nil n0
  have K0 : Keep h0 h0 [] := Keep.refl h0 _
  have pre0 : ∀ t, SP p e below (s₁.setTop (mkF m 0 #[vR p0] [])) t → SP p e below (s₁.setTop (entryFrame m #[(.ref p0)] 1)) t := fun t k => castTop (ef_17L1 m p0) k
  have pre1 : ∀ t, SP p e below (s₁.setTop (mkF m 1 #[vR p0] [(.ref p0)])) t → SP p e below (s₁.setTop (entryFrame m #[(.ref p0)] 1)) t := by
    intro t k
    refine pre0 t ?_
    show SP p e below (s₁.setTop (mkF m 0 #[vR p0] [])) _
    refine XS.aloadN X0.here hx rfl (hb hby d17_0) rfl rfl ?_
    exact k
  obtain ⟨T2, X2, e2, st2⟩ := getF X0 hx hZ hown (host := "") (Or.inl (ow hw 25 rfl)) Via.refl e0 F_p0_value (g := (mkF m 1 #[vR p0] [(.ref p0)])) rfl rfl (hb hby d17_1)
  have pre4 : ∀ t, SP p e below (T2.setTop (mkF m 6 #[vR p0] [(.ref p0), (.int (1 : Int32))])) t → SP p e below (s₁.setTop (entryFrame m #[(.ref p0)] 1)) t := by
    intro t k
    refine pre1 t ?_
    show SP p e below (s₁.setTop (mkF m 1 #[vR p0] [(.ref p0)])) _
    refine st2 _ ?_
    show SP p e below (T2.setTop (mkF m 4 #[vR p0] [(.ref v_)])) _
    refine own_len X2 hx hZ e2 A_v_ (z := (1 : Int32)) rfl (g := (mkF m 4 #[vR p0] [(.ref v_)])) rfl rfl (hb hby d17_4) ?_
    show SP p e below (T2.setTop (mkF m 5 #[vR p0] [(.int (1 : Int32))])) _
    refine XS.aloadN X2.here hx rfl (hb hby d17_5) rfl rfl ?_
    exact k
  obtain ⟨cq3, kq3, q3a, q3b, q3c⟩ := isOf hZ e2 E_p0
  obtain ⟨_, _, ⟨T3, L3, k3, n3⟩, -, X3, ⟨Lc3, hQ3, l3, y3, z3⟩, st3⟩ := X2.virtualBack hx (y := (⟨"java/lang/String", "coder", "()B"⟩ : MethodName)) (z := (⟨"java/lang/String", "coder", "()B"⟩ : MethodName)) hown (mvT hZ (ow hw 81 rfl)) (mvT hZ (ow hw 82 rfl)) (notFace_of_selects (args := #[]) (mvT hZ (ow hw 84 rfl))) (mvT hZ (ow hw 84 rfl)) (mvT hZ (ow hw 83 rfl)) (by decide) (backOf (W := 1) (rm_18L l Z a0 hw [] p0 cs_ h0 n0 Z0 S_COMPACT_STRINGS hcs F_p0_coder) hZ (ow hw 85 rfl) (ow hw 7 rfl) (by decide) (by decide)) q3a q3c (g := (mkF m 6 #[vR p0] [(.ref p0), (.int (1 : Int32))])) rfl (by rw [hml]; rfl) (Steps.refl _) (argsL := []) (rest := [(.int (1 : Int32))]) (lenOf pd_18 rfl) rfl own_le0 (hb hby d17_6) (fun _ _ => ⟨rfl, e2, (by decide : 0 + 0 ≤ _), (by decide : 0 + 0 ≤ _)⟩)
  dsimp only [Pt.U, Pt.locs, Pt.cells, Pt.slots] at X3 l3 y3 z3 st3 hQ3
  rw [l3, y3, z3] at X3
  obtain ⟨rfl, N3q, e3⟩ := hQ3
  have N3 := Fr.app N0 N3q
  have pre5 : ∀ t, SP p e below (T3.setTop (mkF m 10 #[vR p0] [(.int ((1 : Int32) >>> ((f_18L cs_) &&& 31)))])) t → SP p e below (s₁.setTop (entryFrame m #[(.ref p0)] 1)) t := by
    intro t k
    refine pre4 t ?_
    show SP p e below (T2.setTop (mkF m 6 #[vR p0] [(.ref p0), (.int (1 : Int32))])) _
    refine st3.trans ?_
    show SP p e below (T3.setTop (mkF m 9 #[vR p0] [(.int (f_18L cs_)), (.int (1 : Int32))])) _
    refine XS.ishr X3.here hx rfl (hb hby d17_9) rfl ?_
    exact k
  have hl6 : ((1 : Int32) >>> ((f_18L cs_) &&& 31)) = (1 : Int32) := (by rw [show f_18L cs_ = (0 : Int32) from rfl]; decide)
  have preL6 : ∀ t, SP p e below (T3.setTop (mkF m 10 #[vR p0] [(.int (1 : Int32))])) t → SP p e below (s₁.setTop (entryFrame m #[(.ref p0)] 1)) t := by
    intro t k_
    refine pre5 t ?_
    rw [hl6]
    exact k_
  obtain ⟨fs, hr, hrun, hended, hW, hsame⟩ := X3.leave (v := some (.int (1 : Int32))) (fun h => by rw [Bd.returns] at h; cases h) (BodyLoose.notSynchronized Bd)
  refine ⟨_, _, preL6 _ ?_, hrun, hended, _, _, rfl, ?_, ⟨_, rfl⟩, hW, hsame.mono (by decide) (by decide)⟩
  · show SP p e below (T3.setTop (mkF m 10 #[vR p0] [(.int (1 : Int32))])) _
    exact retI X3 hx Bd.returns (hb hby d17_10) hr
  · show Q_17L1 Z p0 cs_ v_ x_ h0 n0 _ T3.heap _
    rw [e3]
    exact ⟨congrArg (fun z => some (Value.int z)) (by rfl : (1 : Int32) = f_17L1 cs_ x_), N3, rfl⟩
theorem d21_0 : decode jdk_43_method_2_code 0 = .ok (.iload_n 1, 1) := by decide +kernel
theorem d21_1 : decode jdk_43_method_2_code 1 = .ok (.aload_n 0, 1) := by decide +kernel
theorem d21_2 : decode jdk_43_method_2_code 2 = .ok (.arraylength, 1) := by decide +kernel
theorem d21_3 : decode jdk_43_method_2_code 3 = .ok (.invokestatic 9, 3) := by decide +kernel
theorem d21_6 : decode jdk_43_method_2_code 6 = .ok (.aload_n 0, 1) := by decide +kernel
theorem d21_7 : decode jdk_43_method_2_code 7 = .ok (.iload_n 1, 1) := by decide +kernel
theorem d21_8 : decode jdk_43_method_2_code 8 = .ok (.baload, 1) := by decide +kernel
theorem d21_9 : decode jdk_43_method_2_code 9 = .ok (.sipush 255, 3) := by decide +kernel
theorem d21_12 : decode jdk_43_method_2_code 12 = .ok (.iand, 1) := by decide +kernel
theorem d21_13 : decode jdk_43_method_2_code 13 = .ok (.i2c, 1) := by decide +kernel
theorem d21_14 : decode jdk_43_method_2_code 14 = .ok (.ireturn, 1) := by decide +kernel
theorem pn_21 : plainName "java/lang/StringLatin1" = true := by first | (simp [plainName, overriddenIn]; done) | decide +kernel
theorem ef_21L10 (m : MethodId) (p0 : Addr) : entryFrame m #[(.ref p0), (.int (0 : Int32))] 2 = mkF m 0 #[vR p0, vI (0 : Int32)] [] := by first | (simp [entryFrame, mkF, argsToLocals, Value.category]; done) | rfl
def f_21L10 (x_ : Nat → Int32) : Int32 := (nar .char (((x_ 0) &&& (255 : Int32)).toUInt32.toUInt16.toUInt32.toInt32))
def Q_21L10 (Z : State) (p0 : Addr) (x_ : Nat → Int32) (fm_ : Value) (h0 : Heap) (n0 : Nat) (v : Option Value) (h : Heap) (L : List Loc) : Prop := v = some (.int (f_21L10 x_)) ∧ Fr n0 L ∧ h = h0
theorem rm_21L10 (l : Launch) (Z : State) (a0 : Array Value) (hw : ∀ d ∈ tables_1, d.before a0 Z = true) (ws : List Jvm.Cond) (p0 : Addr) (x_ : Nat → Int32) (fm_ : Value) (h0 : Heap) (n0 : Nat) (Z0 : n0 ≤ h0.size) (A_p0 : own_A Z h0 p0 .byte 1 (fun i => .int (x_ i))) (S_SIOOBE_FORMATTER : Sta Z h0 "jdk/internal/util/Preconditions" "SIOOBE_FORMATTER" "Ljava/util/function/BiFunction;" fm_) (hfm : fm_ = Value.null ∨ ∃ a, fm_ = Value.ref a) :
    MetFree l (⟨"java/lang/StringLatin1", "charAt", "([BI)C"⟩ : MethodName) (head1 (Jvm.Cond.code (⟨"java/lang/StringLatin1", "charAt", "([BI)C"⟩ : MethodName) jdk_43_method_2_code 2 (some .char) :: ws) (⟨2, 0, 0, 27⟩ : Room)) (fun a U => a = #[(.ref p0), (.int (0 : Int32))] ∧ Z.Warmed39 U.vm ∧ U.heap = h0) (fun _ _ _ _ _ => True) (fun _ U o U' => ∃ v L, o = .returned v ∧ Q_21L10 Z p0 x_ fm_ h0 n0 v U'.heap L ∧ FrameEnd U o U' L 0 0) := by
  refine MetFree.of_bodySF (plainFor_of_name pn_21) hisR ?_
  intro p e s m args below meth c s₁ Bd hml0 hP hK
  obtain ⟨rfl, hZ, hh⟩ := hP
  have hx := Bd.exec
  have hby := Bd.bytes
  have hml : c.maxLocals = 2 := hml0
  have hown : s.vm.findClass "java/lang/StringLatin1" = some m.cls := findClass_of_methodNamed Bd.named
  have hnm := (name_of_methodNamed Bd.named Bd.method).1
  have X0 : Stand p l e (⟨2, 0, 0, 27⟩ : Room) s m #[(.ref p0), (.int (0 : Int32))] below meth c s₁ [] 0 0 := Stand.of_body Bd
  have e0 : s₁.heap = h0 := by rw [← hh, Bd.state]; rfl
  have N0 := Fr.nil n0
  have K0 : Keep h0 h0 [] := Keep.refl h0 _
  have pre0 : ∀ t, SP p e below (s₁.setTop (mkF m 0 #[vR p0, vI (0 : Int32)] [])) t → SP p e below (s₁.setTop (entryFrame m #[(.ref p0), (.int (0 : Int32))] 2)) t := fun t k => castTop (ef_21L10 m p0) k
  have pre2 : ∀ t, SP p e below (s₁.setTop (mkF m 3 #[vR p0, vI (0 : Int32)] [(.int (1 : Int32)), (.int (0 : Int32))])) t → SP p e below (s₁.setTop (entryFrame m #[(.ref p0), (.int (0 : Int32))] 2)) t := by
    intro t k
    refine pre0 t ?_
    show SP p e below (s₁.setTop (mkF m 0 #[vR p0, vI (0 : Int32)] [])) _
    refine XS.iloadN X0.here hx rfl (hb hby d21_0) rfl  ?_
    show SP p e below (s₁.setTop (mkF m 1 #[vR p0, vI (0 : Int32)] [(.int (0 : Int32))])) _
    refine XS.aloadN X0.here hx rfl (hb hby d21_1) rfl rfl ?_
    show SP p e below (s₁.setTop (mkF m 2 #[vR p0, vI (0 : Int32)] [(.ref p0), (.int (0 : Int32))])) _
    refine own_len X0 hx hZ e0 A_p0 (z := (1 : Int32)) rfl (g := (mkF m 2 #[vR p0, vI (0 : Int32)] [(.ref p0), (.int (0 : Int32))])) rfl rfl (hb hby d21_2) ?_
    exact k
  obtain ⟨_, _, ⟨T1, L1, k1, n1⟩, -, X1, ⟨Lc1, hQ1, l1, y1, z1⟩, st1⟩ := Jvm.LawKit.callS X0 hx (y := (⟨"java/lang/String", "checkIndex", "(II)V"⟩ : MethodName)) hown (mvT hZ (ow hw 99 rfl)) (mvT hZ (ow hw 100 rfl)) (mvT hZ (ow hw 7 rfl)) (mvT hZ (ow hw 101 rfl)) (by decide) (backOf (W := 0) (rm_22 l Z a0 hw [] (0 : Int32) (1 : Int32) fm_ h0 n0 Z0 S_SIOOBE_FORMATTER hfm (by decide) (by decide)) hZ (ow hw 101 rfl) (ow hw 7 rfl) (by decide) (by decide)) (g := (mkF m 3 #[vR p0, vI (0 : Int32)] [(.int (1 : Int32)), (.int (0 : Int32))])) rfl (by rw [hml]; rfl) (argsL := [(.int (0 : Int32)), (.int (1 : Int32))]) (rest := []) (lenOf pd_3 rfl) rfl own_le0 (hb hby d21_3) (fun _ _ => ⟨rfl, e0, (by decide : 0 + 0 ≤ _), (by decide : 0 + 0 ≤ _)⟩)
  dsimp only [Pt.U, Pt.locs, Pt.cells, Pt.slots] at X1 l1 y1 z1 st1 hQ1
  rw [l1, y1, z1] at X1
  obtain ⟨rfl, N1q, e1⟩ := hQ1
  have N1 := Fr.app N0 N1q
  obtain ⟨fs, hr, hrun, hended, hW, hsame⟩ := X1.leave (v := some (.int (nar .char (((x_ 0) &&& (255 : Int32)).toUInt32.toUInt16.toUInt32.toInt32)))) (fun h => by rw [Bd.returns] at h; cases h) (BodyLoose.notSynchronized Bd)
  refine ⟨_, _, pre2 _ ?_, hrun, hended, _, _, rfl, ?_, ⟨_, rfl⟩, hW, hsame.mono (by decide) (by decide)⟩
  · show SP p e below (s₁.setTop (mkF m 3 #[vR p0, vI (0 : Int32)] [(.int (1 : Int32)), (.int (0 : Int32))])) _
    refine st1 _ ?_
    show SP p e below (T1.setTop (mkF m 6 #[vR p0, vI (0 : Int32)] [])) _
    refine XS.aloadN X1.here hx rfl (hb hby d21_6) rfl rfl ?_
    show SP p e below (T1.setTop (mkF m 7 #[vR p0, vI (0 : Int32)] [(.ref p0)])) _
    refine XS.iloadN X1.here hx rfl (hb hby d21_7) rfl  ?_
    show SP p e below (T1.setTop (mkF m 8 #[vR p0, vI (0 : Int32)] [(.int (0 : Int32)), (.ref p0)])) _
    refine own_ldB X1 hx hZ e1 A_p0 (j := (0 : Int32)) (k := 0) (by decide) (by decide) (by decide) (g := (mkF m 8 #[vR p0, vI (0 : Int32)] [(.int (0 : Int32)), (.ref p0)])) rfl rfl (hb hby d21_8) ?_
    show SP p e below (T1.setTop (mkF m 9 #[vR p0, vI (0 : Int32)] [(.int (x_ 0))])) _
    refine XS.sipush X1.here hx rfl (hb hby d21_9) ?_
    show SP p e below (T1.setTop (mkF m 12 #[vR p0, vI (0 : Int32)] [(.int (255 : Int32)), (.int (x_ 0))])) _
    refine XS.iand X1.here hx rfl (hb hby d21_12) rfl ?_
    show SP p e below (T1.setTop (mkF m 13 #[vR p0, vI (0 : Int32)] [(.int ((x_ 0) &&& (255 : Int32)))])) _
    refine XS.i2c X1.here hx rfl (hb hby d21_13) rfl ?_
    show SP p e below (T1.setTop (mkF m 14 #[vR p0, vI (0 : Int32)] [(.int (((x_ 0) &&& (255 : Int32)).toUInt32.toUInt16.toUInt32.toInt32))])) _
    exact retN X1 hx (t := .char) Bd.returns (by simp) (hb hby d21_14) hr
  · show Q_21L10 Z p0 x_ fm_ h0 n0 _ T1.heap _
    rw [e1]
    exact ⟨congrArg (fun z => some (Value.int z)) (by rfl : (nar .char (((x_ 0) &&& (255 : Int32)).toUInt32.toUInt16.toUInt32.toInt32)) = f_21L10 x_), N1, rfl⟩
theorem pd_20 : parseMethodDescriptor "()Z" = some ⟨[], some .boolean⟩ := by decide +kernel
theorem d19_0 : decode jdk_42_method_56_code 0 = .ok (.aload_n 0, 1) := by decide +kernel
theorem d19_1 : decode jdk_42_method_56_code 1 = .ok (.invokevirtual 492, 3) := by decide +kernel
theorem d19_4 : decode jdk_42_method_56_code 4 = .ok (.ifCond .eq 12, 3) := by decide +kernel
theorem d19_7 : decode jdk_42_method_56_code 7 = .ok (.aload_n 0, 1) := by decide +kernel
theorem d19_8 : decode jdk_42_method_56_code 8 = .ok (.getfield 9, 3) := by decide +kernel
theorem d19_11 : decode jdk_42_method_56_code 11 = .ok (.iload_n 1, 1) := by decide +kernel
theorem d19_12 : decode jdk_42_method_56_code 12 = .ok (.invokestatic 495, 3) := by decide +kernel
theorem d19_15 : decode jdk_42_method_56_code 15 = .ok (.ireturn, 1) := by decide +kernel
theorem pn_19 : plainName "java/lang/String" = true := by first | (simp [plainName, overriddenIn]; done) | decide +kernel
theorem ef_19L10 (m : MethodId) (p0 : Addr) : entryFrame m #[(.ref p0), (.int (0 : Int32))] 2 = mkF m 0 #[vR p0, vI (0 : Int32)] [] := by first | (simp [entryFrame, mkF, argsToLocals, Value.category]; done) | rfl
def f_19L10 (cs_ : Int32) (x_ : Nat → Int32) : Int32 := (nar .char (f_21L10 x_))
def Q_19L10 (Z : State) (p0 : Addr) (cs_ : Int32) (v_ : Addr) (x_ : Nat → Int32) (fm_ : Value) (h0 : Heap) (n0 : Nat) (v : Option Value) (h : Heap) (L : List Loc) : Prop := v = some (.int (f_19L10 cs_ x_)) ∧ Fr n0 L ∧ h = h0
theorem rm_19L10 (l : Launch) (Z : State) (a0 : Array Value) (hw : ∀ d ∈ tables_1, d.before a0 Z = true) (ws : List Jvm.Cond) (p0 : Addr) (cs_ : Int32) (v_ : Addr) (x_ : Nat → Int32) (fm_ : Value) (h0 : Heap) (n0 : Nat) (Z0 : n0 ≤ h0.size) (S_COMPACT_STRINGS : Sta Z h0 "java/lang/String" "COMPACT_STRINGS" "Z" (.int cs_)) (hcs : ¬ (cs_ = (0 : Int32))) (E_p0 : Exa Z h0 p0 "java/lang/String") (F_p0_value : Fld Z h0 p0 "java/lang/String" "value" "[B" (.ref v_)) (F_p0_coder : Fld Z h0 p0 "java/lang/String" "coder" "B" (.int (0 : Int32))) (A_v_ : own_A Z h0 v_ .byte 1 (fun i => .int (x_ i))) (S_SIOOBE_FORMATTER : Sta Z h0 "jdk/internal/util/Preconditions" "SIOOBE_FORMATTER" "Ljava/util/function/BiFunction;" fm_) (hfm : fm_ = Value.null ∨ ∃ a, fm_ = Value.ref a) :
    MetFree l (⟨"java/lang/String", "charAt", "(I)C"⟩ : MethodName) (head1 (Jvm.Cond.code (⟨"java/lang/String", "charAt", "(I)C"⟩ : MethodName) jdk_42_method_56_code 2 (some .char) :: ws) (⟨3, 0, 0, 40⟩ : Room)) (fun a U => a = #[(.ref p0), (.int (0 : Int32))] ∧ Z.Warmed39 U.vm ∧ U.heap = h0) (fun _ _ _ _ _ => True) (fun _ U o U' => ∃ v L, o = .returned v ∧ Q_19L10 Z p0 cs_ v_ x_ fm_ h0 n0 v U'.heap L ∧ FrameEnd U o U' L 0 0) := by
  refine MetFree.of_bodySF (plainFor_of_name pn_19) hisR ?_
  intro p e s m args below meth c s₁ Bd hml0 hP hK
  obtain ⟨rfl, hZ, hh⟩ := hP
  have hx := Bd.exec
  have hby := Bd.bytes
  have hml : c.maxLocals = 2 := hml0
  have hown : s.vm.findClass "java/lang/String" = some m.cls := findClass_of_methodNamed Bd.named
  have hnm := (name_of_methodNamed Bd.named Bd.method).1
  have X0 : Stand p l e (⟨3, 0, 0, 40⟩ : Room) s m #[(.ref p0), (.int (0 : Int32))] below meth c s₁ [] 0 0 := Stand.of_body Bd
  have e0 : s₁.heap = h0 := by rw [← hh, Bd.state]; rfl
  have N0 := Fr.nil n0
  have K0 : Keep h0 h0 [] := Keep.refl h0 _
  have pre0 : ∀ t, SP p e below (s₁.setTop (mkF m 0 #[vR p0, vI (0 : Int32)] [])) t → SP p e below (s₁.setTop (entryFrame m #[(.ref p0), (.int (0 : Int32))] 2)) t := fun t k => castTop (ef_19L10 m p0) k
  have pre2 : ∀ t, SP p e below (s₁.setTop (mkF m 1 #[vR p0, vI (0 : Int32)] [(.ref p0)])) t → SP p e below (s₁.setTop (entryFrame m #[(.ref p0), (.int (0 : Int32))] 2)) t := by
    intro t k
    refine pre0 t ?_
    show SP p e below (s₁.setTop (mkF m 0 #[vR p0, vI (0 : Int32)] [])) _
    refine XS.aloadN X0.here hx rfl (hb hby d19_0) rfl rfl ?_
    exact k
  obtain ⟨cq1, kq1, q1a, q1b, q1c⟩ := isOf hZ e0 E_p0
  obtain ⟨_, _, ⟨T1, L1, k1, n1⟩, -, X1, ⟨Lc1, hQ1, l1, y1, z1⟩, st1⟩ := X0.virtualBack hx (y := (⟨"java/lang/String", "isLatin1", "()Z"⟩ : MethodName)) (z := (⟨"java/lang/String", "isLatin1", "()Z"⟩ : MethodName)) hown (mvT hZ (ow hw 91 rfl)) (mvT hZ (ow hw 92 rfl)) (notFace_of_selects (args := #[]) (mvT hZ (ow hw 94 rfl))) (mvT hZ (ow hw 94 rfl)) (mvT hZ (ow hw 93 rfl)) (by decide) (backOf (W := 0) (rm_20L l Z a0 hw [] p0 cs_ h0 n0 Z0 S_COMPACT_STRINGS hcs F_p0_coder) hZ (ow hw 95 rfl) (ow hw 7 rfl) (by decide) (by decide)) q1a q1c (g := (mkF m 1 #[vR p0, vI (0 : Int32)] [(.ref p0)])) rfl (by rw [hml]; rfl) (Steps.refl _) (argsL := []) (rest := []) (lenOf pd_20 rfl) rfl own_le0 (hb hby d19_1) (fun _ _ => ⟨rfl, e0, (by decide : 0 + 0 ≤ _), (by decide : 0 + 0 ≤ _)⟩)
  dsimp only [Pt.U, Pt.locs, Pt.cells, Pt.slots] at X1 l1 y1 z1 st1 hQ1
  rw [l1, y1, z1] at X1
  obtain ⟨rfl, N1q, e1⟩ := hQ1
  have N1 := Fr.app N0 N1q
  have pre3 : ∀ t, SP p e below (T1.setTop (mkF m 8 #[vR p0, vI (0 : Int32)] [(.ref p0)])) t → SP p e below (s₁.setTop (entryFrame m #[(.ref p0), (.int (0 : Int32))] 2)) t := by
    intro t k
    refine pre2 t ?_
    show SP p e below (s₁.setTop (mkF m 1 #[vR p0, vI (0 : Int32)] [(.ref p0)])) _
    refine st1.trans ?_
    show SP p e below (T1.setTop (mkF m 4 #[vR p0, vI (0 : Int32)] [(.int (f_20L cs_))])) _
    refine XS.ifNo X1.here hx rfl (hb hby d19_4) rfl ((if0 _ _).trans (feq ((show ¬ ((1 : Int32) = 0) by decide) : ¬ ((f_20L cs_) = (0 : Int32)))).1) ?_
    show SP p e below (T1.setTop (mkF m 7 #[vR p0, vI (0 : Int32)] [])) _
    refine XS.aloadN X1.here hx rfl (hb hby d19_7) rfl rfl ?_
    exact k
  obtain ⟨T4, X4, e4, st4⟩ := getF X1 hx hZ hown (host := "") (Or.inl (ow hw 25 rfl)) Via.refl e1 F_p0_value (g := (mkF m 8 #[vR p0, vI (0 : Int32)] [(.ref p0)])) rfl rfl (hb hby d19_8)
  have pre6 : ∀ t, SP p e below (T4.setTop (mkF m 12 #[vR p0, vI (0 : Int32)] [(.int (0 : Int32)), (.ref v_)])) t → SP p e below (s₁.setTop (entryFrame m #[(.ref p0), (.int (0 : Int32))] 2)) t := by
    intro t k
    refine pre3 t ?_
    show SP p e below (T1.setTop (mkF m 8 #[vR p0, vI (0 : Int32)] [(.ref p0)])) _
    refine st4 _ ?_
    show SP p e below (T4.setTop (mkF m 11 #[vR p0, vI (0 : Int32)] [(.ref v_)])) _
    refine XS.iloadN X4.here hx rfl (hb hby d19_11) rfl  ?_
    exact k
  obtain ⟨_, _, ⟨T5, L5, k5, n5⟩, -, X5, ⟨Lc5, hQ5, l5, y5, z5⟩, st5⟩ := Jvm.LawKit.callS X4 hx (y := (⟨"java/lang/StringLatin1", "charAt", "([BI)C"⟩ : MethodName)) hown (mvT hZ (ow hw 96 rfl)) (mvT hZ (ow hw 97 rfl)) (mvT hZ (ow hw 47 rfl)) (mvT hZ (ow hw 98 rfl)) (by decide) (backOf (W := 0) (rm_21L10 l Z a0 hw [] v_ x_ fm_ h0 n0 Z0 A_v_ S_SIOOBE_FORMATTER hfm) hZ (ow hw 98 rfl) (ow hw 47 rfl) (by decide) (by decide)) (g := (mkF m 12 #[vR p0, vI (0 : Int32)] [(.int (0 : Int32)), (.ref v_)])) rfl (by rw [hml]; rfl) (argsL := [(.ref v_), (.int (0 : Int32))]) (rest := []) (lenOf pd_5 rfl) rfl own_le0 (hb hby d19_12) (fun _ _ => ⟨rfl, e4, (by decide : 0 + 0 ≤ _), (by decide : 0 + 0 ≤ _)⟩)
  dsimp only [Pt.U, Pt.locs, Pt.cells, Pt.slots] at X5 l5 y5 z5 st5 hQ5
  rw [l5, y5, z5] at X5
  obtain ⟨rfl, N5q, e5⟩ := hQ5
  have N5 := Fr.app N1 N5q
  obtain ⟨fs, hr, hrun, hended, hW, hsame⟩ := X5.leave (v := some (.int (nar .char (f_21L10 x_)))) (fun h => by rw [Bd.returns] at h; cases h) (BodyLoose.notSynchronized Bd)
  refine ⟨_, _, pre6 _ ?_, hrun, hended, _, _, rfl, ?_, ⟨_, rfl⟩, hW, hsame.mono (by decide) (by decide)⟩
  · show SP p e below (T4.setTop (mkF m 12 #[vR p0, vI (0 : Int32)] [(.int (0 : Int32)), (.ref v_)])) _
    refine st5 _ ?_
    show SP p e below (T5.setTop (mkF m 15 #[vR p0, vI (0 : Int32)] [(.int (f_21L10 x_))])) _
    exact retN X5 hx (t := .char) Bd.returns (by simp) (hb hby d19_15) hr
  · show Q_19L10 Z p0 cs_ v_ x_ fm_ h0 n0 _ T5.heap _
    rw [e5]
    exact ⟨congrArg (fun z => some (Value.int z)) (by rfl : (nar .char (f_21L10 x_)) = f_19L10 cs_ x_), N5, rfl⟩
theorem pd_21 : parseMethodDescriptor "(I)C" = some ⟨[.int], some .char⟩ := by decide +kernel
theorem d16_14 : decode prog_23_method_7_code 14 = .ok (.lload_n 3, 1) := by decide +kernel
theorem d16_15 : decode prog_23_method_7_code 15 = .ok (.aload_n 2, 1) := by decide +kernel
theorem d16_16 : decode prog_23_method_7_code 16 = .ok (.iload 5, 2) := by decide +kernel
theorem d16_18 : decode prog_23_method_7_code 18 = .ok (.invokevirtual 56, 3) := by decide +kernel
theorem d16_21 : decode prog_23_method_7_code 21 = .ok (.i2l, 1) := by decide +kernel
theorem d16_22 : decode prog_23_method_7_code 22 = .ok (.lxor, 1) := by decide +kernel
theorem d16_23 : decode prog_23_method_7_code 23 = .ok (.ldc2_w 20, 3) := by decide +kernel
theorem d16_26 : decode prog_23_method_7_code 26 = .ok (.lmul, 1) := by decide +kernel
theorem d16_27 : decode prog_23_method_7_code 27 = .ok (.lstore_n 3, 1) := by decide +kernel
theorem d16_28 : decode prog_23_method_7_code 28 = .ok (.iinc 5 1, 3) := by decide +kernel
theorem d16_31 : decode prog_23_method_7_code 31 = .ok (.goto (-26), 3) := by decide +kernel
theorem ef_16L1 (m : MethodId) (p0 : Int64) (p1 : Addr) : entryFrame m #[(.long p0), (.ref p1)] 6 = mkF m 0 #[vJ p0, .second, vR p1, .unset, .unset, .unset] [] := by first | (simp [entryFrame, mkF, argsToLocals, Value.category]; done) | rfl
def f_16L1 (p0 : Int64) (cs_ : Int32) (x_ : Nat → Int32) : Int64 := let v3_27 : Int64 := ((p0 ^^^ ((f_19L10 cs_ x_).toInt64)) * (1099511628211 : Int64)); v3_27
def Q_16L1 (Z : State) (p0 : Int64) (p1 : Addr) (cs_ : Int32) (v_ : Addr) (x_ : Nat → Int32) (fm_ : Value) (h0 : Heap) (n0 : Nat) (v : Option Value) (h : Heap) (L : List Loc) : Prop := v = some (.long (f_16L1 p0 cs_ x_)) ∧ Fr n0 L ∧ h = h0
theorem rm_16L1 (l : Launch) (Z : State) (a0 : Array Value) (hw : ∀ d ∈ tables_1, d.before a0 Z = true) (ws : List Jvm.Cond) (p0 : Int64) (p1 : Addr) (cs_ : Int32) (v_ : Addr) (x_ : Nat → Int32) (fm_ : Value) (h0 : Heap) (n0 : Nat) (Z0 : n0 ≤ h0.size) (S_COMPACT_STRINGS : Sta Z h0 "java/lang/String" "COMPACT_STRINGS" "Z" (.int cs_)) (hcs : ¬ (cs_ = (0 : Int32))) (E_p1 : Exa Z h0 p1 "java/lang/String") (F_p1_value : Fld Z h0 p1 "java/lang/String" "value" "[B" (.ref v_)) (F_p1_coder : Fld Z h0 p1 "java/lang/String" "coder" "B" (.int (0 : Int32))) (A_v_ : own_A Z h0 v_ .byte 1 (fun i => .int (x_ i))) (S_SIOOBE_FORMATTER : Sta Z h0 "jdk/internal/util/Preconditions" "SIOOBE_FORMATTER" "Ljava/util/function/BiFunction;" fm_) (hfm : fm_ = Value.null ∨ ∃ a, fm_ = Value.ref a) (S__assertionsDisabled : Sta Z h0 "java/lang/StringUTF16" "$assertionsDisabled" "Z" (.int (1 : Int32))) (S_HI_BYTE_SHIFT : Sta Z h0 "java/lang/StringUTF16" "HI_BYTE_SHIFT" "I" (.int (0 : Int32))) (S_LO_BYTE_SHIFT : Sta Z h0 "java/lang/StringUTF16" "LO_BYTE_SHIFT" "I" (.int (8 : Int32))) :
    MetFree l (⟨"com/example/tern/tern/store/HashIndex", "hash", "(JLjava/lang/String;)J"⟩ : MethodName) (head1 (Jvm.Cond.code (⟨"com/example/tern/tern/store/HashIndex", "hash", "(JLjava/lang/String;)J"⟩ : MethodName) prog_23_method_7_code 6 (some .long) :: ws) (⟨5, 0, 0, 68⟩ : Room)) (fun a U => a = #[(.long p0), (.ref p1)] ∧ Z.Warmed39 U.vm ∧ U.heap = h0) (fun _ _ _ _ _ => True) (fun _ U o U' => ∃ v L, o = .returned v ∧ Q_16L1 Z p0 p1 cs_ v_ x_ fm_ h0 n0 v U'.heap L ∧ FrameEnd U o U' L 0 0) := by
  refine MetFree.of_bodySF (plainFor_of_name pn_16) hisR ?_
  intro p e s m args below meth c s₁ Bd hml0 hP hK
  obtain ⟨rfl, hZ, hh⟩ := hP
  have hx := Bd.exec
  have hby := Bd.bytes
  have hml : c.maxLocals = 6 := hml0
  have hown : s.vm.findClass "com/example/tern/tern/store/HashIndex" = some m.cls := findClass_of_methodNamed Bd.named
  have hnm := (name_of_methodNamed Bd.named Bd.method).1
  have X0 : Stand p l e (⟨5, 0, 0, 68⟩ : Room) s m #[(.long p0), (.ref p1)] below meth c s₁ [] 0 0 := Stand.of_body Bd
  have e0 : s₁.heap = h0 := by rw [← hh, Bd.state]; rfl
  have N0 := Fr.nil n0
  have K0 : Keep h0 h0 [] := Keep.refl h0 _
  have pre0 : ∀ t, SP p e below (s₁.setTop (mkF m 0 #[vJ p0, .second, vR p1, .unset, .unset, .unset] [])) t → SP p e below (s₁.setTop (entryFrame m #[(.long p0), (.ref p1)] 6)) t := fun t k => castTop (ef_16L1 m p0 p1) k
  have pre2 : ∀ t, SP p e below (s₁.setTop (mkF m 8 #[vJ p0, .second, vR p1, vJ p0, .second, vI (0 : Int32)] [(.ref p1), (.int (0 : Int32))])) t → SP p e below (s₁.setTop (entryFrame m #[(.long p0), (.ref p1)] 6)) t := by
    intro t k
    refine pre0 t ?_
    show SP p e below (s₁.setTop (mkF m 0 #[vJ p0, .second, vR p1, .unset, .unset, .unset] [])) _
    refine XS.lloadN X0.here hx rfl (hb hby d16_0) rfl  ?_
    show SP p e below (s₁.setTop (mkF m 1 #[vJ p0, .second, vR p1, .unset, .unset, .unset] [(.long p0)])) _
    refine XS.lstoreN X0.here hx rfl (hb hby d16_1) rfl (l' := #[vJ p0, .second, vR p1, vJ p0, .second, .unset]) rfl ?_
    show SP p e below (s₁.setTop (mkF m 2 #[vJ p0, .second, vR p1, vJ p0, .second, .unset] [])) _
    refine XS.iconst X0.here hx rfl (hb hby d16_2) ?_
    show SP p e below (s₁.setTop (mkF m 3 #[vJ p0, .second, vR p1, vJ p0, .second, .unset] [(.int (0 : Int32))])) _
    refine XS.istore X0.here hx rfl (hb hby d16_3) rfl (l' := #[vJ p0, .second, vR p1, vJ p0, .second, vI (0 : Int32)]) rfl ?_
    show SP p e below (s₁.setTop (mkF m 5 #[vJ p0, .second, vR p1, vJ p0, .second, vI (0 : Int32)] [])) _
    refine XS.iload X0.here hx rfl (hb hby d16_5) rfl  ?_
    show SP p e below (s₁.setTop (mkF m 7 #[vJ p0, .second, vR p1, vJ p0, .second, vI (0 : Int32)] [(.int (0 : Int32))])) _
    refine XS.aloadN X0.here hx rfl (hb hby d16_7) rfl rfl ?_
    exact k
  obtain ⟨cq1, kq1, q1a, q1b, q1c⟩ := isOf hZ e0 E_p1
  obtain ⟨_, _, ⟨T1, L1, k1, n1⟩, -, X1, ⟨Lc1, hQ1, l1, y1, z1⟩, st1⟩ := X0.virtualBack hx (y := (⟨"java/lang/String", "length", "()I"⟩ : MethodName)) (z := (⟨"java/lang/String", "length", "()I"⟩ : MethodName)) hown (mvT hZ (ow hw 76 rfl)) (mvT hZ (ow hw 77 rfl)) (notFace_of_selects (args := #[]) (mvT hZ (ow hw 79 rfl))) (mvT hZ (ow hw 79 rfl)) (mvT hZ (ow hw 78 rfl)) (by decide) (backOf (W := 1) (rm_17L1 l Z a0 hw [] p1 cs_ v_ x_ h0 n0 Z0 S_COMPACT_STRINGS hcs E_p1 F_p1_value F_p1_coder A_v_) hZ (ow hw 80 rfl) (ow hw 7 rfl) (by decide) (by decide)) q1a q1c (g := (mkF m 8 #[vJ p0, .second, vR p1, vJ p0, .second, vI (0 : Int32)] [(.ref p1), (.int (0 : Int32))])) rfl (by rw [hml]; rfl) (Steps.refl _) (argsL := []) (rest := [(.int (0 : Int32))]) (lenOf pd_19 rfl) rfl own_le0 (hb hby d16_8) (fun _ _ => ⟨rfl, e0, (by decide : 0 + 0 ≤ _), (by decide : 0 + 0 ≤ _)⟩)
  dsimp only [Pt.U, Pt.locs, Pt.cells, Pt.slots] at X1 l1 y1 z1 st1 hQ1
  rw [l1, y1, z1] at X1
  obtain ⟨rfl, N1q, e1⟩ := hQ1
  have N1 := Fr.app N0 N1q
  have pre3 : ∀ t, SP p e below (T1.setTop (mkF m 11 #[vJ p0, .second, vR p1, vJ p0, .second, vI (0 : Int32)] [(.int (f_17L1 cs_ x_)), (.int (0 : Int32))])) t → SP p e below (s₁.setTop (entryFrame m #[(.long p0), (.ref p1)] 6)) t := by
    intro t k
    refine pre2 t ?_
    show SP p e below (s₁.setTop (mkF m 8 #[vJ p0, .second, vR p1, vJ p0, .second, vI (0 : Int32)] [(.ref p1), (.int (0 : Int32))])) _
    refine st1.trans ?_
    exact k
  have hl4 : (f_17L1 cs_ x_) = (1 : Int32) := rfl
  have preL4 : ∀ t, SP p e below (T1.setTop (mkF m 11 #[vJ p0, .second, vR p1, vJ p0, .second, vI (0 : Int32)] [(.int (1 : Int32)), (.int (0 : Int32))])) t → SP p e below (s₁.setTop (entryFrame m #[(.long p0), (.ref p1)] 6)) t := by
    intro t k_
    refine pre3 t ?_
    rw [hl4]
    exact k_
  have pre6 : ∀ t, SP p e below (T1.setTop (mkF m 18 #[vJ p0, .second, vR p1, vJ p0, .second, vI (0 : Int32)] [(.int (0 : Int32)), (.ref p1), (.long p0)])) t → SP p e below (s₁.setTop (entryFrame m #[(.long p0), (.ref p1)] 6)) t := by
    intro t k
    refine preL4 t ?_
    show SP p e below (T1.setTop (mkF m 11 #[vJ p0, .second, vR p1, vJ p0, .second, vI (0 : Int32)] [(.int (1 : Int32)), (.int (0 : Int32))])) _
    refine XS.icmpNo X1.here hx rfl (hb hby d16_11) rfl (tlt (by decide : (0 : Int32) < (1 : Int32))).2.1 ?_
    show SP p e below (T1.setTop (mkF m 14 #[vJ p0, .second, vR p1, vJ p0, .second, vI (0 : Int32)] [])) _
    refine XS.lloadN X1.here hx rfl (hb hby d16_14) rfl  ?_
    show SP p e below (T1.setTop (mkF m 15 #[vJ p0, .second, vR p1, vJ p0, .second, vI (0 : Int32)] [(.long p0)])) _
    refine XS.aloadN X1.here hx rfl (hb hby d16_15) rfl rfl ?_
    show SP p e below (T1.setTop (mkF m 16 #[vJ p0, .second, vR p1, vJ p0, .second, vI (0 : Int32)] [(.ref p1), (.long p0)])) _
    refine XS.iload X1.here hx rfl (hb hby d16_16) rfl  ?_
    exact k
  obtain ⟨cq5, kq5, q5a, q5b, q5c⟩ := isOf hZ e1 E_p1
  obtain ⟨_, _, ⟨T5, L5, k5, n5⟩, -, X5, ⟨Lc5, hQ5, l5, y5, z5⟩, st5⟩ := X1.virtualBack hx (y := (⟨"java/lang/String", "charAt", "(I)C"⟩ : MethodName)) (z := (⟨"java/lang/String", "charAt", "(I)C"⟩ : MethodName)) hown (mvT hZ (ow hw 86 rfl)) (mvT hZ (ow hw 87 rfl)) (notFace_of_selects (args := #[]) (mvT hZ (ow hw 89 rfl))) (mvT hZ (ow hw 89 rfl)) (mvT hZ (ow hw 88 rfl)) (by decide) (backOf (W := 2) (rm_19L10 l Z a0 hw [] p1 cs_ v_ x_ fm_ h0 n0 Z0 S_COMPACT_STRINGS hcs E_p1 F_p1_value F_p1_coder A_v_ S_SIOOBE_FORMATTER hfm) hZ (ow hw 90 rfl) (ow hw 7 rfl) (by decide) (by decide)) q5a q5c (g := (mkF m 18 #[vJ p0, .second, vR p1, vJ p0, .second, vI (0 : Int32)] [(.int (0 : Int32)), (.ref p1), (.long p0)])) rfl (by rw [hml]; rfl) (Steps.refl _) (argsL := [(.int (0 : Int32))]) (rest := [(.long p0)]) (lenOf pd_21 rfl) rfl own_le0 (hb hby d16_18) (fun _ _ => ⟨rfl, e1, (by decide : 0 + 0 ≤ _), (by decide : 0 + 0 ≤ _)⟩)
  dsimp only [Pt.U, Pt.locs, Pt.cells, Pt.slots] at X5 l5 y5 z5 st5 hQ5
  rw [l5, y5, z5] at X5
  obtain ⟨rfl, N5q, e5⟩ := hQ5
  have N5 := Fr.app N1 N5q
  obtain ⟨v3_27, hv3_27⟩ : ∃ z : Int64, z = ((p0 ^^^ ((f_19L10 cs_ x_).toInt64)) * (1099511628211 : Int64)) := ⟨_, rfl⟩
  have pre8 : ∀ t, SP p e below (T5.setTop (mkF m 8 #[vJ p0, .second, vR p1, vJ v3_27, .second, vI (1 : Int32)] [(.ref p1), (.int (1 : Int32))])) t → SP p e below (s₁.setTop (entryFrame m #[(.long p0), (.ref p1)] 6)) t := by
    intro t k
    refine pre6 t ?_
    show SP p e below (T1.setTop (mkF m 18 #[vJ p0, .second, vR p1, vJ p0, .second, vI (0 : Int32)] [(.int (0 : Int32)), (.ref p1), (.long p0)])) _
    refine st5.trans ?_
    show SP p e below (T5.setTop (mkF m 21 #[vJ p0, .second, vR p1, vJ p0, .second, vI (0 : Int32)] [(.int (f_19L10 cs_ x_)), (.long p0)])) _
    refine XS.i2l X5.here hx rfl (hb hby d16_21) rfl ?_
    show SP p e below (T5.setTop (mkF m 22 #[vJ p0, .second, vR p1, vJ p0, .second, vI (0 : Int32)] [(.long ((f_19L10 cs_ x_).toInt64)), (.long p0)])) _
    refine XS.lxor X5.here hx rfl (hb hby d16_22) rfl ?_
    show SP p e below (T5.setTop (mkF m 23 #[vJ p0, .second, vR p1, vJ p0, .second, vI (0 : Int32)] [(.long (p0 ^^^ ((f_19L10 cs_ x_).toInt64)))])) _
    refine X5.ldc2Long hx hown (mvT hZ (ow hw 107 rfl)) (g := (mkF m 23 #[vJ p0, .second, vR p1, vJ p0, .second, vI (0 : Int32)] [(.long (p0 ^^^ ((f_19L10 cs_ x_).toInt64)))])) rfl (hb hby d16_23) _ ?_
    show SP p e below (T5.setTop (mkF m 26 #[vJ p0, .second, vR p1, vJ p0, .second, vI (0 : Int32)] [(.long (1099511628211 : Int64)), (.long (p0 ^^^ ((f_19L10 cs_ x_).toInt64)))])) _
    refine XS.lmul X5.here hx rfl (hb hby d16_26) rfl ?_
    show SP p e below (T5.setTop (mkF m 27 #[vJ p0, .second, vR p1, vJ p0, .second, vI (0 : Int32)] [(.long ((p0 ^^^ ((f_19L10 cs_ x_).toInt64)) * (1099511628211 : Int64)))])) _
    refine XS.lstoreN X5.here hx rfl (hb hby d16_27) rfl (l' := #[vJ p0, .second, vR p1, vJ v3_27, .second, vI (0 : Int32)]) (by rw [hv3_27]; rfl) ?_
    show SP p e below (T5.setTop (mkF m 28 #[vJ p0, .second, vR p1, vJ v3_27, .second, vI (0 : Int32)] [])) _
    refine XS.iinc X5.here hx rfl (hb hby d16_28) rfl (l' := #[vJ p0, .second, vR p1, vJ v3_27, .second, vI (1 : Int32)]) rfl ?_
    show SP p e below (T5.setTop (mkF m 31 #[vJ p0, .second, vR p1, vJ v3_27, .second, vI (1 : Int32)] [])) _
    refine XS.goto X5.here hx rfl (pc0 := 31) (pc' := 5) rfl (hb hby d16_31) (by decide) (by decide) ?_
    show SP p e below (T5.setTop (mkF m 5 #[vJ p0, .second, vR p1, vJ v3_27, .second, vI (1 : Int32)] [])) _
    refine XS.iload X5.here hx rfl (hb hby d16_5) rfl  ?_
    show SP p e below (T5.setTop (mkF m 7 #[vJ p0, .second, vR p1, vJ v3_27, .second, vI (1 : Int32)] [(.int (1 : Int32))])) _
    refine XS.aloadN X5.here hx rfl (hb hby d16_7) rfl rfl ?_
    exact k
  obtain ⟨cq7, kq7, q7a, q7b, q7c⟩ := isOf hZ e5 E_p1
  obtain ⟨_, _, ⟨T7, L7, k7, n7⟩, -, X7, ⟨Lc7, hQ7, l7, y7, z7⟩, st7⟩ := X5.virtualBack hx (y := (⟨"java/lang/String", "length", "()I"⟩ : MethodName)) (z := (⟨"java/lang/String", "length", "()I"⟩ : MethodName)) hown (mvT hZ (ow hw 76 rfl)) (mvT hZ (ow hw 77 rfl)) (notFace_of_selects (args := #[]) (mvT hZ (ow hw 79 rfl))) (mvT hZ (ow hw 79 rfl)) (mvT hZ (ow hw 78 rfl)) (by decide) (backOf (W := 1) (rm_17L1 l Z a0 hw [] p1 cs_ v_ x_ h0 n0 Z0 S_COMPACT_STRINGS hcs E_p1 F_p1_value F_p1_coder A_v_) hZ (ow hw 80 rfl) (ow hw 7 rfl) (by decide) (by decide)) q7a q7c (g := (mkF m 8 #[vJ p0, .second, vR p1, vJ v3_27, .second, vI (1 : Int32)] [(.ref p1), (.int (1 : Int32))])) rfl (by rw [hml]; rfl) (Steps.refl _) (argsL := []) (rest := [(.int (1 : Int32))]) (lenOf pd_19 rfl) rfl own_le0 (hb hby d16_8) (fun _ _ => ⟨rfl, e5, (by decide : 0 + 0 ≤ _), (by decide : 0 + 0 ≤ _)⟩)
  dsimp only [Pt.U, Pt.locs, Pt.cells, Pt.slots] at X7 l7 y7 z7 st7 hQ7
  rw [l7, y7, z7] at X7
  obtain ⟨rfl, N7q, e7⟩ := hQ7
  have N7 := Fr.app N5 N7q
  have pre9 : ∀ t, SP p e below (T7.setTop (mkF m 11 #[vJ p0, .second, vR p1, vJ v3_27, .second, vI (1 : Int32)] [(.int (f_17L1 cs_ x_)), (.int (1 : Int32))])) t → SP p e below (s₁.setTop (entryFrame m #[(.long p0), (.ref p1)] 6)) t := by
    intro t k
    refine pre8 t ?_
    show SP p e below (T5.setTop (mkF m 8 #[vJ p0, .second, vR p1, vJ v3_27, .second, vI (1 : Int32)] [(.ref p1), (.int (1 : Int32))])) _
    refine st7.trans ?_
    exact k
  have hl10 : (f_17L1 cs_ x_) = (1 : Int32) := rfl
  have preL10 : ∀ t, SP p e below (T7.setTop (mkF m 11 #[vJ p0, .second, vR p1, vJ v3_27, .second, vI (1 : Int32)] [(.int (1 : Int32)), (.int (1 : Int32))])) t → SP p e below (s₁.setTop (entryFrame m #[(.long p0), (.ref p1)] 6)) t := by
    intro t k_
    refine pre9 t ?_
    rw [hl10]
    exact k_
  obtain ⟨fs, hr, hrun, hended, hW, hsame⟩ := X7.leave (v := some (.long v3_27)) (fun h => by rw [Bd.returns] at h; cases h) (BodyLoose.notSynchronized Bd)
  refine ⟨_, _, preL10 _ ?_, hrun, hended, _, _, rfl, ?_, ⟨_, rfl⟩, hW, hsame.mono (by decide) (by decide)⟩
  · show SP p e below (T7.setTop (mkF m 11 #[vJ p0, .second, vR p1, vJ v3_27, .second, vI (1 : Int32)] [(.int (1 : Int32)), (.int (1 : Int32))])) _
    refine XS.icmpYes X7.here hx rfl (pc0 := 11) (pc' := 34) rfl (hb hby d16_11) rfl (flt (by decide : ¬ ((1 : Int32) < (1 : Int32)))).2.1 (by decide) (by decide) ?_
    show SP p e below (T7.setTop (mkF m 34 #[vJ p0, .second, vR p1, vJ v3_27, .second, vI (1 : Int32)] [])) _
    refine XS.lloadN X7.here hx rfl (hb hby d16_34) rfl  ?_
    show SP p e below (T7.setTop (mkF m 35 #[vJ p0, .second, vR p1, vJ v3_27, .second, vI (1 : Int32)] [(.long v3_27)])) _
    exact retOut X7 hx Bd.returns rfl (Or.inr (Or.inl ⟨rfl, rfl, _, rfl⟩)) (hb hby d16_35) hr
  · show Q_16L1 Z p0 p1 cs_ v_ x_ fm_ h0 n0 _ T7.heap _
    rw [e7]
    exact ⟨congrArg (fun z => some (Value.long z)) (by subst hv3_27; rfl : v3_27 = f_16L1 p0 cs_ x_), N7, rfl⟩
theorem ef_17L2 (m : MethodId) (p0 : Addr) : entryFrame m #[(.ref p0)] 1 = mkF m 0 #[vR p0] [] := by first | (simp [entryFrame, mkF, argsToLocals, Value.category]; done) | rfl
def f_17L2 (cs_ : Int32) (x_ : Nat → Int32) : Int32 := (2 : Int32)
def Q_17L2 (Z : State) (p0 : Addr) (cs_ : Int32) (v_ : Addr) (x_ : Nat → Int32) (h0 : Heap) (n0 : Nat) (v : Option Value) (h : Heap) (L : List Loc) : Prop := v = some (.int (f_17L2 cs_ x_)) ∧ Fr n0 L ∧ h = h0
theorem rm_17L2 (l : Launch) (Z : State) (a0 : Array Value) (hw : ∀ d ∈ tables_1, d.before a0 Z = true) (ws : List Jvm.Cond) (p0 : Addr) (cs_ : Int32) (v_ : Addr) (x_ : Nat → Int32) (h0 : Heap) (n0 : Nat) (Z0 : n0 ≤ h0.size) (S_COMPACT_STRINGS : Sta Z h0 "java/lang/String" "COMPACT_STRINGS" "Z" (.int cs_)) (hcs : ¬ (cs_ = (0 : Int32))) (E_p0 : Exa Z h0 p0 "java/lang/String") (F_p0_value : Fld Z h0 p0 "java/lang/String" "value" "[B" (.ref v_)) (F_p0_coder : Fld Z h0 p0 "java/lang/String" "coder" "B" (.int (0 : Int32))) (A_v_ : own_A Z h0 v_ .byte 2 (fun i => .int (x_ i))) :
    MetFree l (⟨"java/lang/String", "length", "()I"⟩ : MethodName) (head1 (Jvm.Cond.code (⟨"java/lang/String", "length", "()I"⟩ : MethodName) jdk_42_method_54_code 1 (some .int) :: ws) (⟨1, 0, 0, 13⟩ : Room)) (fun a U => a = #[(.ref p0)] ∧ Z.Warmed39 U.vm ∧ U.heap = h0) (fun _ _ _ _ _ => True) (fun _ U o U' => ∃ v L, o = .returned v ∧ Q_17L2 Z p0 cs_ v_ x_ h0 n0 v U'.heap L ∧ FrameEnd U o U' L 0 0) := by
  refine MetFree.of_bodySF (plainFor_of_name pn_17) hisR ?_
  intro p e s m args below meth c s₁ Bd hml0 hP hK
  obtain ⟨rfl, hZ, hh⟩ := hP
  have hx := Bd.exec
  have hby := Bd.bytes
  have hml : c.maxLocals = 1 := hml0
  have hown : s.vm.findClass "java/lang/String" = some m.cls := findClass_of_methodNamed Bd.named
  have hnm := (name_of_methodNamed Bd.named Bd.method).1
  have X0 : Stand p l e (⟨1, 0, 0, 13⟩ : Room) s m #[(.ref p0)] below meth c s₁ [] 0 0 := Stand.of_body Bd
  have e0 : s₁.heap = h0 := by rw [← hh, Bd.state]; rfl
  have N0 := Fr.nil n0
  have K0 : Keep h0 h0 [] := Keep.refl h0 _
  have pre0 : ∀ t, SP p e below (s₁.setTop (mkF m 0 #[vR p0] [])) t → SP p e below (s₁.setTop (entryFrame m #[(.ref p0)] 1)) t := fun t k => castTop (ef_17L2 m p0) k
  have pre1 : ∀ t, SP p e below (s₁.setTop (mkF m 1 #[vR p0] [(.ref p0)])) t → SP p e below (s₁.setTop (entryFrame m #[(.ref p0)] 1)) t := by
    intro t k
    refine pre0 t ?_
    show SP p e below (s₁.setTop (mkF m 0 #[vR p0] [])) _
    refine XS.aloadN X0.here hx rfl (hb hby d17_0) rfl rfl ?_
    exact k
  obtain ⟨T2, X2, e2, st2⟩ := getF X0 hx hZ hown (host := "") (Or.inl (ow hw 25 rfl)) Via.refl e0 F_p0_value (g := (mkF m 1 #[vR p0] [(.ref p0)])) rfl rfl (hb hby d17_1)
  have pre4 : ∀ t, SP p e below (T2.setTop (mkF m 6 #[vR p0] [(.ref p0), (.int (2 : Int32))])) t → SP p e below (s₁.setTop (entryFrame m #[(.ref p0)] 1)) t := by
    intro t k
    refine pre1 t ?_
    show SP p e below (s₁.setTop (mkF m 1 #[vR p0] [(.ref p0)])) _
    refine st2 _ ?_
    show SP p e below (T2.setTop (mkF m 4 #[vR p0] [(.ref v_)])) _
    refine own_len X2 hx hZ e2 A_v_ (z := (2 : Int32)) rfl (g := (mkF m 4 #[vR p0] [(.ref v_)])) rfl rfl (hb hby d17_4) ?_
    show SP p e below (T2.setTop (mkF m 5 #[vR p0] [(.int (2 : Int32))])) _
    refine XS.aloadN X2.here hx rfl (hb hby d17_5) rfl rfl ?_
    exact k
  obtain ⟨cq3, kq3, q3a, q3b, q3c⟩ := isOf hZ e2 E_p0
  obtain ⟨_, _, ⟨T3, L3, k3, n3⟩, -, X3, ⟨Lc3, hQ3, l3, y3, z3⟩, st3⟩ := X2.virtualBack hx (y := (⟨"java/lang/String", "coder", "()B"⟩ : MethodName)) (z := (⟨"java/lang/String", "coder", "()B"⟩ : MethodName)) hown (mvT hZ (ow hw 81 rfl)) (mvT hZ (ow hw 82 rfl)) (notFace_of_selects (args := #[]) (mvT hZ (ow hw 84 rfl))) (mvT hZ (ow hw 84 rfl)) (mvT hZ (ow hw 83 rfl)) (by decide) (backOf (W := 1) (rm_18L l Z a0 hw [] p0 cs_ h0 n0 Z0 S_COMPACT_STRINGS hcs F_p0_coder) hZ (ow hw 85 rfl) (ow hw 7 rfl) (by decide) (by decide)) q3a q3c (g := (mkF m 6 #[vR p0] [(.ref p0), (.int (2 : Int32))])) rfl (by rw [hml]; rfl) (Steps.refl _) (argsL := []) (rest := [(.int (2 : Int32))]) (lenOf pd_18 rfl) rfl own_le0 (hb hby d17_6) (fun _ _ => ⟨rfl, e2, (by decide : 0 + 0 ≤ _), (by decide : 0 + 0 ≤ _)⟩)
  dsimp only [Pt.U, Pt.locs, Pt.cells, Pt.slots] at X3 l3 y3 z3 st3 hQ3
  rw [l3, y3, z3] at X3
  obtain ⟨rfl, N3q, e3⟩ := hQ3
  have N3 := Fr.app N0 N3q
  have pre5 : ∀ t, SP p e below (T3.setTop (mkF m 10 #[vR p0] [(.int ((2 : Int32) >>> ((f_18L cs_) &&& 31)))])) t → SP p e below (s₁.setTop (entryFrame m #[(.ref p0)] 1)) t := by
    intro t k
    refine pre4 t ?_
    show SP p e below (T2.setTop (mkF m 6 #[vR p0] [(.ref p0), (.int (2 : Int32))])) _
    refine st3.trans ?_
    show SP p e below (T3.setTop (mkF m 9 #[vR p0] [(.int (f_18L cs_)), (.int (2 : Int32))])) _
    refine XS.ishr X3.here hx rfl (hb hby d17_9) rfl ?_
    exact k
  have hl6 : ((2 : Int32) >>> ((f_18L cs_) &&& 31)) = (2 : Int32) := (by rw [show f_18L cs_ = (0 : Int32) from rfl]; decide)
  have preL6 : ∀ t, SP p e below (T3.setTop (mkF m 10 #[vR p0] [(.int (2 : Int32))])) t → SP p e below (s₁.setTop (entryFrame m #[(.ref p0)] 1)) t := by
    intro t k_
    refine pre5 t ?_
    rw [hl6]
    exact k_
  obtain ⟨fs, hr, hrun, hended, hW, hsame⟩ := X3.leave (v := some (.int (2 : Int32))) (fun h => by rw [Bd.returns] at h; cases h) (BodyLoose.notSynchronized Bd)
  refine ⟨_, _, preL6 _ ?_, hrun, hended, _, _, rfl, ?_, ⟨_, rfl⟩, hW, hsame.mono (by decide) (by decide)⟩
  · show SP p e below (T3.setTop (mkF m 10 #[vR p0] [(.int (2 : Int32))])) _
    exact retI X3 hx Bd.returns (hb hby d17_10) hr
  · show Q_17L2 Z p0 cs_ v_ x_ h0 n0 _ T3.heap _
    rw [e3]
    exact ⟨congrArg (fun z => some (Value.int z)) (by rfl : (2 : Int32) = f_17L2 cs_ x_), N3, rfl⟩
theorem ef_21L20 (m : MethodId) (p0 : Addr) : entryFrame m #[(.ref p0), (.int (0 : Int32))] 2 = mkF m 0 #[vR p0, vI (0 : Int32)] [] := by first | (simp [entryFrame, mkF, argsToLocals, Value.category]; done) | rfl
def f_21L20 (x_ : Nat → Int32) : Int32 := (nar .char (((x_ 0) &&& (255 : Int32)).toUInt32.toUInt16.toUInt32.toInt32))
def Q_21L20 (Z : State) (p0 : Addr) (x_ : Nat → Int32) (fm_ : Value) (h0 : Heap) (n0 : Nat) (v : Option Value) (h : Heap) (L : List Loc) : Prop := v = some (.int (f_21L20 x_)) ∧ Fr n0 L ∧ h = h0
theorem rm_21L20 (l : Launch) (Z : State) (a0 : Array Value) (hw : ∀ d ∈ tables_1, d.before a0 Z = true) (ws : List Jvm.Cond) (p0 : Addr) (x_ : Nat → Int32) (fm_ : Value) (h0 : Heap) (n0 : Nat) (Z0 : n0 ≤ h0.size) (A_p0 : own_A Z h0 p0 .byte 2 (fun i => .int (x_ i))) (S_SIOOBE_FORMATTER : Sta Z h0 "jdk/internal/util/Preconditions" "SIOOBE_FORMATTER" "Ljava/util/function/BiFunction;" fm_) (hfm : fm_ = Value.null ∨ ∃ a, fm_ = Value.ref a) :
    MetFree l (⟨"java/lang/StringLatin1", "charAt", "([BI)C"⟩ : MethodName) (head1 (Jvm.Cond.code (⟨"java/lang/StringLatin1", "charAt", "([BI)C"⟩ : MethodName) jdk_43_method_2_code 2 (some .char) :: ws) (⟨2, 0, 0, 27⟩ : Room)) (fun a U => a = #[(.ref p0), (.int (0 : Int32))] ∧ Z.Warmed39 U.vm ∧ U.heap = h0) (fun _ _ _ _ _ => True) (fun _ U o U' => ∃ v L, o = .returned v ∧ Q_21L20 Z p0 x_ fm_ h0 n0 v U'.heap L ∧ FrameEnd U o U' L 0 0) := by
  refine MetFree.of_bodySF (plainFor_of_name pn_21) hisR ?_
  intro p e s m args below meth c s₁ Bd hml0 hP hK
  obtain ⟨rfl, hZ, hh⟩ := hP
  have hx := Bd.exec
  have hby := Bd.bytes
  have hml : c.maxLocals = 2 := hml0
  have hown : s.vm.findClass "java/lang/StringLatin1" = some m.cls := findClass_of_methodNamed Bd.named
  have hnm := (name_of_methodNamed Bd.named Bd.method).1
  have X0 : Stand p l e (⟨2, 0, 0, 27⟩ : Room) s m #[(.ref p0), (.int (0 : Int32))] below meth c s₁ [] 0 0 := Stand.of_body Bd
  have e0 : s₁.heap = h0 := by rw [← hh, Bd.state]; rfl
  have N0 := Fr.nil n0
  have K0 : Keep h0 h0 [] := Keep.refl h0 _
  have pre0 : ∀ t, SP p e below (s₁.setTop (mkF m 0 #[vR p0, vI (0 : Int32)] [])) t → SP p e below (s₁.setTop (entryFrame m #[(.ref p0), (.int (0 : Int32))] 2)) t := fun t k => castTop (ef_21L20 m p0) k
  have pre2 : ∀ t, SP p e below (s₁.setTop (mkF m 3 #[vR p0, vI (0 : Int32)] [(.int (2 : Int32)), (.int (0 : Int32))])) t → SP p e below (s₁.setTop (entryFrame m #[(.ref p0), (.int (0 : Int32))] 2)) t := by
    intro t k
    refine pre0 t ?_
    show SP p e below (s₁.setTop (mkF m 0 #[vR p0, vI (0 : Int32)] [])) _
    refine XS.iloadN X0.here hx rfl (hb hby d21_0) rfl  ?_
    show SP p e below (s₁.setTop (mkF m 1 #[vR p0, vI (0 : Int32)] [(.int (0 : Int32))])) _
    refine XS.aloadN X0.here hx rfl (hb hby d21_1) rfl rfl ?_
    show SP p e below (s₁.setTop (mkF m 2 #[vR p0, vI (0 : Int32)] [(.ref p0), (.int (0 : Int32))])) _
    refine own_len X0 hx hZ e0 A_p0 (z := (2 : Int32)) rfl (g := (mkF m 2 #[vR p0, vI (0 : Int32)] [(.ref p0), (.int (0 : Int32))])) rfl rfl (hb hby d21_2) ?_
    exact k
  obtain ⟨_, _, ⟨T1, L1, k1, n1⟩, -, X1, ⟨Lc1, hQ1, l1, y1, z1⟩, st1⟩ := Jvm.LawKit.callS X0 hx (y := (⟨"java/lang/String", "checkIndex", "(II)V"⟩ : MethodName)) hown (mvT hZ (ow hw 99 rfl)) (mvT hZ (ow hw 100 rfl)) (mvT hZ (ow hw 7 rfl)) (mvT hZ (ow hw 101 rfl)) (by decide) (backOf (W := 0) (rm_22 l Z a0 hw [] (0 : Int32) (2 : Int32) fm_ h0 n0 Z0 S_SIOOBE_FORMATTER hfm (by decide) (by decide)) hZ (ow hw 101 rfl) (ow hw 7 rfl) (by decide) (by decide)) (g := (mkF m 3 #[vR p0, vI (0 : Int32)] [(.int (2 : Int32)), (.int (0 : Int32))])) rfl (by rw [hml]; rfl) (argsL := [(.int (0 : Int32)), (.int (2 : Int32))]) (rest := []) (lenOf pd_3 rfl) rfl own_le0 (hb hby d21_3) (fun _ _ => ⟨rfl, e0, (by decide : 0 + 0 ≤ _), (by decide : 0 + 0 ≤ _)⟩)
  dsimp only [Pt.U, Pt.locs, Pt.cells, Pt.slots] at X1 l1 y1 z1 st1 hQ1
  rw [l1, y1, z1] at X1
  obtain ⟨rfl, N1q, e1⟩ := hQ1
  have N1 := Fr.app N0 N1q
  obtain ⟨fs, hr, hrun, hended, hW, hsame⟩ := X1.leave (v := some (.int (nar .char (((x_ 0) &&& (255 : Int32)).toUInt32.toUInt16.toUInt32.toInt32)))) (fun h => by rw [Bd.returns] at h; cases h) (BodyLoose.notSynchronized Bd)
  refine ⟨_, _, pre2 _ ?_, hrun, hended, _, _, rfl, ?_, ⟨_, rfl⟩, hW, hsame.mono (by decide) (by decide)⟩
  · show SP p e below (s₁.setTop (mkF m 3 #[vR p0, vI (0 : Int32)] [(.int (2 : Int32)), (.int (0 : Int32))])) _
    refine st1 _ ?_
    show SP p e below (T1.setTop (mkF m 6 #[vR p0, vI (0 : Int32)] [])) _
    refine XS.aloadN X1.here hx rfl (hb hby d21_6) rfl rfl ?_
    show SP p e below (T1.setTop (mkF m 7 #[vR p0, vI (0 : Int32)] [(.ref p0)])) _
    refine XS.iloadN X1.here hx rfl (hb hby d21_7) rfl  ?_
    show SP p e below (T1.setTop (mkF m 8 #[vR p0, vI (0 : Int32)] [(.int (0 : Int32)), (.ref p0)])) _
    refine own_ldB X1 hx hZ e1 A_p0 (j := (0 : Int32)) (k := 0) (by decide) (by decide) (by decide) (g := (mkF m 8 #[vR p0, vI (0 : Int32)] [(.int (0 : Int32)), (.ref p0)])) rfl rfl (hb hby d21_8) ?_
    show SP p e below (T1.setTop (mkF m 9 #[vR p0, vI (0 : Int32)] [(.int (x_ 0))])) _
    refine XS.sipush X1.here hx rfl (hb hby d21_9) ?_
    show SP p e below (T1.setTop (mkF m 12 #[vR p0, vI (0 : Int32)] [(.int (255 : Int32)), (.int (x_ 0))])) _
    refine XS.iand X1.here hx rfl (hb hby d21_12) rfl ?_
    show SP p e below (T1.setTop (mkF m 13 #[vR p0, vI (0 : Int32)] [(.int ((x_ 0) &&& (255 : Int32)))])) _
    refine XS.i2c X1.here hx rfl (hb hby d21_13) rfl ?_
    show SP p e below (T1.setTop (mkF m 14 #[vR p0, vI (0 : Int32)] [(.int (((x_ 0) &&& (255 : Int32)).toUInt32.toUInt16.toUInt32.toInt32))])) _
    exact retN X1 hx (t := .char) Bd.returns (by simp) (hb hby d21_14) hr
  · show Q_21L20 Z p0 x_ fm_ h0 n0 _ T1.heap _
    rw [e1]
    exact ⟨congrArg (fun z => some (Value.int z)) (by rfl : (nar .char (((x_ 0) &&& (255 : Int32)).toUInt32.toUInt16.toUInt32.toInt32)) = f_21L20 x_), N1, rfl⟩
theorem ef_19L20 (m : MethodId) (p0 : Addr) : entryFrame m #[(.ref p0), (.int (0 : Int32))] 2 = mkF m 0 #[vR p0, vI (0 : Int32)] [] := by first | (simp [entryFrame, mkF, argsToLocals, Value.category]; done) | rfl
def f_19L20 (cs_ : Int32) (x_ : Nat → Int32) : Int32 := (nar .char (f_21L20 x_))
def Q_19L20 (Z : State) (p0 : Addr) (cs_ : Int32) (v_ : Addr) (x_ : Nat → Int32) (fm_ : Value) (h0 : Heap) (n0 : Nat) (v : Option Value) (h : Heap) (L : List Loc) : Prop := v = some (.int (f_19L20 cs_ x_)) ∧ Fr n0 L ∧ h = h0
theorem rm_19L20 (l : Launch) (Z : State) (a0 : Array Value) (hw : ∀ d ∈ tables_1, d.before a0 Z = true) (ws : List Jvm.Cond) (p0 : Addr) (cs_ : Int32) (v_ : Addr) (x_ : Nat → Int32) (fm_ : Value) (h0 : Heap) (n0 : Nat) (Z0 : n0 ≤ h0.size) (S_COMPACT_STRINGS : Sta Z h0 "java/lang/String" "COMPACT_STRINGS" "Z" (.int cs_)) (hcs : ¬ (cs_ = (0 : Int32))) (E_p0 : Exa Z h0 p0 "java/lang/String") (F_p0_value : Fld Z h0 p0 "java/lang/String" "value" "[B" (.ref v_)) (F_p0_coder : Fld Z h0 p0 "java/lang/String" "coder" "B" (.int (0 : Int32))) (A_v_ : own_A Z h0 v_ .byte 2 (fun i => .int (x_ i))) (S_SIOOBE_FORMATTER : Sta Z h0 "jdk/internal/util/Preconditions" "SIOOBE_FORMATTER" "Ljava/util/function/BiFunction;" fm_) (hfm : fm_ = Value.null ∨ ∃ a, fm_ = Value.ref a) :
    MetFree l (⟨"java/lang/String", "charAt", "(I)C"⟩ : MethodName) (head1 (Jvm.Cond.code (⟨"java/lang/String", "charAt", "(I)C"⟩ : MethodName) jdk_42_method_56_code 2 (some .char) :: ws) (⟨3, 0, 0, 40⟩ : Room)) (fun a U => a = #[(.ref p0), (.int (0 : Int32))] ∧ Z.Warmed39 U.vm ∧ U.heap = h0) (fun _ _ _ _ _ => True) (fun _ U o U' => ∃ v L, o = .returned v ∧ Q_19L20 Z p0 cs_ v_ x_ fm_ h0 n0 v U'.heap L ∧ FrameEnd U o U' L 0 0) := by
  refine MetFree.of_bodySF (plainFor_of_name pn_19) hisR ?_
  intro p e s m args below meth c s₁ Bd hml0 hP hK
  obtain ⟨rfl, hZ, hh⟩ := hP
  have hx := Bd.exec
  have hby := Bd.bytes
  have hml : c.maxLocals = 2 := hml0
  have hown : s.vm.findClass "java/lang/String" = some m.cls := findClass_of_methodNamed Bd.named
  have hnm := (name_of_methodNamed Bd.named Bd.method).1
  have X0 : Stand p l e (⟨3, 0, 0, 40⟩ : Room) s m #[(.ref p0), (.int (0 : Int32))] below meth c s₁ [] 0 0 := Stand.of_body Bd
  have e0 : s₁.heap = h0 := by rw [← hh, Bd.state]; rfl
  have N0 := Fr.nil n0
  have K0 : Keep h0 h0 [] := Keep.refl h0 _
  have pre0 : ∀ t, SP p e below (s₁.setTop (mkF m 0 #[vR p0, vI (0 : Int32)] [])) t → SP p e below (s₁.setTop (entryFrame m #[(.ref p0), (.int (0 : Int32))] 2)) t := fun t k => castTop (ef_19L20 m p0) k
  have pre2 : ∀ t, SP p e below (s₁.setTop (mkF m 1 #[vR p0, vI (0 : Int32)] [(.ref p0)])) t → SP p e below (s₁.setTop (entryFrame m #[(.ref p0), (.int (0 : Int32))] 2)) t := by
    intro t k
    refine pre0 t ?_
    show SP p e below (s₁.setTop (mkF m 0 #[vR p0, vI (0 : Int32)] [])) _
    refine XS.aloadN X0.here hx rfl (hb hby d19_0) rfl rfl ?_
    exact k
  obtain ⟨cq1, kq1, q1a, q1b, q1c⟩ := isOf hZ e0 E_p0
  obtain ⟨_, _, ⟨T1, L1, k1, n1⟩, -, X1, ⟨Lc1, hQ1, l1, y1, z1⟩, st1⟩ := X0.virtualBack hx (y := (⟨"java/lang/String", "isLatin1", "()Z"⟩ : MethodName)) (z := (⟨"java/lang/String", "isLatin1", "()Z"⟩ : MethodName)) hown (mvT hZ (ow hw 91 rfl)) (mvT hZ (ow hw 92 rfl)) (notFace_of_selects (args := #[]) (mvT hZ (ow hw 94 rfl))) (mvT hZ (ow hw 94 rfl)) (mvT hZ (ow hw 93 rfl)) (by decide) (backOf (W := 0) (rm_20L l Z a0 hw [] p0 cs_ h0 n0 Z0 S_COMPACT_STRINGS hcs F_p0_coder) hZ (ow hw 95 rfl) (ow hw 7 rfl) (by decide) (by decide)) q1a q1c (g := (mkF m 1 #[vR p0, vI (0 : Int32)] [(.ref p0)])) rfl (by rw [hml]; rfl) (Steps.refl _) (argsL := []) (rest := []) (lenOf pd_20 rfl) rfl own_le0 (hb hby d19_1) (fun _ _ => ⟨rfl, e0, (by decide : 0 + 0 ≤ _), (by decide : 0 + 0 ≤ _)⟩)
  dsimp only [Pt.U, Pt.locs, Pt.cells, Pt.slots] at X1 l1 y1 z1 st1 hQ1
  rw [l1, y1, z1] at X1
  obtain ⟨rfl, N1q, e1⟩ := hQ1
  have N1 := Fr.app N0 N1q
  have pre3 : ∀ t, SP p e below (T1.setTop (mkF m 8 #[vR p0, vI (0 : Int32)] [(.ref p0)])) t → SP p e below (s₁.setTop (entryFrame m #[(.ref p0), (.int (0 : Int32))] 2)) t := by
    intro t k
    refine pre2 t ?_
    show SP p e below (s₁.setTop (mkF m 1 #[vR p0, vI (0 : Int32)] [(.ref p0)])) _
    refine st1.trans ?_
    show SP p e below (T1.setTop (mkF m 4 #[vR p0, vI (0 : Int32)] [(.int (f_20L cs_))])) _
    refine XS.ifNo X1.here hx rfl (hb hby d19_4) rfl ((if0 _ _).trans (feq ((show ¬ ((1 : Int32) = 0) by decide) : ¬ ((f_20L cs_) = (0 : Int32)))).1) ?_
    show SP p e below (T1.setTop (mkF m 7 #[vR p0, vI (0 : Int32)] [])) _
    refine XS.aloadN X1.here hx rfl (hb hby d19_7) rfl rfl ?_
    exact k
  obtain ⟨T4, X4, e4, st4⟩ := getF X1 hx hZ hown (host := "") (Or.inl (ow hw 25 rfl)) Via.refl e1 F_p0_value (g := (mkF m 8 #[vR p0, vI (0 : Int32)] [(.ref p0)])) rfl rfl (hb hby d19_8)
  have pre6 : ∀ t, SP p e below (T4.setTop (mkF m 12 #[vR p0, vI (0 : Int32)] [(.int (0 : Int32)), (.ref v_)])) t → SP p e below (s₁.setTop (entryFrame m #[(.ref p0), (.int (0 : Int32))] 2)) t := by
    intro t k
    refine pre3 t ?_
    show SP p e below (T1.setTop (mkF m 8 #[vR p0, vI (0 : Int32)] [(.ref p0)])) _
    refine st4 _ ?_
    show SP p e below (T4.setTop (mkF m 11 #[vR p0, vI (0 : Int32)] [(.ref v_)])) _
    refine XS.iloadN X4.here hx rfl (hb hby d19_11) rfl  ?_
    exact k
  obtain ⟨_, _, ⟨T5, L5, k5, n5⟩, -, X5, ⟨Lc5, hQ5, l5, y5, z5⟩, st5⟩ := Jvm.LawKit.callS X4 hx (y := (⟨"java/lang/StringLatin1", "charAt", "([BI)C"⟩ : MethodName)) hown (mvT hZ (ow hw 96 rfl)) (mvT hZ (ow hw 97 rfl)) (mvT hZ (ow hw 47 rfl)) (mvT hZ (ow hw 98 rfl)) (by decide) (backOf (W := 0) (rm_21L20 l Z a0 hw [] v_ x_ fm_ h0 n0 Z0 A_v_ S_SIOOBE_FORMATTER hfm) hZ (ow hw 98 rfl) (ow hw 47 rfl) (by decide) (by decide)) (g := (mkF m 12 #[vR p0, vI (0 : Int32)] [(.int (0 : Int32)), (.ref v_)])) rfl (by rw [hml]; rfl) (argsL := [(.ref v_), (.int (0 : Int32))]) (rest := []) (lenOf pd_5 rfl) rfl own_le0 (hb hby d19_12) (fun _ _ => ⟨rfl, e4, (by decide : 0 + 0 ≤ _), (by decide : 0 + 0 ≤ _)⟩)
  dsimp only [Pt.U, Pt.locs, Pt.cells, Pt.slots] at X5 l5 y5 z5 st5 hQ5
  rw [l5, y5, z5] at X5
  obtain ⟨rfl, N5q, e5⟩ := hQ5
  have N5 := Fr.app N1 N5q
  obtain ⟨fs, hr, hrun, hended, hW, hsame⟩ := X5.leave (v := some (.int (nar .char (f_21L20 x_)))) (fun h => by rw [Bd.returns] at h; cases h) (BodyLoose.notSynchronized Bd)
  refine ⟨_, _, pre6 _ ?_, hrun, hended, _, _, rfl, ?_, ⟨_, rfl⟩, hW, hsame.mono (by decide) (by decide)⟩
  · show SP p e below (T4.setTop (mkF m 12 #[vR p0, vI (0 : Int32)] [(.int (0 : Int32)), (.ref v_)])) _
    refine st5 _ ?_
    show SP p e below (T5.setTop (mkF m 15 #[vR p0, vI (0 : Int32)] [(.int (f_21L20 x_))])) _
    exact retN X5 hx (t := .char) Bd.returns (by simp) (hb hby d19_15) hr
  · show Q_19L20 Z p0 cs_ v_ x_ fm_ h0 n0 _ T5.heap _
    rw [e5]
    exact ⟨congrArg (fun z => some (Value.int z)) (by rfl : (nar .char (f_21L20 x_)) = f_19L20 cs_ x_), N5, rfl⟩
theorem ef_21L21 (m : MethodId) (p0 : Addr) : entryFrame m #[(.ref p0), (.int (1 : Int32))] 2 = mkF m 0 #[vR p0, vI (1 : Int32)] [] := by first | (simp [entryFrame, mkF, argsToLocals, Value.category]; done) | rfl
def f_21L21 (x_ : Nat → Int32) : Int32 := (nar .char (((x_ 1) &&& (255 : Int32)).toUInt32.toUInt16.toUInt32.toInt32))
def Q_21L21 (Z : State) (p0 : Addr) (x_ : Nat → Int32) (fm_ : Value) (h0 : Heap) (n0 : Nat) (v : Option Value) (h : Heap) (L : List Loc) : Prop := v = some (.int (f_21L21 x_)) ∧ Fr n0 L ∧ h = h0
theorem rm_21L21 (l : Launch) (Z : State) (a0 : Array Value) (hw : ∀ d ∈ tables_1, d.before a0 Z = true) (ws : List Jvm.Cond) (p0 : Addr) (x_ : Nat → Int32) (fm_ : Value) (h0 : Heap) (n0 : Nat) (Z0 : n0 ≤ h0.size) (A_p0 : own_A Z h0 p0 .byte 2 (fun i => .int (x_ i))) (S_SIOOBE_FORMATTER : Sta Z h0 "jdk/internal/util/Preconditions" "SIOOBE_FORMATTER" "Ljava/util/function/BiFunction;" fm_) (hfm : fm_ = Value.null ∨ ∃ a, fm_ = Value.ref a) :
    MetFree l (⟨"java/lang/StringLatin1", "charAt", "([BI)C"⟩ : MethodName) (head1 (Jvm.Cond.code (⟨"java/lang/StringLatin1", "charAt", "([BI)C"⟩ : MethodName) jdk_43_method_2_code 2 (some .char) :: ws) (⟨2, 0, 0, 27⟩ : Room)) (fun a U => a = #[(.ref p0), (.int (1 : Int32))] ∧ Z.Warmed39 U.vm ∧ U.heap = h0) (fun _ _ _ _ _ => True) (fun _ U o U' => ∃ v L, o = .returned v ∧ Q_21L21 Z p0 x_ fm_ h0 n0 v U'.heap L ∧ FrameEnd U o U' L 0 0) := by
  refine MetFree.of_bodySF (plainFor_of_name pn_21) hisR ?_
  intro p e s m args below meth c s₁ Bd hml0 hP hK
  obtain ⟨rfl, hZ, hh⟩ := hP
  have hx := Bd.exec
  have hby := Bd.bytes
  have hml : c.maxLocals = 2 := hml0
  have hown : s.vm.findClass "java/lang/StringLatin1" = some m.cls := findClass_of_methodNamed Bd.named
  have hnm := (name_of_methodNamed Bd.named Bd.method).1
  have X0 : Stand p l e (⟨2, 0, 0, 27⟩ : Room) s m #[(.ref p0), (.int (1 : Int32))] below meth c s₁ [] 0 0 := Stand.of_body Bd
  have e0 : s₁.heap = h0 := by rw [← hh, Bd.state]; rfl
  have N0 := Fr.nil n0
  have K0 : Keep h0 h0 [] := Keep.refl h0 _
  have pre0 : ∀ t, SP p e below (s₁.setTop (mkF m 0 #[vR p0, vI (1 : Int32)] [])) t → SP p e below (s₁.setTop (entryFrame m #[(.ref p0), (.int (1 : Int32))] 2)) t := fun t k => castTop (ef_21L21 m p0) k
  have pre2 : ∀ t, SP p e below (s₁.setTop (mkF m 3 #[vR p0, vI (1 : Int32)] [(.int (2 : Int32)), (.int (1 : Int32))])) t → SP p e below (s₁.setTop (entryFrame m #[(.ref p0), (.int (1 : Int32))] 2)) t := by
    intro t k
    refine pre0 t ?_
    show SP p e below (s₁.setTop (mkF m 0 #[vR p0, vI (1 : Int32)] [])) _
    refine XS.iloadN X0.here hx rfl (hb hby d21_0) rfl  ?_
    show SP p e below (s₁.setTop (mkF m 1 #[vR p0, vI (1 : Int32)] [(.int (1 : Int32))])) _
    refine XS.aloadN X0.here hx rfl (hb hby d21_1) rfl rfl ?_
    show SP p e below (s₁.setTop (mkF m 2 #[vR p0, vI (1 : Int32)] [(.ref p0), (.int (1 : Int32))])) _
    refine own_len X0 hx hZ e0 A_p0 (z := (2 : Int32)) rfl (g := (mkF m 2 #[vR p0, vI (1 : Int32)] [(.ref p0), (.int (1 : Int32))])) rfl rfl (hb hby d21_2) ?_
    exact k
  obtain ⟨_, _, ⟨T1, L1, k1, n1⟩, -, X1, ⟨Lc1, hQ1, l1, y1, z1⟩, st1⟩ := Jvm.LawKit.callS X0 hx (y := (⟨"java/lang/String", "checkIndex", "(II)V"⟩ : MethodName)) hown (mvT hZ (ow hw 99 rfl)) (mvT hZ (ow hw 100 rfl)) (mvT hZ (ow hw 7 rfl)) (mvT hZ (ow hw 101 rfl)) (by decide) (backOf (W := 0) (rm_22 l Z a0 hw [] (1 : Int32) (2 : Int32) fm_ h0 n0 Z0 S_SIOOBE_FORMATTER hfm (by decide) (by decide)) hZ (ow hw 101 rfl) (ow hw 7 rfl) (by decide) (by decide)) (g := (mkF m 3 #[vR p0, vI (1 : Int32)] [(.int (2 : Int32)), (.int (1 : Int32))])) rfl (by rw [hml]; rfl) (argsL := [(.int (1 : Int32)), (.int (2 : Int32))]) (rest := []) (lenOf pd_3 rfl) rfl own_le0 (hb hby d21_3) (fun _ _ => ⟨rfl, e0, (by decide : 0 + 0 ≤ _), (by decide : 0 + 0 ≤ _)⟩)
  dsimp only [Pt.U, Pt.locs, Pt.cells, Pt.slots] at X1 l1 y1 z1 st1 hQ1
  rw [l1, y1, z1] at X1
  obtain ⟨rfl, N1q, e1⟩ := hQ1
  have N1 := Fr.app N0 N1q
  obtain ⟨fs, hr, hrun, hended, hW, hsame⟩ := X1.leave (v := some (.int (nar .char (((x_ 1) &&& (255 : Int32)).toUInt32.toUInt16.toUInt32.toInt32)))) (fun h => by rw [Bd.returns] at h; cases h) (BodyLoose.notSynchronized Bd)
  refine ⟨_, _, pre2 _ ?_, hrun, hended, _, _, rfl, ?_, ⟨_, rfl⟩, hW, hsame.mono (by decide) (by decide)⟩
  · show SP p e below (s₁.setTop (mkF m 3 #[vR p0, vI (1 : Int32)] [(.int (2 : Int32)), (.int (1 : Int32))])) _
    refine st1 _ ?_
    show SP p e below (T1.setTop (mkF m 6 #[vR p0, vI (1 : Int32)] [])) _
    refine XS.aloadN X1.here hx rfl (hb hby d21_6) rfl rfl ?_
    show SP p e below (T1.setTop (mkF m 7 #[vR p0, vI (1 : Int32)] [(.ref p0)])) _
    refine XS.iloadN X1.here hx rfl (hb hby d21_7) rfl  ?_
    show SP p e below (T1.setTop (mkF m 8 #[vR p0, vI (1 : Int32)] [(.int (1 : Int32)), (.ref p0)])) _
    refine own_ldB X1 hx hZ e1 A_p0 (j := (1 : Int32)) (k := 1) (by decide) (by decide) (by decide) (g := (mkF m 8 #[vR p0, vI (1 : Int32)] [(.int (1 : Int32)), (.ref p0)])) rfl rfl (hb hby d21_8) ?_
    show SP p e below (T1.setTop (mkF m 9 #[vR p0, vI (1 : Int32)] [(.int (x_ 1))])) _
    refine XS.sipush X1.here hx rfl (hb hby d21_9) ?_
    show SP p e below (T1.setTop (mkF m 12 #[vR p0, vI (1 : Int32)] [(.int (255 : Int32)), (.int (x_ 1))])) _
    refine XS.iand X1.here hx rfl (hb hby d21_12) rfl ?_
    show SP p e below (T1.setTop (mkF m 13 #[vR p0, vI (1 : Int32)] [(.int ((x_ 1) &&& (255 : Int32)))])) _
    refine XS.i2c X1.here hx rfl (hb hby d21_13) rfl ?_
    show SP p e below (T1.setTop (mkF m 14 #[vR p0, vI (1 : Int32)] [(.int (((x_ 1) &&& (255 : Int32)).toUInt32.toUInt16.toUInt32.toInt32))])) _
    exact retN X1 hx (t := .char) Bd.returns (by simp) (hb hby d21_14) hr
  · show Q_21L21 Z p0 x_ fm_ h0 n0 _ T1.heap _
    rw [e1]
    exact ⟨congrArg (fun z => some (Value.int z)) (by rfl : (nar .char (((x_ 1) &&& (255 : Int32)).toUInt32.toUInt16.toUInt32.toInt32)) = f_21L21 x_), N1, rfl⟩
theorem ef_19L21 (m : MethodId) (p0 : Addr) : entryFrame m #[(.ref p0), (.int (1 : Int32))] 2 = mkF m 0 #[vR p0, vI (1 : Int32)] [] := by first | (simp [entryFrame, mkF, argsToLocals, Value.category]; done) | rfl
def f_19L21 (cs_ : Int32) (x_ : Nat → Int32) : Int32 := (nar .char (f_21L21 x_))
def Q_19L21 (Z : State) (p0 : Addr) (cs_ : Int32) (v_ : Addr) (x_ : Nat → Int32) (fm_ : Value) (h0 : Heap) (n0 : Nat) (v : Option Value) (h : Heap) (L : List Loc) : Prop := v = some (.int (f_19L21 cs_ x_)) ∧ Fr n0 L ∧ h = h0
theorem rm_19L21 (l : Launch) (Z : State) (a0 : Array Value) (hw : ∀ d ∈ tables_1, d.before a0 Z = true) (ws : List Jvm.Cond) (p0 : Addr) (cs_ : Int32) (v_ : Addr) (x_ : Nat → Int32) (fm_ : Value) (h0 : Heap) (n0 : Nat) (Z0 : n0 ≤ h0.size) (S_COMPACT_STRINGS : Sta Z h0 "java/lang/String" "COMPACT_STRINGS" "Z" (.int cs_)) (hcs : ¬ (cs_ = (0 : Int32))) (E_p0 : Exa Z h0 p0 "java/lang/String") (F_p0_value : Fld Z h0 p0 "java/lang/String" "value" "[B" (.ref v_)) (F_p0_coder : Fld Z h0 p0 "java/lang/String" "coder" "B" (.int (0 : Int32))) (A_v_ : own_A Z h0 v_ .byte 2 (fun i => .int (x_ i))) (S_SIOOBE_FORMATTER : Sta Z h0 "jdk/internal/util/Preconditions" "SIOOBE_FORMATTER" "Ljava/util/function/BiFunction;" fm_) (hfm : fm_ = Value.null ∨ ∃ a, fm_ = Value.ref a) :
    MetFree l (⟨"java/lang/String", "charAt", "(I)C"⟩ : MethodName) (head1 (Jvm.Cond.code (⟨"java/lang/String", "charAt", "(I)C"⟩ : MethodName) jdk_42_method_56_code 2 (some .char) :: ws) (⟨3, 0, 0, 40⟩ : Room)) (fun a U => a = #[(.ref p0), (.int (1 : Int32))] ∧ Z.Warmed39 U.vm ∧ U.heap = h0) (fun _ _ _ _ _ => True) (fun _ U o U' => ∃ v L, o = .returned v ∧ Q_19L21 Z p0 cs_ v_ x_ fm_ h0 n0 v U'.heap L ∧ FrameEnd U o U' L 0 0) := by
  refine MetFree.of_bodySF (plainFor_of_name pn_19) hisR ?_
  intro p e s m args below meth c s₁ Bd hml0 hP hK
  obtain ⟨rfl, hZ, hh⟩ := hP
  have hx := Bd.exec
  have hby := Bd.bytes
  have hml : c.maxLocals = 2 := hml0
  have hown : s.vm.findClass "java/lang/String" = some m.cls := findClass_of_methodNamed Bd.named
  have hnm := (name_of_methodNamed Bd.named Bd.method).1
  have X0 : Stand p l e (⟨3, 0, 0, 40⟩ : Room) s m #[(.ref p0), (.int (1 : Int32))] below meth c s₁ [] 0 0 := Stand.of_body Bd
  have e0 : s₁.heap = h0 := by rw [← hh, Bd.state]; rfl
  have N0 := Fr.nil n0
  have K0 : Keep h0 h0 [] := Keep.refl h0 _
  have pre0 : ∀ t, SP p e below (s₁.setTop (mkF m 0 #[vR p0, vI (1 : Int32)] [])) t → SP p e below (s₁.setTop (entryFrame m #[(.ref p0), (.int (1 : Int32))] 2)) t := fun t k => castTop (ef_19L21 m p0) k
  have pre2 : ∀ t, SP p e below (s₁.setTop (mkF m 1 #[vR p0, vI (1 : Int32)] [(.ref p0)])) t → SP p e below (s₁.setTop (entryFrame m #[(.ref p0), (.int (1 : Int32))] 2)) t := by
    intro t k
    refine pre0 t ?_
    show SP p e below (s₁.setTop (mkF m 0 #[vR p0, vI (1 : Int32)] [])) _
    refine XS.aloadN X0.here hx rfl (hb hby d19_0) rfl rfl ?_
    exact k
  obtain ⟨cq1, kq1, q1a, q1b, q1c⟩ := isOf hZ e0 E_p0
  obtain ⟨_, _, ⟨T1, L1, k1, n1⟩, -, X1, ⟨Lc1, hQ1, l1, y1, z1⟩, st1⟩ := X0.virtualBack hx (y := (⟨"java/lang/String", "isLatin1", "()Z"⟩ : MethodName)) (z := (⟨"java/lang/String", "isLatin1", "()Z"⟩ : MethodName)) hown (mvT hZ (ow hw 91 rfl)) (mvT hZ (ow hw 92 rfl)) (notFace_of_selects (args := #[]) (mvT hZ (ow hw 94 rfl))) (mvT hZ (ow hw 94 rfl)) (mvT hZ (ow hw 93 rfl)) (by decide) (backOf (W := 0) (rm_20L l Z a0 hw [] p0 cs_ h0 n0 Z0 S_COMPACT_STRINGS hcs F_p0_coder) hZ (ow hw 95 rfl) (ow hw 7 rfl) (by decide) (by decide)) q1a q1c (g := (mkF m 1 #[vR p0, vI (1 : Int32)] [(.ref p0)])) rfl (by rw [hml]; rfl) (Steps.refl _) (argsL := []) (rest := []) (lenOf pd_20 rfl) rfl own_le0 (hb hby d19_1) (fun _ _ => ⟨rfl, e0, (by decide : 0 + 0 ≤ _), (by decide : 0 + 0 ≤ _)⟩)
  dsimp only [Pt.U, Pt.locs, Pt.cells, Pt.slots] at X1 l1 y1 z1 st1 hQ1
  rw [l1, y1, z1] at X1
  obtain ⟨rfl, N1q, e1⟩ := hQ1
  have N1 := Fr.app N0 N1q
  have pre3 : ∀ t, SP p e below (T1.setTop (mkF m 8 #[vR p0, vI (1 : Int32)] [(.ref p0)])) t → SP p e below (s₁.setTop (entryFrame m #[(.ref p0), (.int (1 : Int32))] 2)) t := by
    intro t k
    refine pre2 t ?_
    show SP p e below (s₁.setTop (mkF m 1 #[vR p0, vI (1 : Int32)] [(.ref p0)])) _
    refine st1.trans ?_
    show SP p e below (T1.setTop (mkF m 4 #[vR p0, vI (1 : Int32)] [(.int (f_20L cs_))])) _
    refine XS.ifNo X1.here hx rfl (hb hby d19_4) rfl ((if0 _ _).trans (feq ((show ¬ ((1 : Int32) = 0) by decide) : ¬ ((f_20L cs_) = (0 : Int32)))).1) ?_
    show SP p e below (T1.setTop (mkF m 7 #[vR p0, vI (1 : Int32)] [])) _
    refine XS.aloadN X1.here hx rfl (hb hby d19_7) rfl rfl ?_
    exact k
  obtain ⟨T4, X4, e4, st4⟩ := getF X1 hx hZ hown (host := "") (Or.inl (ow hw 25 rfl)) Via.refl e1 F_p0_value (g := (mkF m 8 #[vR p0, vI (1 : Int32)] [(.ref p0)])) rfl rfl (hb hby d19_8)
  have pre6 : ∀ t, SP p e below (T4.setTop (mkF m 12 #[vR p0, vI (1 : Int32)] [(.int (1 : Int32)), (.ref v_)])) t → SP p e below (s₁.setTop (entryFrame m #[(.ref p0), (.int (1 : Int32))] 2)) t := by
    intro t k
    refine pre3 t ?_
    show SP p e below (T1.setTop (mkF m 8 #[vR p0, vI (1 : Int32)] [(.ref p0)])) _
    refine st4 _ ?_
    show SP p e below (T4.setTop (mkF m 11 #[vR p0, vI (1 : Int32)] [(.ref v_)])) _
    refine XS.iloadN X4.here hx rfl (hb hby d19_11) rfl  ?_
    exact k
  obtain ⟨_, _, ⟨T5, L5, k5, n5⟩, -, X5, ⟨Lc5, hQ5, l5, y5, z5⟩, st5⟩ := Jvm.LawKit.callS X4 hx (y := (⟨"java/lang/StringLatin1", "charAt", "([BI)C"⟩ : MethodName)) hown (mvT hZ (ow hw 96 rfl)) (mvT hZ (ow hw 97 rfl)) (mvT hZ (ow hw 47 rfl)) (mvT hZ (ow hw 98 rfl)) (by decide) (backOf (W := 0) (rm_21L21 l Z a0 hw [] v_ x_ fm_ h0 n0 Z0 A_v_ S_SIOOBE_FORMATTER hfm) hZ (ow hw 98 rfl) (ow hw 47 rfl) (by decide) (by decide)) (g := (mkF m 12 #[vR p0, vI (1 : Int32)] [(.int (1 : Int32)), (.ref v_)])) rfl (by rw [hml]; rfl) (argsL := [(.ref v_), (.int (1 : Int32))]) (rest := []) (lenOf pd_5 rfl) rfl own_le0 (hb hby d19_12) (fun _ _ => ⟨rfl, e4, (by decide : 0 + 0 ≤ _), (by decide : 0 + 0 ≤ _)⟩)
  dsimp only [Pt.U, Pt.locs, Pt.cells, Pt.slots] at X5 l5 y5 z5 st5 hQ5
  rw [l5, y5, z5] at X5
  obtain ⟨rfl, N5q, e5⟩ := hQ5
  have N5 := Fr.app N1 N5q
  obtain ⟨fs, hr, hrun, hended, hW, hsame⟩ := X5.leave (v := some (.int (nar .char (f_21L21 x_)))) (fun h => by rw [Bd.returns] at h; cases h) (BodyLoose.notSynchronized Bd)
  refine ⟨_, _, pre6 _ ?_, hrun, hended, _, _, rfl, ?_, ⟨_, rfl⟩, hW, hsame.mono (by decide) (by decide)⟩
  · show SP p e below (T4.setTop (mkF m 12 #[vR p0, vI (1 : Int32)] [(.int (1 : Int32)), (.ref v_)])) _
    refine st5 _ ?_
    show SP p e below (T5.setTop (mkF m 15 #[vR p0, vI (1 : Int32)] [(.int (f_21L21 x_))])) _
    exact retN X5 hx (t := .char) Bd.returns (by simp) (hb hby d19_15) hr
  · show Q_19L21 Z p0 cs_ v_ x_ fm_ h0 n0 _ T5.heap _
    rw [e5]
    exact ⟨congrArg (fun z => some (Value.int z)) (by rfl : (nar .char (f_21L21 x_)) = f_19L21 cs_ x_), N5, rfl⟩
theorem ef_16L2 (m : MethodId) (p0 : Int64) (p1 : Addr) : entryFrame m #[(.long p0), (.ref p1)] 6 = mkF m 0 #[vJ p0, .second, vR p1, .unset, .unset, .unset] [] := by first | (simp [entryFrame, mkF, argsToLocals, Value.category]; done) | rfl
def f_16L2 (p0 : Int64) (cs_ : Int32) (x_ : Nat → Int32) : Int64 := let v3_27 : Int64 := ((p0 ^^^ ((f_19L20 cs_ x_).toInt64)) * (1099511628211 : Int64)); let v3_27_13 : Int64 := ((v3_27 ^^^ ((f_19L21 cs_ x_).toInt64)) * (1099511628211 : Int64)); v3_27_13
def Q_16L2 (Z : State) (p0 : Int64) (p1 : Addr) (cs_ : Int32) (v_ : Addr) (x_ : Nat → Int32) (fm_ : Value) (h0 : Heap) (n0 : Nat) (v : Option Value) (h : Heap) (L : List Loc) : Prop := v = some (.long (f_16L2 p0 cs_ x_)) ∧ Fr n0 L ∧ h = h0
theorem rm_16L2 (l : Launch) (Z : State) (a0 : Array Value) (hw : ∀ d ∈ tables_1, d.before a0 Z = true) (ws : List Jvm.Cond) (p0 : Int64) (p1 : Addr) (cs_ : Int32) (v_ : Addr) (x_ : Nat → Int32) (fm_ : Value) (h0 : Heap) (n0 : Nat) (Z0 : n0 ≤ h0.size) (S_COMPACT_STRINGS : Sta Z h0 "java/lang/String" "COMPACT_STRINGS" "Z" (.int cs_)) (hcs : ¬ (cs_ = (0 : Int32))) (E_p1 : Exa Z h0 p1 "java/lang/String") (F_p1_value : Fld Z h0 p1 "java/lang/String" "value" "[B" (.ref v_)) (F_p1_coder : Fld Z h0 p1 "java/lang/String" "coder" "B" (.int (0 : Int32))) (A_v_ : own_A Z h0 v_ .byte 2 (fun i => .int (x_ i))) (S_SIOOBE_FORMATTER : Sta Z h0 "jdk/internal/util/Preconditions" "SIOOBE_FORMATTER" "Ljava/util/function/BiFunction;" fm_) (hfm : fm_ = Value.null ∨ ∃ a, fm_ = Value.ref a) (S__assertionsDisabled : Sta Z h0 "java/lang/StringUTF16" "$assertionsDisabled" "Z" (.int (1 : Int32))) (S_HI_BYTE_SHIFT : Sta Z h0 "java/lang/StringUTF16" "HI_BYTE_SHIFT" "I" (.int (0 : Int32))) (S_LO_BYTE_SHIFT : Sta Z h0 "java/lang/StringUTF16" "LO_BYTE_SHIFT" "I" (.int (8 : Int32))) :
    MetFree l (⟨"com/example/tern/tern/store/HashIndex", "hash", "(JLjava/lang/String;)J"⟩ : MethodName) (head1 (Jvm.Cond.code (⟨"com/example/tern/tern/store/HashIndex", "hash", "(JLjava/lang/String;)J"⟩ : MethodName) prog_23_method_7_code 6 (some .long) :: ws) (⟨5, 0, 0, 68⟩ : Room)) (fun a U => a = #[(.long p0), (.ref p1)] ∧ Z.Warmed39 U.vm ∧ U.heap = h0) (fun _ _ _ _ _ => True) (fun _ U o U' => ∃ v L, o = .returned v ∧ Q_16L2 Z p0 p1 cs_ v_ x_ fm_ h0 n0 v U'.heap L ∧ FrameEnd U o U' L 0 0) := by
  refine MetFree.of_bodySF (plainFor_of_name pn_16) hisR ?_
  intro p e s m args below meth c s₁ Bd hml0 hP hK
  obtain ⟨rfl, hZ, hh⟩ := hP
  have hx := Bd.exec
  have hby := Bd.bytes
  have hml : c.maxLocals = 6 := hml0
  have hown : s.vm.findClass "com/example/tern/tern/store/HashIndex" = some m.cls := findClass_of_methodNamed Bd.named
  have hnm := (name_of_methodNamed Bd.named Bd.method).1
  have X0 : Stand p l e (⟨5, 0, 0, 68⟩ : Room) s m #[(.long p0), (.ref p1)] below meth c s₁ [] 0 0 := Stand.of_body Bd
  have e0 : s₁.heap = h0 := by rw [← hh, Bd.state]; rfl
  have N0 := Fr.nil n0
  have K0 : Keep h0 h0 [] := Keep.refl h0 _
  have pre0 : ∀ t, SP p e below (s₁.setTop (mkF m 0 #[vJ p0, .second, vR p1, .unset, .unset, .unset] [])) t → SP p e below (s₁.setTop (entryFrame m #[(.long p0), (.ref p1)] 6)) t := fun t k => castTop (ef_16L2 m p0 p1) k
  have pre2 : ∀ t, SP p e below (s₁.setTop (mkF m 8 #[vJ p0, .second, vR p1, vJ p0, .second, vI (0 : Int32)] [(.ref p1), (.int (0 : Int32))])) t → SP p e below (s₁.setTop (entryFrame m #[(.long p0), (.ref p1)] 6)) t := by
    intro t k
    refine pre0 t ?_
    show SP p e below (s₁.setTop (mkF m 0 #[vJ p0, .second, vR p1, .unset, .unset, .unset] [])) _
    refine XS.lloadN X0.here hx rfl (hb hby d16_0) rfl  ?_
    show SP p e below (s₁.setTop (mkF m 1 #[vJ p0, .second, vR p1, .unset, .unset, .unset] [(.long p0)])) _
    refine XS.lstoreN X0.here hx rfl (hb hby d16_1) rfl (l' := #[vJ p0, .second, vR p1, vJ p0, .second, .unset]) rfl ?_
    show SP p e below (s₁.setTop (mkF m 2 #[vJ p0, .second, vR p1, vJ p0, .second, .unset] [])) _
    refine XS.iconst X0.here hx rfl (hb hby d16_2) ?_
    show SP p e below (s₁.setTop (mkF m 3 #[vJ p0, .second, vR p1, vJ p0, .second, .unset] [(.int (0 : Int32))])) _
    refine XS.istore X0.here hx rfl (hb hby d16_3) rfl (l' := #[vJ p0, .second, vR p1, vJ p0, .second, vI (0 : Int32)]) rfl ?_
    show SP p e below (s₁.setTop (mkF m 5 #[vJ p0, .second, vR p1, vJ p0, .second, vI (0 : Int32)] [])) _
    refine XS.iload X0.here hx rfl (hb hby d16_5) rfl  ?_
    show SP p e below (s₁.setTop (mkF m 7 #[vJ p0, .second, vR p1, vJ p0, .second, vI (0 : Int32)] [(.int (0 : Int32))])) _
    refine XS.aloadN X0.here hx rfl (hb hby d16_7) rfl rfl ?_
    exact k
  obtain ⟨cq1, kq1, q1a, q1b, q1c⟩ := isOf hZ e0 E_p1
  obtain ⟨_, _, ⟨T1, L1, k1, n1⟩, -, X1, ⟨Lc1, hQ1, l1, y1, z1⟩, st1⟩ := X0.virtualBack hx (y := (⟨"java/lang/String", "length", "()I"⟩ : MethodName)) (z := (⟨"java/lang/String", "length", "()I"⟩ : MethodName)) hown (mvT hZ (ow hw 76 rfl)) (mvT hZ (ow hw 77 rfl)) (notFace_of_selects (args := #[]) (mvT hZ (ow hw 79 rfl))) (mvT hZ (ow hw 79 rfl)) (mvT hZ (ow hw 78 rfl)) (by decide) (backOf (W := 1) (rm_17L2 l Z a0 hw [] p1 cs_ v_ x_ h0 n0 Z0 S_COMPACT_STRINGS hcs E_p1 F_p1_value F_p1_coder A_v_) hZ (ow hw 80 rfl) (ow hw 7 rfl) (by decide) (by decide)) q1a q1c (g := (mkF m 8 #[vJ p0, .second, vR p1, vJ p0, .second, vI (0 : Int32)] [(.ref p1), (.int (0 : Int32))])) rfl (by rw [hml]; rfl) (Steps.refl _) (argsL := []) (rest := [(.int (0 : Int32))]) (lenOf pd_19 rfl) rfl own_le0 (hb hby d16_8) (fun _ _ => ⟨rfl, e0, (by decide : 0 + 0 ≤ _), (by decide : 0 + 0 ≤ _)⟩)
  dsimp only [Pt.U, Pt.locs, Pt.cells, Pt.slots] at X1 l1 y1 z1 st1 hQ1
  rw [l1, y1, z1] at X1
  obtain ⟨rfl, N1q, e1⟩ := hQ1
  have N1 := Fr.app N0 N1q
  have pre3 : ∀ t, SP p e below (T1.setTop (mkF m 11 #[vJ p0, .second, vR p1, vJ p0, .second, vI (0 : Int32)] [(.int (f_17L2 cs_ x_)), (.int (0 : Int32))])) t → SP p e below (s₁.setTop (entryFrame m #[(.long p0), (.ref p1)] 6)) t := by
    intro t k
    refine pre2 t ?_
    show SP p e below (s₁.setTop (mkF m 8 #[vJ p0, .second, vR p1, vJ p0, .second, vI (0 : Int32)] [(.ref p1), (.int (0 : Int32))])) _
    refine st1.trans ?_
    exact k
  have hl4 : (f_17L2 cs_ x_) = (2 : Int32) := rfl
  have preL4 : ∀ t, SP p e below (T1.setTop (mkF m 11 #[vJ p0, .second, vR p1, vJ p0, .second, vI (0 : Int32)] [(.int (2 : Int32)), (.int (0 : Int32))])) t → SP p e below (s₁.setTop (entryFrame m #[(.long p0), (.ref p1)] 6)) t := by
    intro t k_
    refine pre3 t ?_
    rw [hl4]
    exact k_
  have pre6 : ∀ t, SP p e below (T1.setTop (mkF m 18 #[vJ p0, .second, vR p1, vJ p0, .second, vI (0 : Int32)] [(.int (0 : Int32)), (.ref p1), (.long p0)])) t → SP p e below (s₁.setTop (entryFrame m #[(.long p0), (.ref p1)] 6)) t := by
    intro t k
    refine preL4 t ?_
    show SP p e below (T1.setTop (mkF m 11 #[vJ p0, .second, vR p1, vJ p0, .second, vI (0 : Int32)] [(.int (2 : Int32)), (.int (0 : Int32))])) _
    refine XS.icmpNo X1.here hx rfl (hb hby d16_11) rfl (tlt (by decide : (0 : Int32) < (2 : Int32))).2.1 ?_
    show SP p e below (T1.setTop (mkF m 14 #[vJ p0, .second, vR p1, vJ p0, .second, vI (0 : Int32)] [])) _
    refine XS.lloadN X1.here hx rfl (hb hby d16_14) rfl  ?_
    show SP p e below (T1.setTop (mkF m 15 #[vJ p0, .second, vR p1, vJ p0, .second, vI (0 : Int32)] [(.long p0)])) _
    refine XS.aloadN X1.here hx rfl (hb hby d16_15) rfl rfl ?_
    show SP p e below (T1.setTop (mkF m 16 #[vJ p0, .second, vR p1, vJ p0, .second, vI (0 : Int32)] [(.ref p1), (.long p0)])) _
    refine XS.iload X1.here hx rfl (hb hby d16_16) rfl  ?_
    exact k
  obtain ⟨cq5, kq5, q5a, q5b, q5c⟩ := isOf hZ e1 E_p1
  obtain ⟨_, _, ⟨T5, L5, k5, n5⟩, -, X5, ⟨Lc5, hQ5, l5, y5, z5⟩, st5⟩ := X1.virtualBack hx (y := (⟨"java/lang/String", "charAt", "(I)C"⟩ : MethodName)) (z := (⟨"java/lang/String", "charAt", "(I)C"⟩ : MethodName)) hown (mvT hZ (ow hw 86 rfl)) (mvT hZ (ow hw 87 rfl)) (notFace_of_selects (args := #[]) (mvT hZ (ow hw 89 rfl))) (mvT hZ (ow hw 89 rfl)) (mvT hZ (ow hw 88 rfl)) (by decide) (backOf (W := 2) (rm_19L20 l Z a0 hw [] p1 cs_ v_ x_ fm_ h0 n0 Z0 S_COMPACT_STRINGS hcs E_p1 F_p1_value F_p1_coder A_v_ S_SIOOBE_FORMATTER hfm) hZ (ow hw 90 rfl) (ow hw 7 rfl) (by decide) (by decide)) q5a q5c (g := (mkF m 18 #[vJ p0, .second, vR p1, vJ p0, .second, vI (0 : Int32)] [(.int (0 : Int32)), (.ref p1), (.long p0)])) rfl (by rw [hml]; rfl) (Steps.refl _) (argsL := [(.int (0 : Int32))]) (rest := [(.long p0)]) (lenOf pd_21 rfl) rfl own_le0 (hb hby d16_18) (fun _ _ => ⟨rfl, e1, (by decide : 0 + 0 ≤ _), (by decide : 0 + 0 ≤ _)⟩)
  dsimp only [Pt.U, Pt.locs, Pt.cells, Pt.slots] at X5 l5 y5 z5 st5 hQ5
  rw [l5, y5, z5] at X5
  obtain ⟨rfl, N5q, e5⟩ := hQ5
  have N5 := Fr.app N1 N5q
  obtain ⟨v3_27, hv3_27⟩ : ∃ z : Int64, z = ((p0 ^^^ ((f_19L20 cs_ x_).toInt64)) * (1099511628211 : Int64)) := ⟨_, rfl⟩
  have pre8 : ∀ t, SP p e below (T5.setTop (mkF m 8 #[vJ p0, .second, vR p1, vJ v3_27, .second, vI (1 : Int32)] [(.ref p1), (.int (1 : Int32))])) t → SP p e below (s₁.setTop (entryFrame m #[(.long p0), (.ref p1)] 6)) t := by
    intro t k
    refine pre6 t ?_
    show SP p e below (T1.setTop (mkF m 18 #[vJ p0, .second, vR p1, vJ p0, .second, vI (0 : Int32)] [(.int (0 : Int32)), (.ref p1), (.long p0)])) _
    refine st5.trans ?_
    show SP p e below (T5.setTop (mkF m 21 #[vJ p0, .second, vR p1, vJ p0, .second, vI (0 : Int32)] [(.int (f_19L20 cs_ x_)), (.long p0)])) _
    refine XS.i2l X5.here hx rfl (hb hby d16_21) rfl ?_
    show SP p e below (T5.setTop (mkF m 22 #[vJ p0, .second, vR p1, vJ p0, .second, vI (0 : Int32)] [(.long ((f_19L20 cs_ x_).toInt64)), (.long p0)])) _
    refine XS.lxor X5.here hx rfl (hb hby d16_22) rfl ?_
    show SP p e below (T5.setTop (mkF m 23 #[vJ p0, .second, vR p1, vJ p0, .second, vI (0 : Int32)] [(.long (p0 ^^^ ((f_19L20 cs_ x_).toInt64)))])) _
    refine X5.ldc2Long hx hown (mvT hZ (ow hw 107 rfl)) (g := (mkF m 23 #[vJ p0, .second, vR p1, vJ p0, .second, vI (0 : Int32)] [(.long (p0 ^^^ ((f_19L20 cs_ x_).toInt64)))])) rfl (hb hby d16_23) _ ?_
    show SP p e below (T5.setTop (mkF m 26 #[vJ p0, .second, vR p1, vJ p0, .second, vI (0 : Int32)] [(.long (1099511628211 : Int64)), (.long (p0 ^^^ ((f_19L20 cs_ x_).toInt64)))])) _
    refine XS.lmul X5.here hx rfl (hb hby d16_26) rfl ?_
    show SP p e below (T5.setTop (mkF m 27 #[vJ p0, .second, vR p1, vJ p0, .second, vI (0 : Int32)] [(.long ((p0 ^^^ ((f_19L20 cs_ x_).toInt64)) * (1099511628211 : Int64)))])) _
    refine XS.lstoreN X5.here hx rfl (hb hby d16_27) rfl (l' := #[vJ p0, .second, vR p1, vJ v3_27, .second, vI (0 : Int32)]) (by rw [hv3_27]; rfl) ?_
    show SP p e below (T5.setTop (mkF m 28 #[vJ p0, .second, vR p1, vJ v3_27, .second, vI (0 : Int32)] [])) _
    refine XS.iinc X5.here hx rfl (hb hby d16_28) rfl (l' := #[vJ p0, .second, vR p1, vJ v3_27, .second, vI (1 : Int32)]) rfl ?_
    show SP p e below (T5.setTop (mkF m 31 #[vJ p0, .second, vR p1, vJ v3_27, .second, vI (1 : Int32)] [])) _
    refine XS.goto X5.here hx rfl (pc0 := 31) (pc' := 5) rfl (hb hby d16_31) (by decide) (by decide) ?_
    show SP p e below (T5.setTop (mkF m 5 #[vJ p0, .second, vR p1, vJ v3_27, .second, vI (1 : Int32)] [])) _
    refine XS.iload X5.here hx rfl (hb hby d16_5) rfl  ?_
    show SP p e below (T5.setTop (mkF m 7 #[vJ p0, .second, vR p1, vJ v3_27, .second, vI (1 : Int32)] [(.int (1 : Int32))])) _
    refine XS.aloadN X5.here hx rfl (hb hby d16_7) rfl rfl ?_
    exact k
  obtain ⟨cq7, kq7, q7a, q7b, q7c⟩ := isOf hZ e5 E_p1
  obtain ⟨_, _, ⟨T7, L7, k7, n7⟩, -, X7, ⟨Lc7, hQ7, l7, y7, z7⟩, st7⟩ := X5.virtualBack hx (y := (⟨"java/lang/String", "length", "()I"⟩ : MethodName)) (z := (⟨"java/lang/String", "length", "()I"⟩ : MethodName)) hown (mvT hZ (ow hw 76 rfl)) (mvT hZ (ow hw 77 rfl)) (notFace_of_selects (args := #[]) (mvT hZ (ow hw 79 rfl))) (mvT hZ (ow hw 79 rfl)) (mvT hZ (ow hw 78 rfl)) (by decide) (backOf (W := 1) (rm_17L2 l Z a0 hw [] p1 cs_ v_ x_ h0 n0 Z0 S_COMPACT_STRINGS hcs E_p1 F_p1_value F_p1_coder A_v_) hZ (ow hw 80 rfl) (ow hw 7 rfl) (by decide) (by decide)) q7a q7c (g := (mkF m 8 #[vJ p0, .second, vR p1, vJ v3_27, .second, vI (1 : Int32)] [(.ref p1), (.int (1 : Int32))])) rfl (by rw [hml]; rfl) (Steps.refl _) (argsL := []) (rest := [(.int (1 : Int32))]) (lenOf pd_19 rfl) rfl own_le0 (hb hby d16_8) (fun _ _ => ⟨rfl, e5, (by decide : 0 + 0 ≤ _), (by decide : 0 + 0 ≤ _)⟩)
  dsimp only [Pt.U, Pt.locs, Pt.cells, Pt.slots] at X7 l7 y7 z7 st7 hQ7
  rw [l7, y7, z7] at X7
  obtain ⟨rfl, N7q, e7⟩ := hQ7
  have N7 := Fr.app N5 N7q
  have pre9 : ∀ t, SP p e below (T7.setTop (mkF m 11 #[vJ p0, .second, vR p1, vJ v3_27, .second, vI (1 : Int32)] [(.int (f_17L2 cs_ x_)), (.int (1 : Int32))])) t → SP p e below (s₁.setTop (entryFrame m #[(.long p0), (.ref p1)] 6)) t := by
    intro t k
    refine pre8 t ?_
    show SP p e below (T5.setTop (mkF m 8 #[vJ p0, .second, vR p1, vJ v3_27, .second, vI (1 : Int32)] [(.ref p1), (.int (1 : Int32))])) _
    refine st7.trans ?_
    exact k
  have hl10 : (f_17L2 cs_ x_) = (2 : Int32) := rfl
  have preL10 : ∀ t, SP p e below (T7.setTop (mkF m 11 #[vJ p0, .second, vR p1, vJ v3_27, .second, vI (1 : Int32)] [(.int (2 : Int32)), (.int (1 : Int32))])) t → SP p e below (s₁.setTop (entryFrame m #[(.long p0), (.ref p1)] 6)) t := by
    intro t k_
    refine pre9 t ?_
    rw [hl10]
    exact k_
  have pre12 : ∀ t, SP p e below (T7.setTop (mkF m 18 #[vJ p0, .second, vR p1, vJ v3_27, .second, vI (1 : Int32)] [(.int (1 : Int32)), (.ref p1), (.long v3_27)])) t → SP p e below (s₁.setTop (entryFrame m #[(.long p0), (.ref p1)] 6)) t := by
    intro t k
    refine preL10 t ?_
    show SP p e below (T7.setTop (mkF m 11 #[vJ p0, .second, vR p1, vJ v3_27, .second, vI (1 : Int32)] [(.int (2 : Int32)), (.int (1 : Int32))])) _
    refine XS.icmpNo X7.here hx rfl (hb hby d16_11) rfl (tlt (by decide : (1 : Int32) < (2 : Int32))).2.1 ?_
    show SP p e below (T7.setTop (mkF m 14 #[vJ p0, .second, vR p1, vJ v3_27, .second, vI (1 : Int32)] [])) _
    refine XS.lloadN X7.here hx rfl (hb hby d16_14) rfl  ?_
    show SP p e below (T7.setTop (mkF m 15 #[vJ p0, .second, vR p1, vJ v3_27, .second, vI (1 : Int32)] [(.long v3_27)])) _
    refine XS.aloadN X7.here hx rfl (hb hby d16_15) rfl rfl ?_
    show SP p e below (T7.setTop (mkF m 16 #[vJ p0, .second, vR p1, vJ v3_27, .second, vI (1 : Int32)] [(.ref p1), (.long v3_27)])) _
    refine XS.iload X7.here hx rfl (hb hby d16_16) rfl  ?_
    exact k
  obtain ⟨cq11, kq11, q11a, q11b, q11c⟩ := isOf hZ e7 E_p1
  obtain ⟨_, _, ⟨T11, L11, k11, n11⟩, -, X11, ⟨Lc11, hQ11, l11, y11, z11⟩, st11⟩ := X7.virtualBack hx (y := (⟨"java/lang/String", "charAt", "(I)C"⟩ : MethodName)) (z := (⟨"java/lang/String", "charAt", "(I)C"⟩ : MethodName)) hown (mvT hZ (ow hw 86 rfl)) (mvT hZ (ow hw 87 rfl)) (notFace_of_selects (args := #[]) (mvT hZ (ow hw 89 rfl))) (mvT hZ (ow hw 89 rfl)) (mvT hZ (ow hw 88 rfl)) (by decide) (backOf (W := 2) (rm_19L21 l Z a0 hw [] p1 cs_ v_ x_ fm_ h0 n0 Z0 S_COMPACT_STRINGS hcs E_p1 F_p1_value F_p1_coder A_v_ S_SIOOBE_FORMATTER hfm) hZ (ow hw 90 rfl) (ow hw 7 rfl) (by decide) (by decide)) q11a q11c (g := (mkF m 18 #[vJ p0, .second, vR p1, vJ v3_27, .second, vI (1 : Int32)] [(.int (1 : Int32)), (.ref p1), (.long v3_27)])) rfl (by rw [hml]; rfl) (Steps.refl _) (argsL := [(.int (1 : Int32))]) (rest := [(.long v3_27)]) (lenOf pd_21 rfl) rfl own_le0 (hb hby d16_18) (fun _ _ => ⟨rfl, e7, (by decide : 0 + 0 ≤ _), (by decide : 0 + 0 ≤ _)⟩)
  dsimp only [Pt.U, Pt.locs, Pt.cells, Pt.slots] at X11 l11 y11 z11 st11 hQ11
  rw [l11, y11, z11] at X11
  obtain ⟨rfl, N11q, e11⟩ := hQ11
  have N11 := Fr.app N7 N11q
  obtain ⟨v3_27_13, hv3_27_13⟩ : ∃ z : Int64, z = ((v3_27 ^^^ ((f_19L21 cs_ x_).toInt64)) * (1099511628211 : Int64)) := ⟨_, rfl⟩
  have pre15 : ∀ t, SP p e below (T11.setTop (mkF m 8 #[vJ p0, .second, vR p1, vJ v3_27_13, .second, vI (2 : Int32)] [(.ref p1), (.int (2 : Int32))])) t → SP p e below (s₁.setTop (entryFrame m #[(.long p0), (.ref p1)] 6)) t := by
    intro t k
    refine pre12 t ?_
    show SP p e below (T7.setTop (mkF m 18 #[vJ p0, .second, vR p1, vJ v3_27, .second, vI (1 : Int32)] [(.int (1 : Int32)), (.ref p1), (.long v3_27)])) _
    refine st11.trans ?_
    show SP p e below (T11.setTop (mkF m 21 #[vJ p0, .second, vR p1, vJ v3_27, .second, vI (1 : Int32)] [(.int (f_19L21 cs_ x_)), (.long v3_27)])) _
    refine XS.i2l X11.here hx rfl (hb hby d16_21) rfl ?_
    show SP p e below (T11.setTop (mkF m 22 #[vJ p0, .second, vR p1, vJ v3_27, .second, vI (1 : Int32)] [(.long ((f_19L21 cs_ x_).toInt64)), (.long v3_27)])) _
    refine XS.lxor X11.here hx rfl (hb hby d16_22) rfl ?_
    show SP p e below (T11.setTop (mkF m 23 #[vJ p0, .second, vR p1, vJ v3_27, .second, vI (1 : Int32)] [(.long (v3_27 ^^^ ((f_19L21 cs_ x_).toInt64)))])) _
    refine X11.ldc2Long hx hown (mvT hZ (ow hw 107 rfl)) (g := (mkF m 23 #[vJ p0, .second, vR p1, vJ v3_27, .second, vI (1 : Int32)] [(.long (v3_27 ^^^ ((f_19L21 cs_ x_).toInt64)))])) rfl (hb hby d16_23) _ ?_
    show SP p e below (T11.setTop (mkF m 26 #[vJ p0, .second, vR p1, vJ v3_27, .second, vI (1 : Int32)] [(.long (1099511628211 : Int64)), (.long (v3_27 ^^^ ((f_19L21 cs_ x_).toInt64)))])) _
    refine XS.lmul X11.here hx rfl (hb hby d16_26) rfl ?_
    show SP p e below (T11.setTop (mkF m 27 #[vJ p0, .second, vR p1, vJ v3_27, .second, vI (1 : Int32)] [(.long ((v3_27 ^^^ ((f_19L21 cs_ x_).toInt64)) * (1099511628211 : Int64)))])) _
    refine XS.lstoreN X11.here hx rfl (hb hby d16_27) rfl (l' := #[vJ p0, .second, vR p1, vJ v3_27_13, .second, vI (1 : Int32)]) (by rw [hv3_27_13]; rfl) ?_
    show SP p e below (T11.setTop (mkF m 28 #[vJ p0, .second, vR p1, vJ v3_27_13, .second, vI (1 : Int32)] [])) _
    refine XS.iinc X11.here hx rfl (hb hby d16_28) rfl (l' := #[vJ p0, .second, vR p1, vJ v3_27_13, .second, vI (2 : Int32)]) rfl ?_
    show SP p e below (T11.setTop (mkF m 31 #[vJ p0, .second, vR p1, vJ v3_27_13, .second, vI (2 : Int32)] [])) _
    refine XS.goto X11.here hx rfl (pc0 := 31) (pc' := 5) rfl (hb hby d16_31) (by decide) (by decide) ?_
    show SP p e below (T11.setTop (mkF m 5 #[vJ p0, .second, vR p1, vJ v3_27_13, .second, vI (2 : Int32)] [])) _
    refine XS.iload X11.here hx rfl (hb hby d16_5) rfl  ?_
    show SP p e below (T11.setTop (mkF m 7 #[vJ p0, .second, vR p1, vJ v3_27_13, .second, vI (2 : Int32)] [(.int (2 : Int32))])) _
    refine XS.aloadN X11.here hx rfl (hb hby d16_7) rfl rfl ?_
    exact k
  obtain ⟨cq14, kq14, q14a, q14b, q14c⟩ := isOf hZ e11 E_p1
  obtain ⟨_, _, ⟨T14, L14, k14, n14⟩, -, X14, ⟨Lc14, hQ14, l14, y14, z14⟩, st14⟩ := X11.virtualBack hx (y := (⟨"java/lang/String", "length", "()I"⟩ : MethodName)) (z := (⟨"java/lang/String", "length", "()I"⟩ : MethodName)) hown (mvT hZ (ow hw 76 rfl)) (mvT hZ (ow hw 77 rfl)) (notFace_of_selects (args := #[]) (mvT hZ (ow hw 79 rfl))) (mvT hZ (ow hw 79 rfl)) (mvT hZ (ow hw 78 rfl)) (by decide) (backOf (W := 1) (rm_17L2 l Z a0 hw [] p1 cs_ v_ x_ h0 n0 Z0 S_COMPACT_STRINGS hcs E_p1 F_p1_value F_p1_coder A_v_) hZ (ow hw 80 rfl) (ow hw 7 rfl) (by decide) (by decide)) q14a q14c (g := (mkF m 8 #[vJ p0, .second, vR p1, vJ v3_27_13, .second, vI (2 : Int32)] [(.ref p1), (.int (2 : Int32))])) rfl (by rw [hml]; rfl) (Steps.refl _) (argsL := []) (rest := [(.int (2 : Int32))]) (lenOf pd_19 rfl) rfl own_le0 (hb hby d16_8) (fun _ _ => ⟨rfl, e11, (by decide : 0 + 0 ≤ _), (by decide : 0 + 0 ≤ _)⟩)
  dsimp only [Pt.U, Pt.locs, Pt.cells, Pt.slots] at X14 l14 y14 z14 st14 hQ14
  rw [l14, y14, z14] at X14
  obtain ⟨rfl, N14q, e14⟩ := hQ14
  have N14 := Fr.app N11 N14q
  have pre16 : ∀ t, SP p e below (T14.setTop (mkF m 11 #[vJ p0, .second, vR p1, vJ v3_27_13, .second, vI (2 : Int32)] [(.int (f_17L2 cs_ x_)), (.int (2 : Int32))])) t → SP p e below (s₁.setTop (entryFrame m #[(.long p0), (.ref p1)] 6)) t := by
    intro t k
    refine pre15 t ?_
    show SP p e below (T11.setTop (mkF m 8 #[vJ p0, .second, vR p1, vJ v3_27_13, .second, vI (2 : Int32)] [(.ref p1), (.int (2 : Int32))])) _
    refine st14.trans ?_
    exact k
  have hl17 : (f_17L2 cs_ x_) = (2 : Int32) := rfl
  have preL17 : ∀ t, SP p e below (T14.setTop (mkF m 11 #[vJ p0, .second, vR p1, vJ v3_27_13, .second, vI (2 : Int32)] [(.int (2 : Int32)), (.int (2 : Int32))])) t → SP p e below (s₁.setTop (entryFrame m #[(.long p0), (.ref p1)] 6)) t := by
    intro t k_
    refine pre16 t ?_
    rw [hl17]
    exact k_
  obtain ⟨fs, hr, hrun, hended, hW, hsame⟩ := X14.leave (v := some (.long v3_27_13)) (fun h => by rw [Bd.returns] at h; cases h) (BodyLoose.notSynchronized Bd)
  refine ⟨_, _, preL17 _ ?_, hrun, hended, _, _, rfl, ?_, ⟨_, rfl⟩, hW, hsame.mono (by decide) (by decide)⟩
  · show SP p e below (T14.setTop (mkF m 11 #[vJ p0, .second, vR p1, vJ v3_27_13, .second, vI (2 : Int32)] [(.int (2 : Int32)), (.int (2 : Int32))])) _
    refine XS.icmpYes X14.here hx rfl (pc0 := 11) (pc' := 34) rfl (hb hby d16_11) rfl (flt (by decide : ¬ ((2 : Int32) < (2 : Int32)))).2.1 (by decide) (by decide) ?_
    show SP p e below (T14.setTop (mkF m 34 #[vJ p0, .second, vR p1, vJ v3_27_13, .second, vI (2 : Int32)] [])) _
    refine XS.lloadN X14.here hx rfl (hb hby d16_34) rfl  ?_
    show SP p e below (T14.setTop (mkF m 35 #[vJ p0, .second, vR p1, vJ v3_27_13, .second, vI (2 : Int32)] [(.long v3_27_13)])) _
    exact retOut X14 hx Bd.returns rfl (Or.inr (Or.inl ⟨rfl, rfl, _, rfl⟩)) (hb hby d16_35) hr
  · show Q_16L2 Z p0 p1 cs_ v_ x_ fm_ h0 n0 _ T14.heap _
    rw [e14]
    exact ⟨congrArg (fun z => some (Value.long z)) (by subst hv3_27 hv3_27_13; rfl : v3_27_13 = f_16L2 p0 cs_ x_), N14, rfl⟩
theorem ef_18U (m : MethodId) (p0 : Addr) : entryFrame m #[(.ref p0)] 1 = mkF m 0 #[vR p0] [] := by first | (simp [entryFrame, mkF, argsToLocals, Value.category]; done) | rfl
def f_18U (cs_ : Int32) : Int32 := (nar .byte (1 : Int32))
def Q_18U (Z : State) (p0 : Addr) (cs_ : Int32) (h0 : Heap) (n0 : Nat) (v : Option Value) (h : Heap) (L : List Loc) : Prop := v = some (.int (f_18U cs_)) ∧ Fr n0 L ∧ h = h0
theorem rm_18U (l : Launch) (Z : State) (a0 : Array Value) (hw : ∀ d ∈ tables_1, d.before a0 Z = true) (ws : List Jvm.Cond) (p0 : Addr) (cs_ : Int32) (h0 : Heap) (n0 : Nat) (Z0 : n0 ≤ h0.size) (S_COMPACT_STRINGS : Sta Z h0 "java/lang/String" "COMPACT_STRINGS" "Z" (.int cs_)) (hcs : ¬ (cs_ = (0 : Int32))) (F_p0_coder : Fld Z h0 p0 "java/lang/String" "coder" "B" (.int (1 : Int32))) :
    MetFree l (⟨"java/lang/String", "coder", "()B"⟩ : MethodName) (head1 (Jvm.Cond.code (⟨"java/lang/String", "coder", "()B"⟩ : MethodName) jdk_42_method_152_code 1 (some .byte) :: ws) (⟨0, 0, 0, 0⟩ : Room)) (fun a U => a = #[(.ref p0)] ∧ Z.Warmed39 U.vm ∧ U.heap = h0) (fun _ _ _ _ _ => True) (fun _ U o U' => ∃ v L, o = .returned v ∧ Q_18U Z p0 cs_ h0 n0 v U'.heap L ∧ FrameEnd U o U' L 0 0) := by
  refine MetFree.of_bodySF (plainFor_of_name pn_18) hisR ?_
  intro p e s m args below meth c s₁ Bd hml0 hP hK
  obtain ⟨rfl, hZ, hh⟩ := hP
  have hx := Bd.exec
  have hby := Bd.bytes
  have hml : c.maxLocals = 1 := hml0
  have hown : s.vm.findClass "java/lang/String" = some m.cls := findClass_of_methodNamed Bd.named
  have hnm := (name_of_methodNamed Bd.named Bd.method).1
  have X0 : Stand p l e (⟨0, 0, 0, 0⟩ : Room) s m #[(.ref p0)] below meth c s₁ [] 0 0 := Stand.of_body Bd
  have e0 : s₁.heap = h0 := by rw [← hh, Bd.state]; rfl
  have N0 := Fr.nil n0
  have K0 : Keep h0 h0 [] := Keep.refl h0 _
  have pre0 : ∀ t, SP p e below (s₁.setTop (mkF m 0 #[vR p0] [])) t → SP p e below (s₁.setTop (entryFrame m #[(.ref p0)] 1)) t := fun t k => castTop (ef_18U m p0) k
  obtain ⟨T1, X1, e1, st1⟩ := getS2 X0 hx hZ hown (host := "") (Or.inl (ow hw 44 rfl)) Via.refl e0 S_COMPACT_STRINGS (g := (mkF m 0 #[vR p0] [])) rfl (hb hby d18_0)
  have pre2 : ∀ t, SP p e below (T1.setTop (mkF m 7 #[vR p0] [(.ref p0)])) t → SP p e below (s₁.setTop (entryFrame m #[(.ref p0)] 1)) t := by
    intro t k
    refine pre0 t ?_
    show SP p e below (s₁.setTop (mkF m 0 #[vR p0] [])) _
    refine st1 _ ?_
    show SP p e below (T1.setTop (mkF m 3 #[vR p0] [(.int cs_)])) _
    refine XS.ifNo X1.here hx rfl (hb hby d18_3) rfl ((if0 _ _).trans (feq (hcs : ¬ (cs_ = (0 : Int32)))).1) ?_
    show SP p e below (T1.setTop (mkF m 6 #[vR p0] [])) _
    refine XS.aloadN X1.here hx rfl (hb hby d18_6) rfl rfl ?_
    exact k
  obtain ⟨T3, X3, e3, st3⟩ := getF X1 hx hZ hown (host := "") (Or.inl (ow hw 26 rfl)) Via.refl e1 F_p0_coder (g := (mkF m 7 #[vR p0] [(.ref p0)])) rfl rfl (hb hby d18_7)
  obtain ⟨fs, hr, hrun, hended, hW, hsame⟩ := X3.leave (v := some (.int (nar .byte (1 : Int32)))) (fun h => by rw [Bd.returns] at h; cases h) (BodyLoose.notSynchronized Bd)
  refine ⟨_, _, pre2 _ ?_, hrun, hended, _, _, rfl, ?_, ⟨_, rfl⟩, hW, hsame.mono (by decide) (by decide)⟩
  · show SP p e below (T1.setTop (mkF m 7 #[vR p0] [(.ref p0)])) _
    refine st3 _ ?_
    show SP p e below (T3.setTop (mkF m 10 #[vR p0] [(.int (1 : Int32))])) _
    refine XS.goto X3.here hx rfl (pc0 := 10) (pc' := 14) rfl (hb hby d18_10) (by decide) (by decide) ?_
    show SP p e below (T3.setTop (mkF m 14 #[vR p0] [(.int (1 : Int32))])) _
    exact retN X3 hx (t := .byte) Bd.returns (by simp) (hb hby d18_14) hr
  · show Q_18U Z p0 cs_ h0 n0 _ T3.heap _
    rw [e3]
    exact ⟨congrArg (fun z => some (Value.int z)) (by rfl : (nar .byte (1 : Int32)) = f_18U cs_), N0, rfl⟩
theorem d20_17 : decode jdk_42_method_154_code 17 = .ok (.iconst 0, 1) := by decide +kernel
theorem ef_20U (m : MethodId) (p0 : Addr) : entryFrame m #[(.ref p0)] 1 = mkF m 0 #[vR p0] [] := by first | (simp [entryFrame, mkF, argsToLocals, Value.category]; done) | rfl
def f_20U (cs_ : Int32) : Int32 := (0 : Int32)
def Q_20U (Z : State) (p0 : Addr) (cs_ : Int32) (h0 : Heap) (n0 : Nat) (v : Option Value) (h : Heap) (L : List Loc) : Prop := v = some (.int (f_20U cs_)) ∧ Fr n0 L ∧ h = h0
theorem rm_20U (l : Launch) (Z : State) (a0 : Array Value) (hw : ∀ d ∈ tables_1, d.before a0 Z = true) (ws : List Jvm.Cond) (p0 : Addr) (cs_ : Int32) (h0 : Heap) (n0 : Nat) (Z0 : n0 ≤ h0.size) (S_COMPACT_STRINGS : Sta Z h0 "java/lang/String" "COMPACT_STRINGS" "Z" (.int cs_)) (hcs : ¬ (cs_ = (0 : Int32))) (F_p0_coder : Fld Z h0 p0 "java/lang/String" "coder" "B" (.int (1 : Int32))) :
    MetFree l (⟨"java/lang/String", "isLatin1", "()Z"⟩ : MethodName) (head1 (Jvm.Cond.code (⟨"java/lang/String", "isLatin1", "()Z"⟩ : MethodName) jdk_42_method_154_code 1 (some .boolean) :: ws) (⟨0, 0, 0, 0⟩ : Room)) (fun a U => a = #[(.ref p0)] ∧ Z.Warmed39 U.vm ∧ U.heap = h0) (fun _ _ _ _ _ => True) (fun _ U o U' => ∃ v L, o = .returned v ∧ Q_20U Z p0 cs_ h0 n0 v U'.heap L ∧ FrameEnd U o U' L 0 0) := by
  refine MetFree.of_bodySF (plainFor_of_name pn_20) hisR ?_
  intro p e s m args below meth c s₁ Bd hml0 hP hK
  obtain ⟨rfl, hZ, hh⟩ := hP
  have hx := Bd.exec
  have hby := Bd.bytes
  have hml : c.maxLocals = 1 := hml0
  have hown : s.vm.findClass "java/lang/String" = some m.cls := findClass_of_methodNamed Bd.named
  have hnm := (name_of_methodNamed Bd.named Bd.method).1
  have X0 : Stand p l e (⟨0, 0, 0, 0⟩ : Room) s m #[(.ref p0)] below meth c s₁ [] 0 0 := Stand.of_body Bd
  have e0 : s₁.heap = h0 := by rw [← hh, Bd.state]; rfl
  have N0 := Fr.nil n0
  have K0 : Keep h0 h0 [] := Keep.refl h0 _
  have pre0 : ∀ t, SP p e below (s₁.setTop (mkF m 0 #[vR p0] [])) t → SP p e below (s₁.setTop (entryFrame m #[(.ref p0)] 1)) t := fun t k => castTop (ef_20U m p0) k
  obtain ⟨T1, X1, e1, st1⟩ := getS2 X0 hx hZ hown (host := "") (Or.inl (ow hw 44 rfl)) Via.refl e0 S_COMPACT_STRINGS (g := (mkF m 0 #[vR p0] [])) rfl (hb hby d20_0)
  have pre2 : ∀ t, SP p e below (T1.setTop (mkF m 7 #[vR p0] [(.ref p0)])) t → SP p e below (s₁.setTop (entryFrame m #[(.ref p0)] 1)) t := by
    intro t k
    refine pre0 t ?_
    show SP p e below (s₁.setTop (mkF m 0 #[vR p0] [])) _
    refine st1 _ ?_
    show SP p e below (T1.setTop (mkF m 3 #[vR p0] [(.int cs_)])) _
    refine XS.ifNo X1.here hx rfl (hb hby d20_3) rfl ((if0 _ _).trans (feq (hcs : ¬ (cs_ = (0 : Int32)))).1) ?_
    show SP p e below (T1.setTop (mkF m 6 #[vR p0] [])) _
    refine XS.aloadN X1.here hx rfl (hb hby d20_6) rfl rfl ?_
    exact k
  obtain ⟨T3, X3, e3, st3⟩ := getF X1 hx hZ hown (host := "") (Or.inl (ow hw 26 rfl)) Via.refl e1 F_p0_coder (g := (mkF m 7 #[vR p0] [(.ref p0)])) rfl rfl (hb hby d20_7)
  have pre4 : ∀ t, SP p e below (T3.setTop (mkF m 10 #[vR p0] [(.int (1 : Int32))])) t → SP p e below (s₁.setTop (entryFrame m #[(.ref p0)] 1)) t := by
    intro t k
    refine pre2 t ?_
    show SP p e below (T1.setTop (mkF m 7 #[vR p0] [(.ref p0)])) _
    refine st3 _ ?_
    exact k
  have pre5 : ∀ t, SP p e below (T3.setTop (mkF m 18 #[vR p0] [(.int (0 : Int32))])) t → SP p e below (s₁.setTop (entryFrame m #[(.ref p0)] 1)) t := by
    intro t k
    refine pre4 t ?_
    show SP p e below (T3.setTop (mkF m 10 #[vR p0] [(.int (1 : Int32))])) _
    refine XS.ifYes X3.here hx rfl (pc0 := 10) (pc' := 17) rfl (hb hby d20_10) rfl ((if0 _ _).trans (feq (by decide : ¬ ((1 : Int32) = (0 : Int32)))).2) (by decide) (by decide) ?_
    show SP p e below (T3.setTop (mkF m 17 #[vR p0] [])) _
    refine XS.iconst X3.here hx rfl (hb hby d20_17) ?_
    exact k
  obtain ⟨fs, hr, hrun, hended, hW, hsame⟩ := X3.leave (v := some (.int (0 : Int32))) (fun h => by rw [Bd.returns] at h; cases h) (BodyLoose.notSynchronized Bd)
  refine ⟨_, _, pre5 _ ?_, hrun, hended, _, _, rfl, ?_, ⟨_, rfl⟩, hW, hsame.mono (by decide) (by decide)⟩
  · show SP p e below (T3.setTop (mkF m 18 #[vR p0] [(.int (0 : Int32))])) _
    exact retN X3 hx (t := .boolean) Bd.returns (by simp) (hb hby d20_18) hr
  · show Q_20U Z p0 cs_ h0 n0 _ T3.heap _
    rw [e3]
    exact ⟨congrArg (fun z => some (Value.int z)) (by rfl : (0 : Int32) = f_20U cs_), N0, rfl⟩
theorem ef_17U1 (m : MethodId) (p0 : Addr) : entryFrame m #[(.ref p0)] 1 = mkF m 0 #[vR p0] [] := by first | (simp [entryFrame, mkF, argsToLocals, Value.category]; done) | rfl
def f_17U1 (cs_ : Int32) (x_ : Nat → Int32) : Int32 := (1 : Int32)
def Q_17U1 (Z : State) (p0 : Addr) (cs_ : Int32) (v_ : Addr) (x_ : Nat → Int32) (h0 : Heap) (n0 : Nat) (v : Option Value) (h : Heap) (L : List Loc) : Prop := v = some (.int (f_17U1 cs_ x_)) ∧ Fr n0 L ∧ h = h0
theorem rm_17U1 (l : Launch) (Z : State) (a0 : Array Value) (hw : ∀ d ∈ tables_1, d.before a0 Z = true) (ws : List Jvm.Cond) (p0 : Addr) (cs_ : Int32) (v_ : Addr) (x_ : Nat → Int32) (h0 : Heap) (n0 : Nat) (Z0 : n0 ≤ h0.size) (S_COMPACT_STRINGS : Sta Z h0 "java/lang/String" "COMPACT_STRINGS" "Z" (.int cs_)) (hcs : ¬ (cs_ = (0 : Int32))) (E_p0 : Exa Z h0 p0 "java/lang/String") (F_p0_value : Fld Z h0 p0 "java/lang/String" "value" "[B" (.ref v_)) (F_p0_coder : Fld Z h0 p0 "java/lang/String" "coder" "B" (.int (1 : Int32))) (A_v_ : own_A Z h0 v_ .byte 2 (fun i => .int (x_ i))) :
    MetFree l (⟨"java/lang/String", "length", "()I"⟩ : MethodName) (head1 (Jvm.Cond.code (⟨"java/lang/String", "length", "()I"⟩ : MethodName) jdk_42_method_54_code 1 (some .int) :: ws) (⟨1, 0, 0, 13⟩ : Room)) (fun a U => a = #[(.ref p0)] ∧ Z.Warmed39 U.vm ∧ U.heap = h0) (fun _ _ _ _ _ => True) (fun _ U o U' => ∃ v L, o = .returned v ∧ Q_17U1 Z p0 cs_ v_ x_ h0 n0 v U'.heap L ∧ FrameEnd U o U' L 0 0) := by
  refine MetFree.of_bodySF (plainFor_of_name pn_17) hisR ?_
  intro p e s m args below meth c s₁ Bd hml0 hP hK
  obtain ⟨rfl, hZ, hh⟩ := hP
  have hx := Bd.exec
  have hby := Bd.bytes
  have hml : c.maxLocals = 1 := hml0
  have hown : s.vm.findClass "java/lang/String" = some m.cls := findClass_of_methodNamed Bd.named
  have hnm := (name_of_methodNamed Bd.named Bd.method).1
  have X0 : Stand p l e (⟨1, 0, 0, 13⟩ : Room) s m #[(.ref p0)] below meth c s₁ [] 0 0 := Stand.of_body Bd
  have e0 : s₁.heap = h0 := by rw [← hh, Bd.state]; rfl
  have N0 := Fr.nil n0
  have K0 : Keep h0 h0 [] := Keep.refl h0 _
  have pre0 : ∀ t, SP p e below (s₁.setTop (mkF m 0 #[vR p0] [])) t → SP p e below (s₁.setTop (entryFrame m #[(.ref p0)] 1)) t := fun t k => castTop (ef_17U1 m p0) k
  have pre1 : ∀ t, SP p e below (s₁.setTop (mkF m 1 #[vR p0] [(.ref p0)])) t → SP p e below (s₁.setTop (entryFrame m #[(.ref p0)] 1)) t := by
    intro t k
    refine pre0 t ?_
    show SP p e below (s₁.setTop (mkF m 0 #[vR p0] [])) _
    refine XS.aloadN X0.here hx rfl (hb hby d17_0) rfl rfl ?_
    exact k
  obtain ⟨T2, X2, e2, st2⟩ := getF X0 hx hZ hown (host := "") (Or.inl (ow hw 25 rfl)) Via.refl e0 F_p0_value (g := (mkF m 1 #[vR p0] [(.ref p0)])) rfl rfl (hb hby d17_1)
  have pre4 : ∀ t, SP p e below (T2.setTop (mkF m 6 #[vR p0] [(.ref p0), (.int (2 : Int32))])) t → SP p e below (s₁.setTop (entryFrame m #[(.ref p0)] 1)) t := by
    intro t k
    refine pre1 t ?_
    show SP p e below (s₁.setTop (mkF m 1 #[vR p0] [(.ref p0)])) _
    refine st2 _ ?_
    show SP p e below (T2.setTop (mkF m 4 #[vR p0] [(.ref v_)])) _
    refine own_len X2 hx hZ e2 A_v_ (z := (2 : Int32)) rfl (g := (mkF m 4 #[vR p0] [(.ref v_)])) rfl rfl (hb hby d17_4) ?_
    show SP p e below (T2.setTop (mkF m 5 #[vR p0] [(.int (2 : Int32))])) _
    refine XS.aloadN X2.here hx rfl (hb hby d17_5) rfl rfl ?_
    exact k
  obtain ⟨cq3, kq3, q3a, q3b, q3c⟩ := isOf hZ e2 E_p0
  obtain ⟨_, _, ⟨T3, L3, k3, n3⟩, -, X3, ⟨Lc3, hQ3, l3, y3, z3⟩, st3⟩ := X2.virtualBack hx (y := (⟨"java/lang/String", "coder", "()B"⟩ : MethodName)) (z := (⟨"java/lang/String", "coder", "()B"⟩ : MethodName)) hown (mvT hZ (ow hw 81 rfl)) (mvT hZ (ow hw 82 rfl)) (notFace_of_selects (args := #[]) (mvT hZ (ow hw 84 rfl))) (mvT hZ (ow hw 84 rfl)) (mvT hZ (ow hw 83 rfl)) (by decide) (backOf (W := 1) (rm_18U l Z a0 hw [] p0 cs_ h0 n0 Z0 S_COMPACT_STRINGS hcs F_p0_coder) hZ (ow hw 85 rfl) (ow hw 7 rfl) (by decide) (by decide)) q3a q3c (g := (mkF m 6 #[vR p0] [(.ref p0), (.int (2 : Int32))])) rfl (by rw [hml]; rfl) (Steps.refl _) (argsL := []) (rest := [(.int (2 : Int32))]) (lenOf pd_18 rfl) rfl own_le0 (hb hby d17_6) (fun _ _ => ⟨rfl, e2, (by decide : 0 + 0 ≤ _), (by decide : 0 + 0 ≤ _)⟩)
  dsimp only [Pt.U, Pt.locs, Pt.cells, Pt.slots] at X3 l3 y3 z3 st3 hQ3
  rw [l3, y3, z3] at X3
  obtain ⟨rfl, N3q, e3⟩ := hQ3
  have N3 := Fr.app N0 N3q
  have pre5 : ∀ t, SP p e below (T3.setTop (mkF m 10 #[vR p0] [(.int ((2 : Int32) >>> ((f_18U cs_) &&& 31)))])) t → SP p e below (s₁.setTop (entryFrame m #[(.ref p0)] 1)) t := by
    intro t k
    refine pre4 t ?_
    show SP p e below (T2.setTop (mkF m 6 #[vR p0] [(.ref p0), (.int (2 : Int32))])) _
    refine st3.trans ?_
    show SP p e below (T3.setTop (mkF m 9 #[vR p0] [(.int (f_18U cs_)), (.int (2 : Int32))])) _
    refine XS.ishr X3.here hx rfl (hb hby d17_9) rfl ?_
    exact k
  have hl6 : ((2 : Int32) >>> ((f_18U cs_) &&& 31)) = (1 : Int32) := (by rw [show f_18U cs_ = (1 : Int32) from rfl]; decide)
  have preL6 : ∀ t, SP p e below (T3.setTop (mkF m 10 #[vR p0] [(.int (1 : Int32))])) t → SP p e below (s₁.setTop (entryFrame m #[(.ref p0)] 1)) t := by
    intro t k_
    refine pre5 t ?_
    rw [hl6]
    exact k_
  obtain ⟨fs, hr, hrun, hended, hW, hsame⟩ := X3.leave (v := some (.int (1 : Int32))) (fun h => by rw [Bd.returns] at h; cases h) (BodyLoose.notSynchronized Bd)
  refine ⟨_, _, preL6 _ ?_, hrun, hended, _, _, rfl, ?_, ⟨_, rfl⟩, hW, hsame.mono (by decide) (by decide)⟩
  · show SP p e below (T3.setTop (mkF m 10 #[vR p0] [(.int (1 : Int32))])) _
    exact retI X3 hx Bd.returns (hb hby d17_10) hr
  · show Q_17U1 Z p0 cs_ v_ x_ h0 n0 _ T3.heap _
    rw [e3]
    exact ⟨congrArg (fun z => some (Value.int z)) (by rfl : (1 : Int32) = f_17U1 cs_ x_), N3, rfl⟩
theorem d19_16 : decode jdk_42_method_56_code 16 = .ok (.aload_n 0, 1) := by decide +kernel
theorem d19_17 : decode jdk_42_method_56_code 17 = .ok (.getfield 9, 3) := by decide +kernel
theorem d19_20 : decode jdk_42_method_56_code 20 = .ok (.iload_n 1, 1) := by decide +kernel
theorem d19_21 : decode jdk_42_method_56_code 21 = .ok (.invokestatic 498, 3) := by decide +kernel
theorem d19_24 : decode jdk_42_method_56_code 24 = .ok (.ireturn, 1) := by decide +kernel
theorem ef_19U10 (m : MethodId) (p0 : Addr) : entryFrame m #[(.ref p0), (.int (0 : Int32))] 2 = mkF m 0 #[vR p0, vI (0 : Int32)] [] := by first | (simp [entryFrame, mkF, argsToLocals, Value.category]; done) | rfl
def f_19U10 (cs_ : Int32) (x_ : Nat → Int32) : Int32 := (nar .char (f_30a x_))
def Q_19U10 (Z : State) (p0 : Addr) (cs_ : Int32) (v_ : Addr) (x_ : Nat → Int32) (fm_ : Value) (h0 : Heap) (n0 : Nat) (v : Option Value) (h : Heap) (L : List Loc) : Prop := v = some (.int (f_19U10 cs_ x_)) ∧ Fr n0 L ∧ h = h0
theorem rm_19U10 (l : Launch) (Z : State) (a0 : Array Value) (hw : ∀ d ∈ tables_1, d.before a0 Z = true) (ws : List Jvm.Cond) (p0 : Addr) (cs_ : Int32) (v_ : Addr) (x_ : Nat → Int32) (fm_ : Value) (h0 : Heap) (n0 : Nat) (Z0 : n0 ≤ h0.size) (S_COMPACT_STRINGS : Sta Z h0 "java/lang/String" "COMPACT_STRINGS" "Z" (.int cs_)) (hcs : ¬ (cs_ = (0 : Int32))) (E_p0 : Exa Z h0 p0 "java/lang/String") (F_p0_value : Fld Z h0 p0 "java/lang/String" "value" "[B" (.ref v_)) (F_p0_coder : Fld Z h0 p0 "java/lang/String" "coder" "B" (.int (1 : Int32))) (A_v_ : own_A Z h0 v_ .byte 2 (fun i => .int (x_ i))) (S_SIOOBE_FORMATTER : Sta Z h0 "jdk/internal/util/Preconditions" "SIOOBE_FORMATTER" "Ljava/util/function/BiFunction;" fm_) (hfm : fm_ = Value.null ∨ ∃ a, fm_ = Value.ref a) (S__assertionsDisabled : Sta Z h0 "java/lang/StringUTF16" "$assertionsDisabled" "Z" (.int (1 : Int32))) (S_HI_BYTE_SHIFT : Sta Z h0 "java/lang/StringUTF16" "HI_BYTE_SHIFT" "I" (.int (0 : Int32))) (S_LO_BYTE_SHIFT : Sta Z h0 "java/lang/StringUTF16" "LO_BYTE_SHIFT" "I" (.int (8 : Int32))) :
    MetFree l (⟨"java/lang/String", "charAt", "(I)C"⟩ : MethodName) (head1 (Jvm.Cond.code (⟨"java/lang/String", "charAt", "(I)C"⟩ : MethodName) jdk_42_method_56_code 2 (some .char) :: ws) (⟨4, 0, 0, 53⟩ : Room)) (fun a U => a = #[(.ref p0), (.int (0 : Int32))] ∧ Z.Warmed39 U.vm ∧ U.heap = h0) (fun _ _ _ _ _ => True) (fun _ U o U' => ∃ v L, o = .returned v ∧ Q_19U10 Z p0 cs_ v_ x_ fm_ h0 n0 v U'.heap L ∧ FrameEnd U o U' L 0 0) := by
  refine MetFree.of_bodySF (plainFor_of_name pn_19) hisR ?_
  intro p e s m args below meth c s₁ Bd hml0 hP hK
  obtain ⟨rfl, hZ, hh⟩ := hP
  have hx := Bd.exec
  have hby := Bd.bytes
  have hml : c.maxLocals = 2 := hml0
  have hown : s.vm.findClass "java/lang/String" = some m.cls := findClass_of_methodNamed Bd.named
  have hnm := (name_of_methodNamed Bd.named Bd.method).1
  have X0 : Stand p l e (⟨4, 0, 0, 53⟩ : Room) s m #[(.ref p0), (.int (0 : Int32))] below meth c s₁ [] 0 0 := Stand.of_body Bd
  have e0 : s₁.heap = h0 := by rw [← hh, Bd.state]; rfl
  have N0 := Fr.nil n0
  have K0 : Keep h0 h0 [] := Keep.refl h0 _
  have pre0 : ∀ t, SP p e below (s₁.setTop (mkF m 0 #[vR p0, vI (0 : Int32)] [])) t → SP p e below (s₁.setTop (entryFrame m #[(.ref p0), (.int (0 : Int32))] 2)) t := fun t k => castTop (ef_19U10 m p0) k
  have pre2 : ∀ t, SP p e below (s₁.setTop (mkF m 1 #[vR p0, vI (0 : Int32)] [(.ref p0)])) t → SP p e below (s₁.setTop (entryFrame m #[(.ref p0), (.int (0 : Int32))] 2)) t := by
    intro t k
    refine pre0 t ?_
    show SP p e below (s₁.setTop (mkF m 0 #[vR p0, vI (0 : Int32)] [])) _
    refine XS.aloadN X0.here hx rfl (hb hby d19_0) rfl rfl ?_
    exact k
  obtain ⟨cq1, kq1, q1a, q1b, q1c⟩ := isOf hZ e0 E_p0
  obtain ⟨_, _, ⟨T1, L1, k1, n1⟩, -, X1, ⟨Lc1, hQ1, l1, y1, z1⟩, st1⟩ := X0.virtualBack hx (y := (⟨"java/lang/String", "isLatin1", "()Z"⟩ : MethodName)) (z := (⟨"java/lang/String", "isLatin1", "()Z"⟩ : MethodName)) hown (mvT hZ (ow hw 91 rfl)) (mvT hZ (ow hw 92 rfl)) (notFace_of_selects (args := #[]) (mvT hZ (ow hw 94 rfl))) (mvT hZ (ow hw 94 rfl)) (mvT hZ (ow hw 93 rfl)) (by decide) (backOf (W := 0) (rm_20U l Z a0 hw [] p0 cs_ h0 n0 Z0 S_COMPACT_STRINGS hcs F_p0_coder) hZ (ow hw 95 rfl) (ow hw 7 rfl) (by decide) (by decide)) q1a q1c (g := (mkF m 1 #[vR p0, vI (0 : Int32)] [(.ref p0)])) rfl (by rw [hml]; rfl) (Steps.refl _) (argsL := []) (rest := []) (lenOf pd_20 rfl) rfl own_le0 (hb hby d19_1) (fun _ _ => ⟨rfl, e0, (by decide : 0 + 0 ≤ _), (by decide : 0 + 0 ≤ _)⟩)
  dsimp only [Pt.U, Pt.locs, Pt.cells, Pt.slots] at X1 l1 y1 z1 st1 hQ1
  rw [l1, y1, z1] at X1
  obtain ⟨rfl, N1q, e1⟩ := hQ1
  have N1 := Fr.app N0 N1q
  have pre3 : ∀ t, SP p e below (T1.setTop (mkF m 17 #[vR p0, vI (0 : Int32)] [(.ref p0)])) t → SP p e below (s₁.setTop (entryFrame m #[(.ref p0), (.int (0 : Int32))] 2)) t := by
    intro t k
    refine pre2 t ?_
    show SP p e below (s₁.setTop (mkF m 1 #[vR p0, vI (0 : Int32)] [(.ref p0)])) _
    refine st1.trans ?_
    show SP p e below (T1.setTop (mkF m 4 #[vR p0, vI (0 : Int32)] [(.int (f_20U cs_))])) _
    refine XS.ifYes X1.here hx rfl (pc0 := 4) (pc' := 16) rfl (hb hby d19_4) rfl ((if0 _ _).trans (teq (rfl : (f_20U cs_) = (0 : Int32))).1) (by decide) (by decide) ?_
    show SP p e below (T1.setTop (mkF m 16 #[vR p0, vI (0 : Int32)] [])) _
    refine XS.aloadN X1.here hx rfl (hb hby d19_16) rfl rfl ?_
    exact k
  obtain ⟨T4, X4, e4, st4⟩ := getF X1 hx hZ hown (host := "") (Or.inl (ow hw 25 rfl)) Via.refl e1 F_p0_value (g := (mkF m 17 #[vR p0, vI (0 : Int32)] [(.ref p0)])) rfl rfl (hb hby d19_17)
  have pre6 : ∀ t, SP p e below (T4.setTop (mkF m 21 #[vR p0, vI (0 : Int32)] [(.int (0 : Int32)), (.ref v_)])) t → SP p e below (s₁.setTop (entryFrame m #[(.ref p0), (.int (0 : Int32))] 2)) t := by
    intro t k
    refine pre3 t ?_
    show SP p e below (T1.setTop (mkF m 17 #[vR p0, vI (0 : Int32)] [(.ref p0)])) _
    refine st4 _ ?_
    show SP p e below (T4.setTop (mkF m 20 #[vR p0, vI (0 : Int32)] [(.ref v_)])) _
    refine XS.iloadN X4.here hx rfl (hb hby d19_20) rfl  ?_
    exact k
  obtain ⟨_, _, ⟨T5, L5, k5, n5⟩, -, X5, ⟨Lc5, hQ5, l5, y5, z5⟩, st5⟩ := Jvm.LawKit.callS X4 hx (y := (⟨"java/lang/StringUTF16", "charAt", "([BI)C"⟩ : MethodName)) hown (mvT hZ (ow hw 131 rfl)) (mvT hZ (ow hw 132 rfl)) (mvT hZ (ow hw 58 rfl)) (mvT hZ (ow hw 133 rfl)) (by decide) (backOf (W := 0) (rm_30a l Z a0 hw [] v_ x_ fm_ h0 n0 Z0 A_v_ S__assertionsDisabled S_HI_BYTE_SHIFT S_LO_BYTE_SHIFT S_SIOOBE_FORMATTER hfm) hZ (ow hw 133 rfl) (ow hw 58 rfl) (by decide) (by decide)) (g := (mkF m 21 #[vR p0, vI (0 : Int32)] [(.int (0 : Int32)), (.ref v_)])) rfl (by rw [hml]; rfl) (argsL := [(.ref v_), (.int (0 : Int32))]) (rest := []) (lenOf pd_5 rfl) rfl own_le0 (hb hby d19_21) (fun _ _ => ⟨rfl, e4, (by decide : 0 + 0 ≤ _), (by decide : 0 + 0 ≤ _)⟩)
  dsimp only [Pt.U, Pt.locs, Pt.cells, Pt.slots] at X5 l5 y5 z5 st5 hQ5
  rw [l5, y5, z5] at X5
  obtain ⟨rfl, N5q, e5⟩ := hQ5
  have N5 := Fr.app N1 N5q
  obtain ⟨fs, hr, hrun, hended, hW, hsame⟩ := X5.leave (v := some (.int (nar .char (f_30a x_)))) (fun h => by rw [Bd.returns] at h; cases h) (BodyLoose.notSynchronized Bd)
  refine ⟨_, _, pre6 _ ?_, hrun, hended, _, _, rfl, ?_, ⟨_, rfl⟩, hW, hsame.mono (by decide) (by decide)⟩
  · show SP p e below (T4.setTop (mkF m 21 #[vR p0, vI (0 : Int32)] [(.int (0 : Int32)), (.ref v_)])) _
    refine st5 _ ?_
    show SP p e below (T5.setTop (mkF m 24 #[vR p0, vI (0 : Int32)] [(.int (f_30a x_))])) _
    exact retN X5 hx (t := .char) Bd.returns (by simp) (hb hby d19_24) hr
  · show Q_19U10 Z p0 cs_ v_ x_ fm_ h0 n0 _ T5.heap _
    rw [e5]
    exact ⟨congrArg (fun z => some (Value.int z)) (by rfl : (nar .char (f_30a x_)) = f_19U10 cs_ x_), N5, rfl⟩
theorem ef_16U1 (m : MethodId) (p0 : Int64) (p1 : Addr) : entryFrame m #[(.long p0), (.ref p1)] 6 = mkF m 0 #[vJ p0, .second, vR p1, .unset, .unset, .unset] [] := by first | (simp [entryFrame, mkF, argsToLocals, Value.category]; done) | rfl
def f_16U1 (p0 : Int64) (cs_ : Int32) (x_ : Nat → Int32) : Int64 := let v3_27 : Int64 := ((p0 ^^^ ((f_19U10 cs_ x_).toInt64)) * (1099511628211 : Int64)); v3_27
def Q_16U1 (Z : State) (p0 : Int64) (p1 : Addr) (cs_ : Int32) (v_ : Addr) (x_ : Nat → Int32) (fm_ : Value) (h0 : Heap) (n0 : Nat) (v : Option Value) (h : Heap) (L : List Loc) : Prop := v = some (.long (f_16U1 p0 cs_ x_)) ∧ Fr n0 L ∧ h = h0
theorem rm_16U1 (l : Launch) (Z : State) (a0 : Array Value) (hw : ∀ d ∈ tables_1, d.before a0 Z = true) (ws : List Jvm.Cond) (p0 : Int64) (p1 : Addr) (cs_ : Int32) (v_ : Addr) (x_ : Nat → Int32) (fm_ : Value) (h0 : Heap) (n0 : Nat) (Z0 : n0 ≤ h0.size) (S_COMPACT_STRINGS : Sta Z h0 "java/lang/String" "COMPACT_STRINGS" "Z" (.int cs_)) (hcs : ¬ (cs_ = (0 : Int32))) (E_p1 : Exa Z h0 p1 "java/lang/String") (F_p1_value : Fld Z h0 p1 "java/lang/String" "value" "[B" (.ref v_)) (F_p1_coder : Fld Z h0 p1 "java/lang/String" "coder" "B" (.int (1 : Int32))) (A_v_ : own_A Z h0 v_ .byte 2 (fun i => .int (x_ i))) (S_SIOOBE_FORMATTER : Sta Z h0 "jdk/internal/util/Preconditions" "SIOOBE_FORMATTER" "Ljava/util/function/BiFunction;" fm_) (hfm : fm_ = Value.null ∨ ∃ a, fm_ = Value.ref a) (S__assertionsDisabled : Sta Z h0 "java/lang/StringUTF16" "$assertionsDisabled" "Z" (.int (1 : Int32))) (S_HI_BYTE_SHIFT : Sta Z h0 "java/lang/StringUTF16" "HI_BYTE_SHIFT" "I" (.int (0 : Int32))) (S_LO_BYTE_SHIFT : Sta Z h0 "java/lang/StringUTF16" "LO_BYTE_SHIFT" "I" (.int (8 : Int32))) :
    MetFree l (⟨"com/example/tern/tern/store/HashIndex", "hash", "(JLjava/lang/String;)J"⟩ : MethodName) (head1 (Jvm.Cond.code (⟨"com/example/tern/tern/store/HashIndex", "hash", "(JLjava/lang/String;)J"⟩ : MethodName) prog_23_method_7_code 6 (some .long) :: ws) (⟨5, 0, 0, 68⟩ : Room)) (fun a U => a = #[(.long p0), (.ref p1)] ∧ Z.Warmed39 U.vm ∧ U.heap = h0) (fun _ _ _ _ _ => True) (fun _ U o U' => ∃ v L, o = .returned v ∧ Q_16U1 Z p0 p1 cs_ v_ x_ fm_ h0 n0 v U'.heap L ∧ FrameEnd U o U' L 0 0) := by
  refine MetFree.of_bodySF (plainFor_of_name pn_16) hisR ?_
  intro p e s m args below meth c s₁ Bd hml0 hP hK
  obtain ⟨rfl, hZ, hh⟩ := hP
  have hx := Bd.exec
  have hby := Bd.bytes
  have hml : c.maxLocals = 6 := hml0
  have hown : s.vm.findClass "com/example/tern/tern/store/HashIndex" = some m.cls := findClass_of_methodNamed Bd.named
  have hnm := (name_of_methodNamed Bd.named Bd.method).1
  have X0 : Stand p l e (⟨5, 0, 0, 68⟩ : Room) s m #[(.long p0), (.ref p1)] below meth c s₁ [] 0 0 := Stand.of_body Bd
  have e0 : s₁.heap = h0 := by rw [← hh, Bd.state]; rfl
  have N0 := Fr.nil n0
  have K0 : Keep h0 h0 [] := Keep.refl h0 _
  have pre0 : ∀ t, SP p e below (s₁.setTop (mkF m 0 #[vJ p0, .second, vR p1, .unset, .unset, .unset] [])) t → SP p e below (s₁.setTop (entryFrame m #[(.long p0), (.ref p1)] 6)) t := fun t k => castTop (ef_16U1 m p0 p1) k
  have pre2 : ∀ t, SP p e below (s₁.setTop (mkF m 8 #[vJ p0, .second, vR p1, vJ p0, .second, vI (0 : Int32)] [(.ref p1), (.int (0 : Int32))])) t → SP p e below (s₁.setTop (entryFrame m #[(.long p0), (.ref p1)] 6)) t := by
    intro t k
    refine pre0 t ?_
    show SP p e below (s₁.setTop (mkF m 0 #[vJ p0, .second, vR p1, .unset, .unset, .unset] [])) _
    refine XS.lloadN X0.here hx rfl (hb hby d16_0) rfl  ?_
    show SP p e below (s₁.setTop (mkF m 1 #[vJ p0, .second, vR p1, .unset, .unset, .unset] [(.long p0)])) _
    refine XS.lstoreN X0.here hx rfl (hb hby d16_1) rfl (l' := #[vJ p0, .second, vR p1, vJ p0, .second, .unset]) rfl ?_
    show SP p e below (s₁.setTop (mkF m 2 #[vJ p0, .second, vR p1, vJ p0, .second, .unset] [])) _
    refine XS.iconst X0.here hx rfl (hb hby d16_2) ?_
    show SP p e below (s₁.setTop (mkF m 3 #[vJ p0, .second, vR p1, vJ p0, .second, .unset] [(.int (0 : Int32))])) _
    refine XS.istore X0.here hx rfl (hb hby d16_3) rfl (l' := #[vJ p0, .second, vR p1, vJ p0, .second, vI (0 : Int32)]) rfl ?_
    show SP p e below (s₁.setTop (mkF m 5 #[vJ p0, .second, vR p1, vJ p0, .second, vI (0 : Int32)] [])) _
    refine XS.iload X0.here hx rfl (hb hby d16_5) rfl  ?_
    show SP p e below (s₁.setTop (mkF m 7 #[vJ p0, .second, vR p1, vJ p0, .second, vI (0 : Int32)] [(.int (0 : Int32))])) _
    refine XS.aloadN X0.here hx rfl (hb hby d16_7) rfl rfl ?_
    exact k
  obtain ⟨cq1, kq1, q1a, q1b, q1c⟩ := isOf hZ e0 E_p1
  obtain ⟨_, _, ⟨T1, L1, k1, n1⟩, -, X1, ⟨Lc1, hQ1, l1, y1, z1⟩, st1⟩ := X0.virtualBack hx (y := (⟨"java/lang/String", "length", "()I"⟩ : MethodName)) (z := (⟨"java/lang/String", "length", "()I"⟩ : MethodName)) hown (mvT hZ (ow hw 76 rfl)) (mvT hZ (ow hw 77 rfl)) (notFace_of_selects (args := #[]) (mvT hZ (ow hw 79 rfl))) (mvT hZ (ow hw 79 rfl)) (mvT hZ (ow hw 78 rfl)) (by decide) (backOf (W := 1) (rm_17U1 l Z a0 hw [] p1 cs_ v_ x_ h0 n0 Z0 S_COMPACT_STRINGS hcs E_p1 F_p1_value F_p1_coder A_v_) hZ (ow hw 80 rfl) (ow hw 7 rfl) (by decide) (by decide)) q1a q1c (g := (mkF m 8 #[vJ p0, .second, vR p1, vJ p0, .second, vI (0 : Int32)] [(.ref p1), (.int (0 : Int32))])) rfl (by rw [hml]; rfl) (Steps.refl _) (argsL := []) (rest := [(.int (0 : Int32))]) (lenOf pd_19 rfl) rfl own_le0 (hb hby d16_8) (fun _ _ => ⟨rfl, e0, (by decide : 0 + 0 ≤ _), (by decide : 0 + 0 ≤ _)⟩)
  dsimp only [Pt.U, Pt.locs, Pt.cells, Pt.slots] at X1 l1 y1 z1 st1 hQ1
  rw [l1, y1, z1] at X1
  obtain ⟨rfl, N1q, e1⟩ := hQ1
  have N1 := Fr.app N0 N1q
  have pre3 : ∀ t, SP p e below (T1.setTop (mkF m 11 #[vJ p0, .second, vR p1, vJ p0, .second, vI (0 : Int32)] [(.int (f_17U1 cs_ x_)), (.int (0 : Int32))])) t → SP p e below (s₁.setTop (entryFrame m #[(.long p0), (.ref p1)] 6)) t := by
    intro t k
    refine pre2 t ?_
    show SP p e below (s₁.setTop (mkF m 8 #[vJ p0, .second, vR p1, vJ p0, .second, vI (0 : Int32)] [(.ref p1), (.int (0 : Int32))])) _
    refine st1.trans ?_
    exact k
  have hl4 : (f_17U1 cs_ x_) = (1 : Int32) := rfl
  have preL4 : ∀ t, SP p e below (T1.setTop (mkF m 11 #[vJ p0, .second, vR p1, vJ p0, .second, vI (0 : Int32)] [(.int (1 : Int32)), (.int (0 : Int32))])) t → SP p e below (s₁.setTop (entryFrame m #[(.long p0), (.ref p1)] 6)) t := by
    intro t k_
    refine pre3 t ?_
    rw [hl4]
    exact k_
  have pre6 : ∀ t, SP p e below (T1.setTop (mkF m 18 #[vJ p0, .second, vR p1, vJ p0, .second, vI (0 : Int32)] [(.int (0 : Int32)), (.ref p1), (.long p0)])) t → SP p e below (s₁.setTop (entryFrame m #[(.long p0), (.ref p1)] 6)) t := by
    intro t k
    refine preL4 t ?_
    show SP p e below (T1.setTop (mkF m 11 #[vJ p0, .second, vR p1, vJ p0, .second, vI (0 : Int32)] [(.int (1 : Int32)), (.int (0 : Int32))])) _
    refine XS.icmpNo X1.here hx rfl (hb hby d16_11) rfl (tlt (by decide : (0 : Int32) < (1 : Int32))).2.1 ?_
    show SP p e below (T1.setTop (mkF m 14 #[vJ p0, .second, vR p1, vJ p0, .second, vI (0 : Int32)] [])) _
    refine XS.lloadN X1.here hx rfl (hb hby d16_14) rfl  ?_
    show SP p e below (T1.setTop (mkF m 15 #[vJ p0, .second, vR p1, vJ p0, .second, vI (0 : Int32)] [(.long p0)])) _
    refine XS.aloadN X1.here hx rfl (hb hby d16_15) rfl rfl ?_
    show SP p e below (T1.setTop (mkF m 16 #[vJ p0, .second, vR p1, vJ p0, .second, vI (0 : Int32)] [(.ref p1), (.long p0)])) _
    refine XS.iload X1.here hx rfl (hb hby d16_16) rfl  ?_
    exact k
  obtain ⟨cq5, kq5, q5a, q5b, q5c⟩ := isOf hZ e1 E_p1
  obtain ⟨_, _, ⟨T5, L5, k5, n5⟩, -, X5, ⟨Lc5, hQ5, l5, y5, z5⟩, st5⟩ := X1.virtualBack hx (y := (⟨"java/lang/String", "charAt", "(I)C"⟩ : MethodName)) (z := (⟨"java/lang/String", "charAt", "(I)C"⟩ : MethodName)) hown (mvT hZ (ow hw 86 rfl)) (mvT hZ (ow hw 87 rfl)) (notFace_of_selects (args := #[]) (mvT hZ (ow hw 89 rfl))) (mvT hZ (ow hw 89 rfl)) (mvT hZ (ow hw 88 rfl)) (by decide) (backOf (W := 2) (rm_19U10 l Z a0 hw [] p1 cs_ v_ x_ fm_ h0 n0 Z0 S_COMPACT_STRINGS hcs E_p1 F_p1_value F_p1_coder A_v_ S_SIOOBE_FORMATTER hfm S__assertionsDisabled S_HI_BYTE_SHIFT S_LO_BYTE_SHIFT) hZ (ow hw 90 rfl) (ow hw 7 rfl) (by decide) (by decide)) q5a q5c (g := (mkF m 18 #[vJ p0, .second, vR p1, vJ p0, .second, vI (0 : Int32)] [(.int (0 : Int32)), (.ref p1), (.long p0)])) rfl (by rw [hml]; rfl) (Steps.refl _) (argsL := [(.int (0 : Int32))]) (rest := [(.long p0)]) (lenOf pd_21 rfl) rfl own_le0 (hb hby d16_18) (fun _ _ => ⟨rfl, e1, (by decide : 0 + 0 ≤ _), (by decide : 0 + 0 ≤ _)⟩)
  dsimp only [Pt.U, Pt.locs, Pt.cells, Pt.slots] at X5 l5 y5 z5 st5 hQ5
  rw [l5, y5, z5] at X5
  obtain ⟨rfl, N5q, e5⟩ := hQ5
  have N5 := Fr.app N1 N5q
  obtain ⟨v3_27, hv3_27⟩ : ∃ z : Int64, z = ((p0 ^^^ ((f_19U10 cs_ x_).toInt64)) * (1099511628211 : Int64)) := ⟨_, rfl⟩
  have pre8 : ∀ t, SP p e below (T5.setTop (mkF m 8 #[vJ p0, .second, vR p1, vJ v3_27, .second, vI (1 : Int32)] [(.ref p1), (.int (1 : Int32))])) t → SP p e below (s₁.setTop (entryFrame m #[(.long p0), (.ref p1)] 6)) t := by
    intro t k
    refine pre6 t ?_
    show SP p e below (T1.setTop (mkF m 18 #[vJ p0, .second, vR p1, vJ p0, .second, vI (0 : Int32)] [(.int (0 : Int32)), (.ref p1), (.long p0)])) _
    refine st5.trans ?_
    show SP p e below (T5.setTop (mkF m 21 #[vJ p0, .second, vR p1, vJ p0, .second, vI (0 : Int32)] [(.int (f_19U10 cs_ x_)), (.long p0)])) _
    refine XS.i2l X5.here hx rfl (hb hby d16_21) rfl ?_
    show SP p e below (T5.setTop (mkF m 22 #[vJ p0, .second, vR p1, vJ p0, .second, vI (0 : Int32)] [(.long ((f_19U10 cs_ x_).toInt64)), (.long p0)])) _
    refine XS.lxor X5.here hx rfl (hb hby d16_22) rfl ?_
    show SP p e below (T5.setTop (mkF m 23 #[vJ p0, .second, vR p1, vJ p0, .second, vI (0 : Int32)] [(.long (p0 ^^^ ((f_19U10 cs_ x_).toInt64)))])) _
    refine X5.ldc2Long hx hown (mvT hZ (ow hw 107 rfl)) (g := (mkF m 23 #[vJ p0, .second, vR p1, vJ p0, .second, vI (0 : Int32)] [(.long (p0 ^^^ ((f_19U10 cs_ x_).toInt64)))])) rfl (hb hby d16_23) _ ?_
    show SP p e below (T5.setTop (mkF m 26 #[vJ p0, .second, vR p1, vJ p0, .second, vI (0 : Int32)] [(.long (1099511628211 : Int64)), (.long (p0 ^^^ ((f_19U10 cs_ x_).toInt64)))])) _
    refine XS.lmul X5.here hx rfl (hb hby d16_26) rfl ?_
    show SP p e below (T5.setTop (mkF m 27 #[vJ p0, .second, vR p1, vJ p0, .second, vI (0 : Int32)] [(.long ((p0 ^^^ ((f_19U10 cs_ x_).toInt64)) * (1099511628211 : Int64)))])) _
    refine XS.lstoreN X5.here hx rfl (hb hby d16_27) rfl (l' := #[vJ p0, .second, vR p1, vJ v3_27, .second, vI (0 : Int32)]) (by rw [hv3_27]; rfl) ?_
    show SP p e below (T5.setTop (mkF m 28 #[vJ p0, .second, vR p1, vJ v3_27, .second, vI (0 : Int32)] [])) _
    refine XS.iinc X5.here hx rfl (hb hby d16_28) rfl (l' := #[vJ p0, .second, vR p1, vJ v3_27, .second, vI (1 : Int32)]) rfl ?_
    show SP p e below (T5.setTop (mkF m 31 #[vJ p0, .second, vR p1, vJ v3_27, .second, vI (1 : Int32)] [])) _
    refine XS.goto X5.here hx rfl (pc0 := 31) (pc' := 5) rfl (hb hby d16_31) (by decide) (by decide) ?_
    show SP p e below (T5.setTop (mkF m 5 #[vJ p0, .second, vR p1, vJ v3_27, .second, vI (1 : Int32)] [])) _
    refine XS.iload X5.here hx rfl (hb hby d16_5) rfl  ?_
    show SP p e below (T5.setTop (mkF m 7 #[vJ p0, .second, vR p1, vJ v3_27, .second, vI (1 : Int32)] [(.int (1 : Int32))])) _
    refine XS.aloadN X5.here hx rfl (hb hby d16_7) rfl rfl ?_
    exact k
  obtain ⟨cq7, kq7, q7a, q7b, q7c⟩ := isOf hZ e5 E_p1
  obtain ⟨_, _, ⟨T7, L7, k7, n7⟩, -, X7, ⟨Lc7, hQ7, l7, y7, z7⟩, st7⟩ := X5.virtualBack hx (y := (⟨"java/lang/String", "length", "()I"⟩ : MethodName)) (z := (⟨"java/lang/String", "length", "()I"⟩ : MethodName)) hown (mvT hZ (ow hw 76 rfl)) (mvT hZ (ow hw 77 rfl)) (notFace_of_selects (args := #[]) (mvT hZ (ow hw 79 rfl))) (mvT hZ (ow hw 79 rfl)) (mvT hZ (ow hw 78 rfl)) (by decide) (backOf (W := 1) (rm_17U1 l Z a0 hw [] p1 cs_ v_ x_ h0 n0 Z0 S_COMPACT_STRINGS hcs E_p1 F_p1_value F_p1_coder A_v_) hZ (ow hw 80 rfl) (ow hw 7 rfl) (by decide) (by decide)) q7a q7c (g := (mkF m 8 #[vJ p0, .second, vR p1, vJ v3_27, .second, vI (1 : Int32)] [(.ref p1), (.int (1 : Int32))])) rfl (by rw [hml]; rfl) (Steps.refl _) (argsL := []) (rest := [(.int (1 : Int32))]) (lenOf pd_19 rfl) rfl own_le0 (hb hby d16_8) (fun _ _ => ⟨rfl, e5, (by decide : 0 + 0 ≤ _), (by decide : 0 + 0 ≤ _)⟩)
  dsimp only [Pt.U, Pt.locs, Pt.cells, Pt.slots] at X7 l7 y7 z7 st7 hQ7
  rw [l7, y7, z7] at X7
  obtain ⟨rfl, N7q, e7⟩ := hQ7
  have N7 := Fr.app N5 N7q
  have pre9 : ∀ t, SP p e below (T7.setTop (mkF m 11 #[vJ p0, .second, vR p1, vJ v3_27, .second, vI (1 : Int32)] [(.int (f_17U1 cs_ x_)), (.int (1 : Int32))])) t → SP p e below (s₁.setTop (entryFrame m #[(.long p0), (.ref p1)] 6)) t := by
    intro t k
    refine pre8 t ?_
    show SP p e below (T5.setTop (mkF m 8 #[vJ p0, .second, vR p1, vJ v3_27, .second, vI (1 : Int32)] [(.ref p1), (.int (1 : Int32))])) _
    refine st7.trans ?_
    exact k
  have hl10 : (f_17U1 cs_ x_) = (1 : Int32) := rfl
  have preL10 : ∀ t, SP p e below (T7.setTop (mkF m 11 #[vJ p0, .second, vR p1, vJ v3_27, .second, vI (1 : Int32)] [(.int (1 : Int32)), (.int (1 : Int32))])) t → SP p e below (s₁.setTop (entryFrame m #[(.long p0), (.ref p1)] 6)) t := by
    intro t k_
    refine pre9 t ?_
    rw [hl10]
    exact k_
  obtain ⟨fs, hr, hrun, hended, hW, hsame⟩ := X7.leave (v := some (.long v3_27)) (fun h => by rw [Bd.returns] at h; cases h) (BodyLoose.notSynchronized Bd)
  refine ⟨_, _, preL10 _ ?_, hrun, hended, _, _, rfl, ?_, ⟨_, rfl⟩, hW, hsame.mono (by decide) (by decide)⟩
  · show SP p e below (T7.setTop (mkF m 11 #[vJ p0, .second, vR p1, vJ v3_27, .second, vI (1 : Int32)] [(.int (1 : Int32)), (.int (1 : Int32))])) _
    refine XS.icmpYes X7.here hx rfl (pc0 := 11) (pc' := 34) rfl (hb hby d16_11) rfl (flt (by decide : ¬ ((1 : Int32) < (1 : Int32)))).2.1 (by decide) (by decide) ?_
    show SP p e below (T7.setTop (mkF m 34 #[vJ p0, .second, vR p1, vJ v3_27, .second, vI (1 : Int32)] [])) _
    refine XS.lloadN X7.here hx rfl (hb hby d16_34) rfl  ?_
    show SP p e below (T7.setTop (mkF m 35 #[vJ p0, .second, vR p1, vJ v3_27, .second, vI (1 : Int32)] [(.long v3_27)])) _
    exact retOut X7 hx Bd.returns rfl (Or.inr (Or.inl ⟨rfl, rfl, _, rfl⟩)) (hb hby d16_35) hr
  · show Q_16U1 Z p0 p1 cs_ v_ x_ fm_ h0 n0 _ T7.heap _
    rw [e7]
    exact ⟨congrArg (fun z => some (Value.long z)) (by subst hv3_27; rfl : v3_27 = f_16U1 p0 cs_ x_), N7, rfl⟩
theorem ef_17U2 (m : MethodId) (p0 : Addr) : entryFrame m #[(.ref p0)] 1 = mkF m 0 #[vR p0] [] := by first | (simp [entryFrame, mkF, argsToLocals, Value.category]; done) | rfl
def f_17U2 (cs_ : Int32) (x_ : Nat → Int32) : Int32 := (2 : Int32)
def Q_17U2 (Z : State) (p0 : Addr) (cs_ : Int32) (v_ : Addr) (x_ : Nat → Int32) (h0 : Heap) (n0 : Nat) (v : Option Value) (h : Heap) (L : List Loc) : Prop := v = some (.int (f_17U2 cs_ x_)) ∧ Fr n0 L ∧ h = h0
theorem rm_17U2 (l : Launch) (Z : State) (a0 : Array Value) (hw : ∀ d ∈ tables_1, d.before a0 Z = true) (ws : List Jvm.Cond) (p0 : Addr) (cs_ : Int32) (v_ : Addr) (x_ : Nat → Int32) (h0 : Heap) (n0 : Nat) (Z0 : n0 ≤ h0.size) (S_COMPACT_STRINGS : Sta Z h0 "java/lang/String" "COMPACT_STRINGS" "Z" (.int cs_)) (hcs : ¬ (cs_ = (0 : Int32))) (E_p0 : Exa Z h0 p0 "java/lang/String") (F_p0_value : Fld Z h0 p0 "java/lang/String" "value" "[B" (.ref v_)) (F_p0_coder : Fld Z h0 p0 "java/lang/String" "coder" "B" (.int (1 : Int32))) (A_v_ : own_A Z h0 v_ .byte 4 (fun i => .int (x_ i))) :
    MetFree l (⟨"java/lang/String", "length", "()I"⟩ : MethodName) (head1 (Jvm.Cond.code (⟨"java/lang/String", "length", "()I"⟩ : MethodName) jdk_42_method_54_code 1 (some .int) :: ws) (⟨1, 0, 0, 13⟩ : Room)) (fun a U => a = #[(.ref p0)] ∧ Z.Warmed39 U.vm ∧ U.heap = h0) (fun _ _ _ _ _ => True) (fun _ U o U' => ∃ v L, o = .returned v ∧ Q_17U2 Z p0 cs_ v_ x_ h0 n0 v U'.heap L ∧ FrameEnd U o U' L 0 0) := by
  refine MetFree.of_bodySF (plainFor_of_name pn_17) hisR ?_
  intro p e s m args below meth c s₁ Bd hml0 hP hK
  obtain ⟨rfl, hZ, hh⟩ := hP
  have hx := Bd.exec
  have hby := Bd.bytes
  have hml : c.maxLocals = 1 := hml0
  have hown : s.vm.findClass "java/lang/String" = some m.cls := findClass_of_methodNamed Bd.named
  have hnm := (name_of_methodNamed Bd.named Bd.method).1
  have X0 : Stand p l e (⟨1, 0, 0, 13⟩ : Room) s m #[(.ref p0)] below meth c s₁ [] 0 0 := Stand.of_body Bd
  have e0 : s₁.heap = h0 := by rw [← hh, Bd.state]; rfl
  have N0 := Fr.nil n0
  have K0 : Keep h0 h0 [] := Keep.refl h0 _
  have pre0 : ∀ t, SP p e below (s₁.setTop (mkF m 0 #[vR p0] [])) t → SP p e below (s₁.setTop (entryFrame m #[(.ref p0)] 1)) t := fun t k => castTop (ef_17U2 m p0) k
  have pre1 : ∀ t, SP p e below (s₁.setTop (mkF m 1 #[vR p0] [(.ref p0)])) t → SP p e below (s₁.setTop (entryFrame m #[(.ref p0)] 1)) t := by
    intro t k
    refine pre0 t ?_
    show SP p e below (s₁.setTop (mkF m 0 #[vR p0] [])) _
    refine XS.aloadN X0.here hx rfl (hb hby d17_0) rfl rfl ?_
    exact k
  obtain ⟨T2, X2, e2, st2⟩ := getF X0 hx hZ hown (host := "") (Or.inl (ow hw 25 rfl)) Via.refl e0 F_p0_value (g := (mkF m 1 #[vR p0] [(.ref p0)])) rfl rfl (hb hby d17_1)
  have pre4 : ∀ t, SP p e below (T2.setTop (mkF m 6 #[vR p0] [(.ref p0), (.int (4 : Int32))])) t → SP p e below (s₁.setTop (entryFrame m #[(.ref p0)] 1)) t := by
    intro t k
    refine pre1 t ?_
    show SP p e below (s₁.setTop (mkF m 1 #[vR p0] [(.ref p0)])) _
    refine st2 _ ?_
    show SP p e below (T2.setTop (mkF m 4 #[vR p0] [(.ref v_)])) _
    refine own_len X2 hx hZ e2 A_v_ (z := (4 : Int32)) rfl (g := (mkF m 4 #[vR p0] [(.ref v_)])) rfl rfl (hb hby d17_4) ?_
    show SP p e below (T2.setTop (mkF m 5 #[vR p0] [(.int (4 : Int32))])) _
    refine XS.aloadN X2.here hx rfl (hb hby d17_5) rfl rfl ?_
    exact k
  obtain ⟨cq3, kq3, q3a, q3b, q3c⟩ := isOf hZ e2 E_p0
  obtain ⟨_, _, ⟨T3, L3, k3, n3⟩, -, X3, ⟨Lc3, hQ3, l3, y3, z3⟩, st3⟩ := X2.virtualBack hx (y := (⟨"java/lang/String", "coder", "()B"⟩ : MethodName)) (z := (⟨"java/lang/String", "coder", "()B"⟩ : MethodName)) hown (mvT hZ (ow hw 81 rfl)) (mvT hZ (ow hw 82 rfl)) (notFace_of_selects (args := #[]) (mvT hZ (ow hw 84 rfl))) (mvT hZ (ow hw 84 rfl)) (mvT hZ (ow hw 83 rfl)) (by decide) (backOf (W := 1) (rm_18U l Z a0 hw [] p0 cs_ h0 n0 Z0 S_COMPACT_STRINGS hcs F_p0_coder) hZ (ow hw 85 rfl) (ow hw 7 rfl) (by decide) (by decide)) q3a q3c (g := (mkF m 6 #[vR p0] [(.ref p0), (.int (4 : Int32))])) rfl (by rw [hml]; rfl) (Steps.refl _) (argsL := []) (rest := [(.int (4 : Int32))]) (lenOf pd_18 rfl) rfl own_le0 (hb hby d17_6) (fun _ _ => ⟨rfl, e2, (by decide : 0 + 0 ≤ _), (by decide : 0 + 0 ≤ _)⟩)
  dsimp only [Pt.U, Pt.locs, Pt.cells, Pt.slots] at X3 l3 y3 z3 st3 hQ3
  rw [l3, y3, z3] at X3
  obtain ⟨rfl, N3q, e3⟩ := hQ3
  have N3 := Fr.app N0 N3q
  have pre5 : ∀ t, SP p e below (T3.setTop (mkF m 10 #[vR p0] [(.int ((4 : Int32) >>> ((f_18U cs_) &&& 31)))])) t → SP p e below (s₁.setTop (entryFrame m #[(.ref p0)] 1)) t := by
    intro t k
    refine pre4 t ?_
    show SP p e below (T2.setTop (mkF m 6 #[vR p0] [(.ref p0), (.int (4 : Int32))])) _
    refine st3.trans ?_
    show SP p e below (T3.setTop (mkF m 9 #[vR p0] [(.int (f_18U cs_)), (.int (4 : Int32))])) _
    refine XS.ishr X3.here hx rfl (hb hby d17_9) rfl ?_
    exact k
  have hl6 : ((4 : Int32) >>> ((f_18U cs_) &&& 31)) = (2 : Int32) := (by rw [show f_18U cs_ = (1 : Int32) from rfl]; decide)
  have preL6 : ∀ t, SP p e below (T3.setTop (mkF m 10 #[vR p0] [(.int (2 : Int32))])) t → SP p e below (s₁.setTop (entryFrame m #[(.ref p0)] 1)) t := by
    intro t k_
    refine pre5 t ?_
    rw [hl6]
    exact k_
  obtain ⟨fs, hr, hrun, hended, hW, hsame⟩ := X3.leave (v := some (.int (2 : Int32))) (fun h => by rw [Bd.returns] at h; cases h) (BodyLoose.notSynchronized Bd)
  refine ⟨_, _, preL6 _ ?_, hrun, hended, _, _, rfl, ?_, ⟨_, rfl⟩, hW, hsame.mono (by decide) (by decide)⟩
  · show SP p e below (T3.setTop (mkF m 10 #[vR p0] [(.int (2 : Int32))])) _
    exact retI X3 hx Bd.returns (hb hby d17_10) hr
  · show Q_17U2 Z p0 cs_ v_ x_ h0 n0 _ T3.heap _
    rw [e3]
    exact ⟨congrArg (fun z => some (Value.int z)) (by rfl : (2 : Int32) = f_17U2 cs_ x_), N3, rfl⟩
theorem ef_19U20 (m : MethodId) (p0 : Addr) : entryFrame m #[(.ref p0), (.int (0 : Int32))] 2 = mkF m 0 #[vR p0, vI (0 : Int32)] [] := by first | (simp [entryFrame, mkF, argsToLocals, Value.category]; done) | rfl
def f_19U20 (cs_ : Int32) (x_ : Nat → Int32) : Int32 := (nar .char (f_30b x_))
def Q_19U20 (Z : State) (p0 : Addr) (cs_ : Int32) (v_ : Addr) (x_ : Nat → Int32) (fm_ : Value) (h0 : Heap) (n0 : Nat) (v : Option Value) (h : Heap) (L : List Loc) : Prop := v = some (.int (f_19U20 cs_ x_)) ∧ Fr n0 L ∧ h = h0
theorem rm_19U20 (l : Launch) (Z : State) (a0 : Array Value) (hw : ∀ d ∈ tables_1, d.before a0 Z = true) (ws : List Jvm.Cond) (p0 : Addr) (cs_ : Int32) (v_ : Addr) (x_ : Nat → Int32) (fm_ : Value) (h0 : Heap) (n0 : Nat) (Z0 : n0 ≤ h0.size) (S_COMPACT_STRINGS : Sta Z h0 "java/lang/String" "COMPACT_STRINGS" "Z" (.int cs_)) (hcs : ¬ (cs_ = (0 : Int32))) (E_p0 : Exa Z h0 p0 "java/lang/String") (F_p0_value : Fld Z h0 p0 "java/lang/String" "value" "[B" (.ref v_)) (F_p0_coder : Fld Z h0 p0 "java/lang/String" "coder" "B" (.int (1 : Int32))) (A_v_ : own_A Z h0 v_ .byte 4 (fun i => .int (x_ i))) (S_SIOOBE_FORMATTER : Sta Z h0 "jdk/internal/util/Preconditions" "SIOOBE_FORMATTER" "Ljava/util/function/BiFunction;" fm_) (hfm : fm_ = Value.null ∨ ∃ a, fm_ = Value.ref a) (S__assertionsDisabled : Sta Z h0 "java/lang/StringUTF16" "$assertionsDisabled" "Z" (.int (1 : Int32))) (S_HI_BYTE_SHIFT : Sta Z h0 "java/lang/StringUTF16" "HI_BYTE_SHIFT" "I" (.int (0 : Int32))) (S_LO_BYTE_SHIFT : Sta Z h0 "java/lang/StringUTF16" "LO_BYTE_SHIFT" "I" (.int (8 : Int32))) :
    MetFree l (⟨"java/lang/String", "charAt", "(I)C"⟩ : MethodName) (head1 (Jvm.Cond.code (⟨"java/lang/String", "charAt", "(I)C"⟩ : MethodName) jdk_42_method_56_code 2 (some .char) :: ws) (⟨4, 0, 0, 53⟩ : Room)) (fun a U => a = #[(.ref p0), (.int (0 : Int32))] ∧ Z.Warmed39 U.vm ∧ U.heap = h0) (fun _ _ _ _ _ => True) (fun _ U o U' => ∃ v L, o = .returned v ∧ Q_19U20 Z p0 cs_ v_ x_ fm_ h0 n0 v U'.heap L ∧ FrameEnd U o U' L 0 0) := by
  refine MetFree.of_bodySF (plainFor_of_name pn_19) hisR ?_
  intro p e s m args below meth c s₁ Bd hml0 hP hK
  obtain ⟨rfl, hZ, hh⟩ := hP
  have hx := Bd.exec
  have hby := Bd.bytes
  have hml : c.maxLocals = 2 := hml0
  have hown : s.vm.findClass "java/lang/String" = some m.cls := findClass_of_methodNamed Bd.named
  have hnm := (name_of_methodNamed Bd.named Bd.method).1
  have X0 : Stand p l e (⟨4, 0, 0, 53⟩ : Room) s m #[(.ref p0), (.int (0 : Int32))] below meth c s₁ [] 0 0 := Stand.of_body Bd
  have e0 : s₁.heap = h0 := by rw [← hh, Bd.state]; rfl
  have N0 := Fr.nil n0
  have K0 : Keep h0 h0 [] := Keep.refl h0 _
  have pre0 : ∀ t, SP p e below (s₁.setTop (mkF m 0 #[vR p0, vI (0 : Int32)] [])) t → SP p e below (s₁.setTop (entryFrame m #[(.ref p0), (.int (0 : Int32))] 2)) t := fun t k => castTop (ef_19U20 m p0) k
  have pre2 : ∀ t, SP p e below (s₁.setTop (mkF m 1 #[vR p0, vI (0 : Int32)] [(.ref p0)])) t → SP p e below (s₁.setTop (entryFrame m #[(.ref p0), (.int (0 : Int32))] 2)) t := by
    intro t k
    refine pre0 t ?_
    show SP p e below (s₁.setTop (mkF m 0 #[vR p0, vI (0 : Int32)] [])) _
    refine XS.aloadN X0.here hx rfl (hb hby d19_0) rfl rfl ?_
    exact k
  obtain ⟨cq1, kq1, q1a, q1b, q1c⟩ := isOf hZ e0 E_p0
  obtain ⟨_, _, ⟨T1, L1, k1, n1⟩, -, X1, ⟨Lc1, hQ1, l1, y1, z1⟩, st1⟩ := X0.virtualBack hx (y := (⟨"java/lang/String", "isLatin1", "()Z"⟩ : MethodName)) (z := (⟨"java/lang/String", "isLatin1", "()Z"⟩ : MethodName)) hown (mvT hZ (ow hw 91 rfl)) (mvT hZ (ow hw 92 rfl)) (notFace_of_selects (args := #[]) (mvT hZ (ow hw 94 rfl))) (mvT hZ (ow hw 94 rfl)) (mvT hZ (ow hw 93 rfl)) (by decide) (backOf (W := 0) (rm_20U l Z a0 hw [] p0 cs_ h0 n0 Z0 S_COMPACT_STRINGS hcs F_p0_coder) hZ (ow hw 95 rfl) (ow hw 7 rfl) (by decide) (by decide)) q1a q1c (g := (mkF m 1 #[vR p0, vI (0 : Int32)] [(.ref p0)])) rfl (by rw [hml]; rfl) (Steps.refl _) (argsL := []) (rest := []) (lenOf pd_20 rfl) rfl own_le0 (hb hby d19_1) (fun _ _ => ⟨rfl, e0, (by decide : 0 + 0 ≤ _), (by decide : 0 + 0 ≤ _)⟩)
  dsimp only [Pt.U, Pt.locs, Pt.cells, Pt.slots] at X1 l1 y1 z1 st1 hQ1
  rw [l1, y1, z1] at X1
  obtain ⟨rfl, N1q, e1⟩ := hQ1
  have N1 := Fr.app N0 N1q
  have pre3 : ∀ t, SP p e below (T1.setTop (mkF m 17 #[vR p0, vI (0 : Int32)] [(.ref p0)])) t → SP p e below (s₁.setTop (entryFrame m #[(.ref p0), (.int (0 : Int32))] 2)) t := by
    intro t k
    refine pre2 t ?_
    show SP p e below (s₁.setTop (mkF m 1 #[vR p0, vI (0 : Int32)] [(.ref p0)])) _
    refine st1.trans ?_
    show SP p e below (T1.setTop (mkF m 4 #[vR p0, vI (0 : Int32)] [(.int (f_20U cs_))])) _
    refine XS.ifYes X1.here hx rfl (pc0 := 4) (pc' := 16) rfl (hb hby d19_4) rfl ((if0 _ _).trans (teq (rfl : (f_20U cs_) = (0 : Int32))).1) (by decide) (by decide) ?_
    show SP p e below (T1.setTop (mkF m 16 #[vR p0, vI (0 : Int32)] [])) _
    refine XS.aloadN X1.here hx rfl (hb hby d19_16) rfl rfl ?_
    exact k
  obtain ⟨T4, X4, e4, st4⟩ := getF X1 hx hZ hown (host := "") (Or.inl (ow hw 25 rfl)) Via.refl e1 F_p0_value (g := (mkF m 17 #[vR p0, vI (0 : Int32)] [(.ref p0)])) rfl rfl (hb hby d19_17)
  have pre6 : ∀ t, SP p e below (T4.setTop (mkF m 21 #[vR p0, vI (0 : Int32)] [(.int (0 : Int32)), (.ref v_)])) t → SP p e below (s₁.setTop (entryFrame m #[(.ref p0), (.int (0 : Int32))] 2)) t := by
    intro t k
    refine pre3 t ?_
    show SP p e below (T1.setTop (mkF m 17 #[vR p0, vI (0 : Int32)] [(.ref p0)])) _
    refine st4 _ ?_
    show SP p e below (T4.setTop (mkF m 20 #[vR p0, vI (0 : Int32)] [(.ref v_)])) _
    refine XS.iloadN X4.here hx rfl (hb hby d19_20) rfl  ?_
    exact k
  obtain ⟨_, _, ⟨T5, L5, k5, n5⟩, -, X5, ⟨Lc5, hQ5, l5, y5, z5⟩, st5⟩ := Jvm.LawKit.callS X4 hx (y := (⟨"java/lang/StringUTF16", "charAt", "([BI)C"⟩ : MethodName)) hown (mvT hZ (ow hw 131 rfl)) (mvT hZ (ow hw 132 rfl)) (mvT hZ (ow hw 58 rfl)) (mvT hZ (ow hw 133 rfl)) (by decide) (backOf (W := 0) (rm_30b l Z a0 hw [] v_ x_ fm_ h0 n0 Z0 A_v_ S__assertionsDisabled S_HI_BYTE_SHIFT S_LO_BYTE_SHIFT S_SIOOBE_FORMATTER hfm) hZ (ow hw 133 rfl) (ow hw 58 rfl) (by decide) (by decide)) (g := (mkF m 21 #[vR p0, vI (0 : Int32)] [(.int (0 : Int32)), (.ref v_)])) rfl (by rw [hml]; rfl) (argsL := [(.ref v_), (.int (0 : Int32))]) (rest := []) (lenOf pd_5 rfl) rfl own_le0 (hb hby d19_21) (fun _ _ => ⟨rfl, e4, (by decide : 0 + 0 ≤ _), (by decide : 0 + 0 ≤ _)⟩)
  dsimp only [Pt.U, Pt.locs, Pt.cells, Pt.slots] at X5 l5 y5 z5 st5 hQ5
  rw [l5, y5, z5] at X5
  obtain ⟨rfl, N5q, e5⟩ := hQ5
  have N5 := Fr.app N1 N5q
  obtain ⟨fs, hr, hrun, hended, hW, hsame⟩ := X5.leave (v := some (.int (nar .char (f_30b x_)))) (fun h => by rw [Bd.returns] at h; cases h) (BodyLoose.notSynchronized Bd)
  refine ⟨_, _, pre6 _ ?_, hrun, hended, _, _, rfl, ?_, ⟨_, rfl⟩, hW, hsame.mono (by decide) (by decide)⟩
  · show SP p e below (T4.setTop (mkF m 21 #[vR p0, vI (0 : Int32)] [(.int (0 : Int32)), (.ref v_)])) _
    refine st5 _ ?_
    show SP p e below (T5.setTop (mkF m 24 #[vR p0, vI (0 : Int32)] [(.int (f_30b x_))])) _
    exact retN X5 hx (t := .char) Bd.returns (by simp) (hb hby d19_24) hr
  · show Q_19U20 Z p0 cs_ v_ x_ fm_ h0 n0 _ T5.heap _
    rw [e5]
    exact ⟨congrArg (fun z => some (Value.int z)) (by rfl : (nar .char (f_30b x_)) = f_19U20 cs_ x_), N5, rfl⟩
theorem ef_19U21 (m : MethodId) (p0 : Addr) : entryFrame m #[(.ref p0), (.int (1 : Int32))] 2 = mkF m 0 #[vR p0, vI (1 : Int32)] [] := by first | (simp [entryFrame, mkF, argsToLocals, Value.category]; done) | rfl
def f_19U21 (cs_ : Int32) (x_ : Nat → Int32) : Int32 := (nar .char (f_30c x_))
def Q_19U21 (Z : State) (p0 : Addr) (cs_ : Int32) (v_ : Addr) (x_ : Nat → Int32) (fm_ : Value) (h0 : Heap) (n0 : Nat) (v : Option Value) (h : Heap) (L : List Loc) : Prop := v = some (.int (f_19U21 cs_ x_)) ∧ Fr n0 L ∧ h = h0
theorem rm_19U21 (l : Launch) (Z : State) (a0 : Array Value) (hw : ∀ d ∈ tables_1, d.before a0 Z = true) (ws : List Jvm.Cond) (p0 : Addr) (cs_ : Int32) (v_ : Addr) (x_ : Nat → Int32) (fm_ : Value) (h0 : Heap) (n0 : Nat) (Z0 : n0 ≤ h0.size) (S_COMPACT_STRINGS : Sta Z h0 "java/lang/String" "COMPACT_STRINGS" "Z" (.int cs_)) (hcs : ¬ (cs_ = (0 : Int32))) (E_p0 : Exa Z h0 p0 "java/lang/String") (F_p0_value : Fld Z h0 p0 "java/lang/String" "value" "[B" (.ref v_)) (F_p0_coder : Fld Z h0 p0 "java/lang/String" "coder" "B" (.int (1 : Int32))) (A_v_ : own_A Z h0 v_ .byte 4 (fun i => .int (x_ i))) (S_SIOOBE_FORMATTER : Sta Z h0 "jdk/internal/util/Preconditions" "SIOOBE_FORMATTER" "Ljava/util/function/BiFunction;" fm_) (hfm : fm_ = Value.null ∨ ∃ a, fm_ = Value.ref a) (S__assertionsDisabled : Sta Z h0 "java/lang/StringUTF16" "$assertionsDisabled" "Z" (.int (1 : Int32))) (S_HI_BYTE_SHIFT : Sta Z h0 "java/lang/StringUTF16" "HI_BYTE_SHIFT" "I" (.int (0 : Int32))) (S_LO_BYTE_SHIFT : Sta Z h0 "java/lang/StringUTF16" "LO_BYTE_SHIFT" "I" (.int (8 : Int32))) :
    MetFree l (⟨"java/lang/String", "charAt", "(I)C"⟩ : MethodName) (head1 (Jvm.Cond.code (⟨"java/lang/String", "charAt", "(I)C"⟩ : MethodName) jdk_42_method_56_code 2 (some .char) :: ws) (⟨4, 0, 0, 53⟩ : Room)) (fun a U => a = #[(.ref p0), (.int (1 : Int32))] ∧ Z.Warmed39 U.vm ∧ U.heap = h0) (fun _ _ _ _ _ => True) (fun _ U o U' => ∃ v L, o = .returned v ∧ Q_19U21 Z p0 cs_ v_ x_ fm_ h0 n0 v U'.heap L ∧ FrameEnd U o U' L 0 0) := by
  refine MetFree.of_bodySF (plainFor_of_name pn_19) hisR ?_
  intro p e s m args below meth c s₁ Bd hml0 hP hK
  obtain ⟨rfl, hZ, hh⟩ := hP
  have hx := Bd.exec
  have hby := Bd.bytes
  have hml : c.maxLocals = 2 := hml0
  have hown : s.vm.findClass "java/lang/String" = some m.cls := findClass_of_methodNamed Bd.named
  have hnm := (name_of_methodNamed Bd.named Bd.method).1
  have X0 : Stand p l e (⟨4, 0, 0, 53⟩ : Room) s m #[(.ref p0), (.int (1 : Int32))] below meth c s₁ [] 0 0 := Stand.of_body Bd
  have e0 : s₁.heap = h0 := by rw [← hh, Bd.state]; rfl
  have N0 := Fr.nil n0
  have K0 : Keep h0 h0 [] := Keep.refl h0 _
  have pre0 : ∀ t, SP p e below (s₁.setTop (mkF m 0 #[vR p0, vI (1 : Int32)] [])) t → SP p e below (s₁.setTop (entryFrame m #[(.ref p0), (.int (1 : Int32))] 2)) t := fun t k => castTop (ef_19U21 m p0) k
  have pre2 : ∀ t, SP p e below (s₁.setTop (mkF m 1 #[vR p0, vI (1 : Int32)] [(.ref p0)])) t → SP p e below (s₁.setTop (entryFrame m #[(.ref p0), (.int (1 : Int32))] 2)) t := by
    intro t k
    refine pre0 t ?_
    show SP p e below (s₁.setTop (mkF m 0 #[vR p0, vI (1 : Int32)] [])) _
    refine XS.aloadN X0.here hx rfl (hb hby d19_0) rfl rfl ?_
    exact k
  obtain ⟨cq1, kq1, q1a, q1b, q1c⟩ := isOf hZ e0 E_p0
  obtain ⟨_, _, ⟨T1, L1, k1, n1⟩, -, X1, ⟨Lc1, hQ1, l1, y1, z1⟩, st1⟩ := X0.virtualBack hx (y := (⟨"java/lang/String", "isLatin1", "()Z"⟩ : MethodName)) (z := (⟨"java/lang/String", "isLatin1", "()Z"⟩ : MethodName)) hown (mvT hZ (ow hw 91 rfl)) (mvT hZ (ow hw 92 rfl)) (notFace_of_selects (args := #[]) (mvT hZ (ow hw 94 rfl))) (mvT hZ (ow hw 94 rfl)) (mvT hZ (ow hw 93 rfl)) (by decide) (backOf (W := 0) (rm_20U l Z a0 hw [] p0 cs_ h0 n0 Z0 S_COMPACT_STRINGS hcs F_p0_coder) hZ (ow hw 95 rfl) (ow hw 7 rfl) (by decide) (by decide)) q1a q1c (g := (mkF m 1 #[vR p0, vI (1 : Int32)] [(.ref p0)])) rfl (by rw [hml]; rfl) (Steps.refl _) (argsL := []) (rest := []) (lenOf pd_20 rfl) rfl own_le0 (hb hby d19_1) (fun _ _ => ⟨rfl, e0, (by decide : 0 + 0 ≤ _), (by decide : 0 + 0 ≤ _)⟩)
  dsimp only [Pt.U, Pt.locs, Pt.cells, Pt.slots] at X1 l1 y1 z1 st1 hQ1
  rw [l1, y1, z1] at X1
  obtain ⟨rfl, N1q, e1⟩ := hQ1
  have N1 := Fr.app N0 N1q
  have pre3 : ∀ t, SP p e below (T1.setTop (mkF m 17 #[vR p0, vI (1 : Int32)] [(.ref p0)])) t → SP p e below (s₁.setTop (entryFrame m #[(.ref p0), (.int (1 : Int32))] 2)) t := by
    intro t k
    refine pre2 t ?_
    show SP p e below (s₁.setTop (mkF m 1 #[vR p0, vI (1 : Int32)] [(.ref p0)])) _
    refine st1.trans ?_
    show SP p e below (T1.setTop (mkF m 4 #[vR p0, vI (1 : Int32)] [(.int (f_20U cs_))])) _
    refine XS.ifYes X1.here hx rfl (pc0 := 4) (pc' := 16) rfl (hb hby d19_4) rfl ((if0 _ _).trans (teq (rfl : (f_20U cs_) = (0 : Int32))).1) (by decide) (by decide) ?_
    show SP p e below (T1.setTop (mkF m 16 #[vR p0, vI (1 : Int32)] [])) _
    refine XS.aloadN X1.here hx rfl (hb hby d19_16) rfl rfl ?_
    exact k
  obtain ⟨T4, X4, e4, st4⟩ := getF X1 hx hZ hown (host := "") (Or.inl (ow hw 25 rfl)) Via.refl e1 F_p0_value (g := (mkF m 17 #[vR p0, vI (1 : Int32)] [(.ref p0)])) rfl rfl (hb hby d19_17)
  have pre6 : ∀ t, SP p e below (T4.setTop (mkF m 21 #[vR p0, vI (1 : Int32)] [(.int (1 : Int32)), (.ref v_)])) t → SP p e below (s₁.setTop (entryFrame m #[(.ref p0), (.int (1 : Int32))] 2)) t := by
    intro t k
    refine pre3 t ?_
    show SP p e below (T1.setTop (mkF m 17 #[vR p0, vI (1 : Int32)] [(.ref p0)])) _
    refine st4 _ ?_
    show SP p e below (T4.setTop (mkF m 20 #[vR p0, vI (1 : Int32)] [(.ref v_)])) _
    refine XS.iloadN X4.here hx rfl (hb hby d19_20) rfl  ?_
    exact k
  obtain ⟨_, _, ⟨T5, L5, k5, n5⟩, -, X5, ⟨Lc5, hQ5, l5, y5, z5⟩, st5⟩ := Jvm.LawKit.callS X4 hx (y := (⟨"java/lang/StringUTF16", "charAt", "([BI)C"⟩ : MethodName)) hown (mvT hZ (ow hw 131 rfl)) (mvT hZ (ow hw 132 rfl)) (mvT hZ (ow hw 58 rfl)) (mvT hZ (ow hw 133 rfl)) (by decide) (backOf (W := 0) (rm_30c l Z a0 hw [] v_ x_ fm_ h0 n0 Z0 A_v_ S__assertionsDisabled S_HI_BYTE_SHIFT S_LO_BYTE_SHIFT S_SIOOBE_FORMATTER hfm) hZ (ow hw 133 rfl) (ow hw 58 rfl) (by decide) (by decide)) (g := (mkF m 21 #[vR p0, vI (1 : Int32)] [(.int (1 : Int32)), (.ref v_)])) rfl (by rw [hml]; rfl) (argsL := [(.ref v_), (.int (1 : Int32))]) (rest := []) (lenOf pd_5 rfl) rfl own_le0 (hb hby d19_21) (fun _ _ => ⟨rfl, e4, (by decide : 0 + 0 ≤ _), (by decide : 0 + 0 ≤ _)⟩)
  dsimp only [Pt.U, Pt.locs, Pt.cells, Pt.slots] at X5 l5 y5 z5 st5 hQ5
  rw [l5, y5, z5] at X5
  obtain ⟨rfl, N5q, e5⟩ := hQ5
  have N5 := Fr.app N1 N5q
  obtain ⟨fs, hr, hrun, hended, hW, hsame⟩ := X5.leave (v := some (.int (nar .char (f_30c x_)))) (fun h => by rw [Bd.returns] at h; cases h) (BodyLoose.notSynchronized Bd)
  refine ⟨_, _, pre6 _ ?_, hrun, hended, _, _, rfl, ?_, ⟨_, rfl⟩, hW, hsame.mono (by decide) (by decide)⟩
  · show SP p e below (T4.setTop (mkF m 21 #[vR p0, vI (1 : Int32)] [(.int (1 : Int32)), (.ref v_)])) _
    refine st5 _ ?_
    show SP p e below (T5.setTop (mkF m 24 #[vR p0, vI (1 : Int32)] [(.int (f_30c x_))])) _
    exact retN X5 hx (t := .char) Bd.returns (by simp) (hb hby d19_24) hr
  · show Q_19U21 Z p0 cs_ v_ x_ fm_ h0 n0 _ T5.heap _
    rw [e5]
    exact ⟨congrArg (fun z => some (Value.int z)) (by rfl : (nar .char (f_30c x_)) = f_19U21 cs_ x_), N5, rfl⟩
theorem ef_16U2 (m : MethodId) (p0 : Int64) (p1 : Addr) : entryFrame m #[(.long p0), (.ref p1)] 6 = mkF m 0 #[vJ p0, .second, vR p1, .unset, .unset, .unset] [] := by first | (simp [entryFrame, mkF, argsToLocals, Value.category]; done) | rfl
def f_16U2 (p0 : Int64) (cs_ : Int32) (x_ : Nat → Int32) : Int64 := let v3_27 : Int64 := ((p0 ^^^ ((f_19U20 cs_ x_).toInt64)) * (1099511628211 : Int64)); let v3_27_13 : Int64 := ((v3_27 ^^^ ((f_19U21 cs_ x_).toInt64)) * (1099511628211 : Int64)); v3_27_13
def Q_16U2 (Z : State) (p0 : Int64) (p1 : Addr) (cs_ : Int32) (v_ : Addr) (x_ : Nat → Int32) (fm_ : Value) (h0 : Heap) (n0 : Nat) (v : Option Value) (h : Heap) (L : List Loc) : Prop := v = some (.long (f_16U2 p0 cs_ x_)) ∧ Fr n0 L ∧ h = h0
theorem rm_16U2 (l : Launch) (Z : State) (a0 : Array Value) (hw : ∀ d ∈ tables_1, d.before a0 Z = true) (ws : List Jvm.Cond) (p0 : Int64) (p1 : Addr) (cs_ : Int32) (v_ : Addr) (x_ : Nat → Int32) (fm_ : Value) (h0 : Heap) (n0 : Nat) (Z0 : n0 ≤ h0.size) (S_COMPACT_STRINGS : Sta Z h0 "java/lang/String" "COMPACT_STRINGS" "Z" (.int cs_)) (hcs : ¬ (cs_ = (0 : Int32))) (E_p1 : Exa Z h0 p1 "java/lang/String") (F_p1_value : Fld Z h0 p1 "java/lang/String" "value" "[B" (.ref v_)) (F_p1_coder : Fld Z h0 p1 "java/lang/String" "coder" "B" (.int (1 : Int32))) (A_v_ : own_A Z h0 v_ .byte 4 (fun i => .int (x_ i))) (S_SIOOBE_FORMATTER : Sta Z h0 "jdk/internal/util/Preconditions" "SIOOBE_FORMATTER" "Ljava/util/function/BiFunction;" fm_) (hfm : fm_ = Value.null ∨ ∃ a, fm_ = Value.ref a) (S__assertionsDisabled : Sta Z h0 "java/lang/StringUTF16" "$assertionsDisabled" "Z" (.int (1 : Int32))) (S_HI_BYTE_SHIFT : Sta Z h0 "java/lang/StringUTF16" "HI_BYTE_SHIFT" "I" (.int (0 : Int32))) (S_LO_BYTE_SHIFT : Sta Z h0 "java/lang/StringUTF16" "LO_BYTE_SHIFT" "I" (.int (8 : Int32))) :
    MetFree l (⟨"com/example/tern/tern/store/HashIndex", "hash", "(JLjava/lang/String;)J"⟩ : MethodName) (head1 (Jvm.Cond.code (⟨"com/example/tern/tern/store/HashIndex", "hash", "(JLjava/lang/String;)J"⟩ : MethodName) prog_23_method_7_code 6 (some .long) :: ws) (⟨5, 0, 0, 68⟩ : Room)) (fun a U => a = #[(.long p0), (.ref p1)] ∧ Z.Warmed39 U.vm ∧ U.heap = h0) (fun _ _ _ _ _ => True) (fun _ U o U' => ∃ v L, o = .returned v ∧ Q_16U2 Z p0 p1 cs_ v_ x_ fm_ h0 n0 v U'.heap L ∧ FrameEnd U o U' L 0 0) := by
  refine MetFree.of_bodySF (plainFor_of_name pn_16) hisR ?_
  intro p e s m args below meth c s₁ Bd hml0 hP hK
  obtain ⟨rfl, hZ, hh⟩ := hP
  have hx := Bd.exec
  have hby := Bd.bytes
  have hml : c.maxLocals = 6 := hml0
  have hown : s.vm.findClass "com/example/tern/tern/store/HashIndex" = some m.cls := findClass_of_methodNamed Bd.named
  have hnm := (name_of_methodNamed Bd.named Bd.method).1
  have X0 : Stand p l e (⟨5, 0, 0, 68⟩ : Room) s m #[(.long p0), (.ref p1)] below meth c s₁ [] 0 0 := Stand.of_body Bd
  have e0 : s₁.heap = h0 := by rw [← hh, Bd.state]; rfl
  have N0 := Fr.nil n0
  have K0 : Keep h0 h0 [] := Keep.refl h0 _
  have pre0 : ∀ t, SP p e below (s₁.setTop (mkF m 0 #[vJ p0, .second, vR p1, .unset, .unset, .unset] [])) t → SP p e below (s₁.setTop (entryFrame m #[(.long p0), (.ref p1)] 6)) t := fun t k => castTop (ef_16U2 m p0 p1) k
  have pre2 : ∀ t, SP p e below (s₁.setTop (mkF m 8 #[vJ p0, .second, vR p1, vJ p0, .second, vI (0 : Int32)] [(.ref p1), (.int (0 : Int32))])) t → SP p e below (s₁.setTop (entryFrame m #[(.long p0), (.ref p1)] 6)) t := by
    intro t k
    refine pre0 t ?_
    show SP p e below (s₁.setTop (mkF m 0 #[vJ p0, .second, vR p1, .unset, .unset, .unset] [])) _
    refine XS.lloadN X0.here hx rfl (hb hby d16_0) rfl  ?_
    show SP p e below (s₁.setTop (mkF m 1 #[vJ p0, .second, vR p1, .unset, .unset, .unset] [(.long p0)])) _
    refine XS.lstoreN X0.here hx rfl (hb hby d16_1) rfl (l' := #[vJ p0, .second, vR p1, vJ p0, .second, .unset]) rfl ?_
    show SP p e below (s₁.setTop (mkF m 2 #[vJ p0, .second, vR p1, vJ p0, .second, .unset] [])) _
    refine XS.iconst X0.here hx rfl (hb hby d16_2) ?_
    show SP p e below (s₁.setTop (mkF m 3 #[vJ p0, .second, vR p1, vJ p0, .second, .unset] [(.int (0 : Int32))])) _
    refine XS.istore X0.here hx rfl (hb hby d16_3) rfl (l' := #[vJ p0, .second, vR p1, vJ p0, .second, vI (0 : Int32)]) rfl ?_
    show SP p e below (s₁.setTop (mkF m 5 #[vJ p0, .second, vR p1, vJ p0, .second, vI (0 : Int32)] [])) _
    refine XS.iload X0.here hx rfl (hb hby d16_5) rfl  ?_
    show SP p e below (s₁.setTop (mkF m 7 #[vJ p0, .second, vR p1, vJ p0, .second, vI (0 : Int32)] [(.int (0 : Int32))])) _
    refine XS.aloadN X0.here hx rfl (hb hby d16_7) rfl rfl ?_
    exact k
  obtain ⟨cq1, kq1, q1a, q1b, q1c⟩ := isOf hZ e0 E_p1
  obtain ⟨_, _, ⟨T1, L1, k1, n1⟩, -, X1, ⟨Lc1, hQ1, l1, y1, z1⟩, st1⟩ := X0.virtualBack hx (y := (⟨"java/lang/String", "length", "()I"⟩ : MethodName)) (z := (⟨"java/lang/String", "length", "()I"⟩ : MethodName)) hown (mvT hZ (ow hw 76 rfl)) (mvT hZ (ow hw 77 rfl)) (notFace_of_selects (args := #[]) (mvT hZ (ow hw 79 rfl))) (mvT hZ (ow hw 79 rfl)) (mvT hZ (ow hw 78 rfl)) (by decide) (backOf (W := 1) (rm_17U2 l Z a0 hw [] p1 cs_ v_ x_ h0 n0 Z0 S_COMPACT_STRINGS hcs E_p1 F_p1_value F_p1_coder A_v_) hZ (ow hw 80 rfl) (ow hw 7 rfl) (by decide) (by decide)) q1a q1c (g := (mkF m 8 #[vJ p0, .second, vR p1, vJ p0, .second, vI (0 : Int32)] [(.ref p1), (.int (0 : Int32))])) rfl (by rw [hml]; rfl) (Steps.refl _) (argsL := []) (rest := [(.int (0 : Int32))]) (lenOf pd_19 rfl) rfl own_le0 (hb hby d16_8) (fun _ _ => ⟨rfl, e0, (by decide : 0 + 0 ≤ _), (by decide : 0 + 0 ≤ _)⟩)
  dsimp only [Pt.U, Pt.locs, Pt.cells, Pt.slots] at X1 l1 y1 z1 st1 hQ1
  rw [l1, y1, z1] at X1
  obtain ⟨rfl, N1q, e1⟩ := hQ1
  have N1 := Fr.app N0 N1q
  have pre3 : ∀ t, SP p e below (T1.setTop (mkF m 11 #[vJ p0, .second, vR p1, vJ p0, .second, vI (0 : Int32)] [(.int (f_17U2 cs_ x_)), (.int (0 : Int32))])) t → SP p e below (s₁.setTop (entryFrame m #[(.long p0), (.ref p1)] 6)) t := by
    intro t k
    refine pre2 t ?_
    show SP p e below (s₁.setTop (mkF m 8 #[vJ p0, .second, vR p1, vJ p0, .second, vI (0 : Int32)] [(.ref p1), (.int (0 : Int32))])) _
    refine st1.trans ?_
    exact k
  have hl4 : (f_17U2 cs_ x_) = (2 : Int32) := rfl
  have preL4 : ∀ t, SP p e below (T1.setTop (mkF m 11 #[vJ p0, .second, vR p1, vJ p0, .second, vI (0 : Int32)] [(.int (2 : Int32)), (.int (0 : Int32))])) t → SP p e below (s₁.setTop (entryFrame m #[(.long p0), (.ref p1)] 6)) t := by
    intro t k_
    refine pre3 t ?_
    rw [hl4]
    exact k_
  have pre6 : ∀ t, SP p e below (T1.setTop (mkF m 18 #[vJ p0, .second, vR p1, vJ p0, .second, vI (0 : Int32)] [(.int (0 : Int32)), (.ref p1), (.long p0)])) t → SP p e below (s₁.setTop (entryFrame m #[(.long p0), (.ref p1)] 6)) t := by
    intro t k
    refine preL4 t ?_
    show SP p e below (T1.setTop (mkF m 11 #[vJ p0, .second, vR p1, vJ p0, .second, vI (0 : Int32)] [(.int (2 : Int32)), (.int (0 : Int32))])) _
    refine XS.icmpNo X1.here hx rfl (hb hby d16_11) rfl (tlt (by decide : (0 : Int32) < (2 : Int32))).2.1 ?_
    show SP p e below (T1.setTop (mkF m 14 #[vJ p0, .second, vR p1, vJ p0, .second, vI (0 : Int32)] [])) _
    refine XS.lloadN X1.here hx rfl (hb hby d16_14) rfl  ?_
    show SP p e below (T1.setTop (mkF m 15 #[vJ p0, .second, vR p1, vJ p0, .second, vI (0 : Int32)] [(.long p0)])) _
    refine XS.aloadN X1.here hx rfl (hb hby d16_15) rfl rfl ?_
    show SP p e below (T1.setTop (mkF m 16 #[vJ p0, .second, vR p1, vJ p0, .second, vI (0 : Int32)] [(.ref p1), (.long p0)])) _
    refine XS.iload X1.here hx rfl (hb hby d16_16) rfl  ?_
    exact k
  obtain ⟨cq5, kq5, q5a, q5b, q5c⟩ := isOf hZ e1 E_p1
  obtain ⟨_, _, ⟨T5, L5, k5, n5⟩, -, X5, ⟨Lc5, hQ5, l5, y5, z5⟩, st5⟩ := X1.virtualBack hx (y := (⟨"java/lang/String", "charAt", "(I)C"⟩ : MethodName)) (z := (⟨"java/lang/String", "charAt", "(I)C"⟩ : MethodName)) hown (mvT hZ (ow hw 86 rfl)) (mvT hZ (ow hw 87 rfl)) (notFace_of_selects (args := #[]) (mvT hZ (ow hw 89 rfl))) (mvT hZ (ow hw 89 rfl)) (mvT hZ (ow hw 88 rfl)) (by decide) (backOf (W := 2) (rm_19U20 l Z a0 hw [] p1 cs_ v_ x_ fm_ h0 n0 Z0 S_COMPACT_STRINGS hcs E_p1 F_p1_value F_p1_coder A_v_ S_SIOOBE_FORMATTER hfm S__assertionsDisabled S_HI_BYTE_SHIFT S_LO_BYTE_SHIFT) hZ (ow hw 90 rfl) (ow hw 7 rfl) (by decide) (by decide)) q5a q5c (g := (mkF m 18 #[vJ p0, .second, vR p1, vJ p0, .second, vI (0 : Int32)] [(.int (0 : Int32)), (.ref p1), (.long p0)])) rfl (by rw [hml]; rfl) (Steps.refl _) (argsL := [(.int (0 : Int32))]) (rest := [(.long p0)]) (lenOf pd_21 rfl) rfl own_le0 (hb hby d16_18) (fun _ _ => ⟨rfl, e1, (by decide : 0 + 0 ≤ _), (by decide : 0 + 0 ≤ _)⟩)
  dsimp only [Pt.U, Pt.locs, Pt.cells, Pt.slots] at X5 l5 y5 z5 st5 hQ5
  rw [l5, y5, z5] at X5
  obtain ⟨rfl, N5q, e5⟩ := hQ5
  have N5 := Fr.app N1 N5q
  obtain ⟨v3_27, hv3_27⟩ : ∃ z : Int64, z = ((p0 ^^^ ((f_19U20 cs_ x_).toInt64)) * (1099511628211 : Int64)) := ⟨_, rfl⟩
  have pre8 : ∀ t, SP p e below (T5.setTop (mkF m 8 #[vJ p0, .second, vR p1, vJ v3_27, .second, vI (1 : Int32)] [(.ref p1), (.int (1 : Int32))])) t → SP p e below (s₁.setTop (entryFrame m #[(.long p0), (.ref p1)] 6)) t := by
    intro t k
    refine pre6 t ?_
    show SP p e below (T1.setTop (mkF m 18 #[vJ p0, .second, vR p1, vJ p0, .second, vI (0 : Int32)] [(.int (0 : Int32)), (.ref p1), (.long p0)])) _
    refine st5.trans ?_
    show SP p e below (T5.setTop (mkF m 21 #[vJ p0, .second, vR p1, vJ p0, .second, vI (0 : Int32)] [(.int (f_19U20 cs_ x_)), (.long p0)])) _
    refine XS.i2l X5.here hx rfl (hb hby d16_21) rfl ?_
    show SP p e below (T5.setTop (mkF m 22 #[vJ p0, .second, vR p1, vJ p0, .second, vI (0 : Int32)] [(.long ((f_19U20 cs_ x_).toInt64)), (.long p0)])) _
    refine XS.lxor X5.here hx rfl (hb hby d16_22) rfl ?_
    show SP p e below (T5.setTop (mkF m 23 #[vJ p0, .second, vR p1, vJ p0, .second, vI (0 : Int32)] [(.long (p0 ^^^ ((f_19U20 cs_ x_).toInt64)))])) _
    refine X5.ldc2Long hx hown (mvT hZ (ow hw 107 rfl)) (g := (mkF m 23 #[vJ p0, .second, vR p1, vJ p0, .second, vI (0 : Int32)] [(.long (p0 ^^^ ((f_19U20 cs_ x_).toInt64)))])) rfl (hb hby d16_23) _ ?_
    show SP p e below (T5.setTop (mkF m 26 #[vJ p0, .second, vR p1, vJ p0, .second, vI (0 : Int32)] [(.long (1099511628211 : Int64)), (.long (p0 ^^^ ((f_19U20 cs_ x_).toInt64)))])) _
    refine XS.lmul X5.here hx rfl (hb hby d16_26) rfl ?_
    show SP p e below (T5.setTop (mkF m 27 #[vJ p0, .second, vR p1, vJ p0, .second, vI (0 : Int32)] [(.long ((p0 ^^^ ((f_19U20 cs_ x_).toInt64)) * (1099511628211 : Int64)))])) _
    refine XS.lstoreN X5.here hx rfl (hb hby d16_27) rfl (l' := #[vJ p0, .second, vR p1, vJ v3_27, .second, vI (0 : Int32)]) (by rw [hv3_27]; rfl) ?_
    show SP p e below (T5.setTop (mkF m 28 #[vJ p0, .second, vR p1, vJ v3_27, .second, vI (0 : Int32)] [])) _
    refine XS.iinc X5.here hx rfl (hb hby d16_28) rfl (l' := #[vJ p0, .second, vR p1, vJ v3_27, .second, vI (1 : Int32)]) rfl ?_
    show SP p e below (T5.setTop (mkF m 31 #[vJ p0, .second, vR p1, vJ v3_27, .second, vI (1 : Int32)] [])) _
    refine XS.goto X5.here hx rfl (pc0 := 31) (pc' := 5) rfl (hb hby d16_31) (by decide) (by decide) ?_
    show SP p e below (T5.setTop (mkF m 5 #[vJ p0, .second, vR p1, vJ v3_27, .second, vI (1 : Int32)] [])) _
    refine XS.iload X5.here hx rfl (hb hby d16_5) rfl  ?_
    show SP p e below (T5.setTop (mkF m 7 #[vJ p0, .second, vR p1, vJ v3_27, .second, vI (1 : Int32)] [(.int (1 : Int32))])) _
    refine XS.aloadN X5.here hx rfl (hb hby d16_7) rfl rfl ?_
    exact k
  obtain ⟨cq7, kq7, q7a, q7b, q7c⟩ := isOf hZ e5 E_p1
  obtain ⟨_, _, ⟨T7, L7, k7, n7⟩, -, X7, ⟨Lc7, hQ7, l7, y7, z7⟩, st7⟩ := X5.virtualBack hx (y := (⟨"java/lang/String", "length", "()I"⟩ : MethodName)) (z := (⟨"java/lang/String", "length", "()I"⟩ : MethodName)) hown (mvT hZ (ow hw 76 rfl)) (mvT hZ (ow hw 77 rfl)) (notFace_of_selects (args := #[]) (mvT hZ (ow hw 79 rfl))) (mvT hZ (ow hw 79 rfl)) (mvT hZ (ow hw 78 rfl)) (by decide) (backOf (W := 1) (rm_17U2 l Z a0 hw [] p1 cs_ v_ x_ h0 n0 Z0 S_COMPACT_STRINGS hcs E_p1 F_p1_value F_p1_coder A_v_) hZ (ow hw 80 rfl) (ow hw 7 rfl) (by decide) (by decide)) q7a q7c (g := (mkF m 8 #[vJ p0, .second, vR p1, vJ v3_27, .second, vI (1 : Int32)] [(.ref p1), (.int (1 : Int32))])) rfl (by rw [hml]; rfl) (Steps.refl _) (argsL := []) (rest := [(.int (1 : Int32))]) (lenOf pd_19 rfl) rfl own_le0 (hb hby d16_8) (fun _ _ => ⟨rfl, e5, (by decide : 0 + 0 ≤ _), (by decide : 0 + 0 ≤ _)⟩)
  dsimp only [Pt.U, Pt.locs, Pt.cells, Pt.slots] at X7 l7 y7 z7 st7 hQ7
  rw [l7, y7, z7] at X7
  obtain ⟨rfl, N7q, e7⟩ := hQ7
  have N7 := Fr.app N5 N7q
  have pre9 : ∀ t, SP p e below (T7.setTop (mkF m 11 #[vJ p0, .second, vR p1, vJ v3_27, .second, vI (1 : Int32)] [(.int (f_17U2 cs_ x_)), (.int (1 : Int32))])) t → SP p e below (s₁.setTop (entryFrame m #[(.long p0), (.ref p1)] 6)) t := by
    intro t k
    refine pre8 t ?_
    show SP p e below (T5.setTop (mkF m 8 #[vJ p0, .second, vR p1, vJ v3_27, .second, vI (1 : Int32)] [(.ref p1), (.int (1 : Int32))])) _
    refine st7.trans ?_
    exact k
  have hl10 : (f_17U2 cs_ x_) = (2 : Int32) := rfl
  have preL10 : ∀ t, SP p e below (T7.setTop (mkF m 11 #[vJ p0, .second, vR p1, vJ v3_27, .second, vI (1 : Int32)] [(.int (2 : Int32)), (.int (1 : Int32))])) t → SP p e below (s₁.setTop (entryFrame m #[(.long p0), (.ref p1)] 6)) t := by
    intro t k_
    refine pre9 t ?_
    rw [hl10]
    exact k_
  have pre12 : ∀ t, SP p e below (T7.setTop (mkF m 18 #[vJ p0, .second, vR p1, vJ v3_27, .second, vI (1 : Int32)] [(.int (1 : Int32)), (.ref p1), (.long v3_27)])) t → SP p e below (s₁.setTop (entryFrame m #[(.long p0), (.ref p1)] 6)) t := by
    intro t k
    refine preL10 t ?_
    show SP p e below (T7.setTop (mkF m 11 #[vJ p0, .second, vR p1, vJ v3_27, .second, vI (1 : Int32)] [(.int (2 : Int32)), (.int (1 : Int32))])) _
    refine XS.icmpNo X7.here hx rfl (hb hby d16_11) rfl (tlt (by decide : (1 : Int32) < (2 : Int32))).2.1 ?_
    show SP p e below (T7.setTop (mkF m 14 #[vJ p0, .second, vR p1, vJ v3_27, .second, vI (1 : Int32)] [])) _
    refine XS.lloadN X7.here hx rfl (hb hby d16_14) rfl  ?_
    show SP p e below (T7.setTop (mkF m 15 #[vJ p0, .second, vR p1, vJ v3_27, .second, vI (1 : Int32)] [(.long v3_27)])) _
    refine XS.aloadN X7.here hx rfl (hb hby d16_15) rfl rfl ?_
    show SP p e below (T7.setTop (mkF m 16 #[vJ p0, .second, vR p1, vJ v3_27, .second, vI (1 : Int32)] [(.ref p1), (.long v3_27)])) _
    refine XS.iload X7.here hx rfl (hb hby d16_16) rfl  ?_
    exact k
  obtain ⟨cq11, kq11, q11a, q11b, q11c⟩ := isOf hZ e7 E_p1
  obtain ⟨_, _, ⟨T11, L11, k11, n11⟩, -, X11, ⟨Lc11, hQ11, l11, y11, z11⟩, st11⟩ := X7.virtualBack hx (y := (⟨"java/lang/String", "charAt", "(I)C"⟩ : MethodName)) (z := (⟨"java/lang/String", "charAt", "(I)C"⟩ : MethodName)) hown (mvT hZ (ow hw 86 rfl)) (mvT hZ (ow hw 87 rfl)) (notFace_of_selects (args := #[]) (mvT hZ (ow hw 89 rfl))) (mvT hZ (ow hw 89 rfl)) (mvT hZ (ow hw 88 rfl)) (by decide) (backOf (W := 2) (rm_19U21 l Z a0 hw [] p1 cs_ v_ x_ fm_ h0 n0 Z0 S_COMPACT_STRINGS hcs E_p1 F_p1_value F_p1_coder A_v_ S_SIOOBE_FORMATTER hfm S__assertionsDisabled S_HI_BYTE_SHIFT S_LO_BYTE_SHIFT) hZ (ow hw 90 rfl) (ow hw 7 rfl) (by decide) (by decide)) q11a q11c (g := (mkF m 18 #[vJ p0, .second, vR p1, vJ v3_27, .second, vI (1 : Int32)] [(.int (1 : Int32)), (.ref p1), (.long v3_27)])) rfl (by rw [hml]; rfl) (Steps.refl _) (argsL := [(.int (1 : Int32))]) (rest := [(.long v3_27)]) (lenOf pd_21 rfl) rfl own_le0 (hb hby d16_18) (fun _ _ => ⟨rfl, e7, (by decide : 0 + 0 ≤ _), (by decide : 0 + 0 ≤ _)⟩)
  dsimp only [Pt.U, Pt.locs, Pt.cells, Pt.slots] at X11 l11 y11 z11 st11 hQ11
  rw [l11, y11, z11] at X11
  obtain ⟨rfl, N11q, e11⟩ := hQ11
  have N11 := Fr.app N7 N11q
  obtain ⟨v3_27_13, hv3_27_13⟩ : ∃ z : Int64, z = ((v3_27 ^^^ ((f_19U21 cs_ x_).toInt64)) * (1099511628211 : Int64)) := ⟨_, rfl⟩
  have pre15 : ∀ t, SP p e below (T11.setTop (mkF m 8 #[vJ p0, .second, vR p1, vJ v3_27_13, .second, vI (2 : Int32)] [(.ref p1), (.int (2 : Int32))])) t → SP p e below (s₁.setTop (entryFrame m #[(.long p0), (.ref p1)] 6)) t := by
    intro t k
    refine pre12 t ?_
    show SP p e below (T7.setTop (mkF m 18 #[vJ p0, .second, vR p1, vJ v3_27, .second, vI (1 : Int32)] [(.int (1 : Int32)), (.ref p1), (.long v3_27)])) _
    refine st11.trans ?_
    show SP p e below (T11.setTop (mkF m 21 #[vJ p0, .second, vR p1, vJ v3_27, .second, vI (1 : Int32)] [(.int (f_19U21 cs_ x_)), (.long v3_27)])) _
    refine XS.i2l X11.here hx rfl (hb hby d16_21) rfl ?_
    show SP p e below (T11.setTop (mkF m 22 #[vJ p0, .second, vR p1, vJ v3_27, .second, vI (1 : Int32)] [(.long ((f_19U21 cs_ x_).toInt64)), (.long v3_27)])) _
    refine XS.lxor X11.here hx rfl (hb hby d16_22) rfl ?_
    show SP p e below (T11.setTop (mkF m 23 #[vJ p0, .second, vR p1, vJ v3_27, .second, vI (1 : Int32)] [(.long (v3_27 ^^^ ((f_19U21 cs_ x_).toInt64)))])) _
    refine X11.ldc2Long hx hown (mvT hZ (ow hw 107 rfl)) (g := (mkF m 23 #[vJ p0, .second, vR p1, vJ v3_27, .second, vI (1 : Int32)] [(.long (v3_27 ^^^ ((f_19U21 cs_ x_).toInt64)))])) rfl (hb hby d16_23) _ ?_
    show SP p e below (T11.setTop (mkF m 26 #[vJ p0, .second, vR p1, vJ v3_27, .second, vI (1 : Int32)] [(.long (1099511628211 : Int64)), (.long (v3_27 ^^^ ((f_19U21 cs_ x_).toInt64)))])) _
    refine XS.lmul X11.here hx rfl (hb hby d16_26) rfl ?_
    show SP p e below (T11.setTop (mkF m 27 #[vJ p0, .second, vR p1, vJ v3_27, .second, vI (1 : Int32)] [(.long ((v3_27 ^^^ ((f_19U21 cs_ x_).toInt64)) * (1099511628211 : Int64)))])) _
    refine XS.lstoreN X11.here hx rfl (hb hby d16_27) rfl (l' := #[vJ p0, .second, vR p1, vJ v3_27_13, .second, vI (1 : Int32)]) (by rw [hv3_27_13]; rfl) ?_
    show SP p e below (T11.setTop (mkF m 28 #[vJ p0, .second, vR p1, vJ v3_27_13, .second, vI (1 : Int32)] [])) _
    refine XS.iinc X11.here hx rfl (hb hby d16_28) rfl (l' := #[vJ p0, .second, vR p1, vJ v3_27_13, .second, vI (2 : Int32)]) rfl ?_
    show SP p e below (T11.setTop (mkF m 31 #[vJ p0, .second, vR p1, vJ v3_27_13, .second, vI (2 : Int32)] [])) _
    refine XS.goto X11.here hx rfl (pc0 := 31) (pc' := 5) rfl (hb hby d16_31) (by decide) (by decide) ?_
    show SP p e below (T11.setTop (mkF m 5 #[vJ p0, .second, vR p1, vJ v3_27_13, .second, vI (2 : Int32)] [])) _
    refine XS.iload X11.here hx rfl (hb hby d16_5) rfl  ?_
    show SP p e below (T11.setTop (mkF m 7 #[vJ p0, .second, vR p1, vJ v3_27_13, .second, vI (2 : Int32)] [(.int (2 : Int32))])) _
    refine XS.aloadN X11.here hx rfl (hb hby d16_7) rfl rfl ?_
    exact k
  obtain ⟨cq14, kq14, q14a, q14b, q14c⟩ := isOf hZ e11 E_p1
  obtain ⟨_, _, ⟨T14, L14, k14, n14⟩, -, X14, ⟨Lc14, hQ14, l14, y14, z14⟩, st14⟩ := X11.virtualBack hx (y := (⟨"java/lang/String", "length", "()I"⟩ : MethodName)) (z := (⟨"java/lang/String", "length", "()I"⟩ : MethodName)) hown (mvT hZ (ow hw 76 rfl)) (mvT hZ (ow hw 77 rfl)) (notFace_of_selects (args := #[]) (mvT hZ (ow hw 79 rfl))) (mvT hZ (ow hw 79 rfl)) (mvT hZ (ow hw 78 rfl)) (by decide) (backOf (W := 1) (rm_17U2 l Z a0 hw [] p1 cs_ v_ x_ h0 n0 Z0 S_COMPACT_STRINGS hcs E_p1 F_p1_value F_p1_coder A_v_) hZ (ow hw 80 rfl) (ow hw 7 rfl) (by decide) (by decide)) q14a q14c (g := (mkF m 8 #[vJ p0, .second, vR p1, vJ v3_27_13, .second, vI (2 : Int32)] [(.ref p1), (.int (2 : Int32))])) rfl (by rw [hml]; rfl) (Steps.refl _) (argsL := []) (rest := [(.int (2 : Int32))]) (lenOf pd_19 rfl) rfl own_le0 (hb hby d16_8) (fun _ _ => ⟨rfl, e11, (by decide : 0 + 0 ≤ _), (by decide : 0 + 0 ≤ _)⟩)
  dsimp only [Pt.U, Pt.locs, Pt.cells, Pt.slots] at X14 l14 y14 z14 st14 hQ14
  rw [l14, y14, z14] at X14
  obtain ⟨rfl, N14q, e14⟩ := hQ14
  have N14 := Fr.app N11 N14q
  have pre16 : ∀ t, SP p e below (T14.setTop (mkF m 11 #[vJ p0, .second, vR p1, vJ v3_27_13, .second, vI (2 : Int32)] [(.int (f_17U2 cs_ x_)), (.int (2 : Int32))])) t → SP p e below (s₁.setTop (entryFrame m #[(.long p0), (.ref p1)] 6)) t := by
    intro t k
    refine pre15 t ?_
    show SP p e below (T11.setTop (mkF m 8 #[vJ p0, .second, vR p1, vJ v3_27_13, .second, vI (2 : Int32)] [(.ref p1), (.int (2 : Int32))])) _
    refine st14.trans ?_
    exact k
  have hl17 : (f_17U2 cs_ x_) = (2 : Int32) := rfl
  have preL17 : ∀ t, SP p e below (T14.setTop (mkF m 11 #[vJ p0, .second, vR p1, vJ v3_27_13, .second, vI (2 : Int32)] [(.int (2 : Int32)), (.int (2 : Int32))])) t → SP p e below (s₁.setTop (entryFrame m #[(.long p0), (.ref p1)] 6)) t := by
    intro t k_
    refine pre16 t ?_
    rw [hl17]
    exact k_
  obtain ⟨fs, hr, hrun, hended, hW, hsame⟩ := X14.leave (v := some (.long v3_27_13)) (fun h => by rw [Bd.returns] at h; cases h) (BodyLoose.notSynchronized Bd)
  refine ⟨_, _, preL17 _ ?_, hrun, hended, _, _, rfl, ?_, ⟨_, rfl⟩, hW, hsame.mono (by decide) (by decide)⟩
  · show SP p e below (T14.setTop (mkF m 11 #[vJ p0, .second, vR p1, vJ v3_27_13, .second, vI (2 : Int32)] [(.int (2 : Int32)), (.int (2 : Int32))])) _
    refine XS.icmpYes X14.here hx rfl (pc0 := 11) (pc' := 34) rfl (hb hby d16_11) rfl (flt (by decide : ¬ ((2 : Int32) < (2 : Int32)))).2.1 (by decide) (by decide) ?_
    show SP p e below (T14.setTop (mkF m 34 #[vJ p0, .second, vR p1, vJ v3_27_13, .second, vI (2 : Int32)] [])) _
    refine XS.lloadN X14.here hx rfl (hb hby d16_34) rfl  ?_
    show SP p e below (T14.setTop (mkF m 35 #[vJ p0, .second, vR p1, vJ v3_27_13, .second, vI (2 : Int32)] [(.long v3_27_13)])) _
    exact retOut X14 hx Bd.returns rfl (Or.inr (Or.inl ⟨rfl, rfl, _, rfl⟩)) (hb hby d16_35) hr
  · show Q_16U2 Z p0 p1 cs_ v_ x_ fm_ h0 n0 _ T14.heap _
    rw [e14]
    exact ⟨congrArg (fun z => some (Value.long z)) (by subst hv3_27 hv3_27_13; rfl : v3_27_13 = f_16U2 p0 cs_ x_), N14, rfl⟩
def f_16 (p0 : Int64) (cs_ : Int32) (c_ : Int32) (n_ : Nat) (x_ : Nat → Int32) : Int64 := if c_ = (0 : Int32) then (if n_ = 0 then f_16L0 p0 cs_ x_ else if n_ = 1 then f_16L1 p0 cs_ x_ else f_16L2 p0 cs_ x_) else if n_ = 2 then f_16U1 p0 cs_ x_ else f_16U2 p0 cs_ x_
def Q_16 (Z : State) (p0 : Int64) (cs_ : Int32) (c_ : Int32) (n_ : Nat) (x_ : Nat → Int32) (h0 : Heap) (n0 : Nat) (v : Option Value) (h : Heap) (L : List Loc) : Prop := v = some (.long (f_16 p0 cs_ c_ n_ x_)) ∧ Fr n0 L ∧ h = h0
theorem rm_16 (l : Launch) (Z : State) (a0 : Array Value) (hw : ∀ d ∈ tables_1, d.before a0 Z = true) (ws : List Jvm.Cond) (p0 : Int64) (p1 : Addr) (cs_ : Int32) (v_ : Addr) (c_ : Int32) (n_ : Nat) (x_ : Nat → Int32) (fm_ : Value) (h0 : Heap) (n0 : Nat) (Z0 : n0 ≤ h0.size) (S_COMPACT_STRINGS : Sta Z h0 "java/lang/String" "COMPACT_STRINGS" "Z" (.int cs_)) (hcs : ¬ (cs_ = (0 : Int32))) (E_p1 : Exa Z h0 p1 "java/lang/String") (F_p1_value : Fld Z h0 p1 "java/lang/String" "value" "[B" (.ref v_)) (F_p1_coder : Fld Z h0 p1 "java/lang/String" "coder" "B" (.int c_)) (A_v_ : own_A Z h0 v_ .byte n_ (fun i => .int (x_ i))) (S_SIOOBE_FORMATTER : Sta Z h0 "jdk/internal/util/Preconditions" "SIOOBE_FORMATTER" "Ljava/util/function/BiFunction;" fm_) (hfm : fm_ = Value.null ∨ ∃ a, fm_ = Value.ref a) (S__assertionsDisabled : Sta Z h0 "java/lang/StringUTF16" "$assertionsDisabled" "Z" (.int (1 : Int32))) (S_HI_BYTE_SHIFT : Sta Z h0 "java/lang/StringUTF16" "HI_BYTE_SHIFT" "I" (.int (0 : Int32))) (S_LO_BYTE_SHIFT : Sta Z h0 "java/lang/StringUTF16" "LO_BYTE_SHIFT" "I" (.int (8 : Int32))) (hk : own_k c_ n_) :
    MetFree l (⟨"com/example/tern/tern/store/HashIndex", "hash", "(JLjava/lang/String;)J"⟩ : MethodName) (head1 (Jvm.Cond.code (⟨"com/example/tern/tern/store/HashIndex", "hash", "(JLjava/lang/String;)J"⟩ : MethodName) prog_23_method_7_code 6 (some .long) :: ws) (⟨5, 0, 0, 68⟩ : Room)) (fun a U => a = #[(.long p0), (.ref p1)] ∧ Z.Warmed39 U.vm ∧ U.heap = h0) (fun _ _ _ _ _ => True) (fun _ U o U' => ∃ v L, o = .returned v ∧ Q_16 Z p0 cs_ c_ n_ x_ h0 n0 v U'.heap L ∧ FrameEnd U o U' L 0 0) := by
  rcases hk with ⟨rfl, rfl | rfl | rfl⟩ | ⟨rfl, rfl | rfl⟩
  · exact rm_16L0 l Z a0 hw ws p0 p1 cs_ v_ x_ fm_ h0 n0 Z0 S_COMPACT_STRINGS hcs E_p1 F_p1_value F_p1_coder A_v_ S_SIOOBE_FORMATTER hfm S__assertionsDisabled S_HI_BYTE_SHIFT S_LO_BYTE_SHIFT
  · exact rm_16L1 l Z a0 hw ws p0 p1 cs_ v_ x_ fm_ h0 n0 Z0 S_COMPACT_STRINGS hcs E_p1 F_p1_value F_p1_coder A_v_ S_SIOOBE_FORMATTER hfm S__assertionsDisabled S_HI_BYTE_SHIFT S_LO_BYTE_SHIFT
  · exact rm_16L2 l Z a0 hw ws p0 p1 cs_ v_ x_ fm_ h0 n0 Z0 S_COMPACT_STRINGS hcs E_p1 F_p1_value F_p1_coder A_v_ S_SIOOBE_FORMATTER hfm S__assertionsDisabled S_HI_BYTE_SHIFT S_LO_BYTE_SHIFT
  · exact rm_16U1 l Z a0 hw ws p0 p1 cs_ v_ x_ fm_ h0 n0 Z0 S_COMPACT_STRINGS hcs E_p1 F_p1_value F_p1_coder A_v_ S_SIOOBE_FORMATTER hfm S__assertionsDisabled S_HI_BYTE_SHIFT S_LO_BYTE_SHIFT
  · exact rm_16U2 l Z a0 hw ws p0 p1 cs_ v_ x_ fm_ h0 n0 Z0 S_COMPACT_STRINGS hcs E_p1 F_p1_value F_p1_coder A_v_ S_SIOOBE_FORMATTER hfm S__assertionsDisabled S_HI_BYTE_SHIFT S_LO_BYTE_SHIFT
theorem d5_0 : decode prog_23_method_2_code 0 = .ok (.ldc2_w 16, 3) := by decide +kernel
theorem d5_3 : decode prog_23_method_2_code 3 = .ok (.lstore_n 1, 1) := by decide +kernel
theorem d5_4 : decode prog_23_method_2_code 4 = .ok (.iconst 0, 1) := by decide +kernel
theorem d5_5 : decode prog_23_method_2_code 5 = .ok (.istore_n 3, 1) := by decide +kernel
theorem d5_6 : decode prog_23_method_2_code 6 = .ok (.iload_n 3, 1) := by decide +kernel
theorem d5_7 : decode prog_23_method_2_code 7 = .ok (.aload_n 0, 1) := by decide +kernel
theorem d5_8 : decode prog_23_method_2_code 8 = .ok (.arraylength, 1) := by decide +kernel
theorem d5_9 : decode prog_23_method_2_code 9 = .ok (.if_icmp .ge 31, 3) := by decide +kernel
theorem d5_40 : decode prog_23_method_2_code 40 = .ok (.lload_n 1, 1) := by decide +kernel
theorem d5_41 : decode prog_23_method_2_code 41 = .ok (.lload_n 1, 1) := by decide +kernel
theorem d5_42 : decode prog_23_method_2_code 42 = .ok (.bipush 33, 2) := by decide +kernel
theorem d5_44 : decode prog_23_method_2_code 44 = .ok (.lushr, 1) := by decide +kernel
theorem d5_45 : decode prog_23_method_2_code 45 = .ok (.lxor, 1) := by decide +kernel
theorem d5_46 : decode prog_23_method_2_code 46 = .ok (.ldc2_w 26, 3) := by decide +kernel
theorem d5_49 : decode prog_23_method_2_code 49 = .ok (.lmul, 1) := by decide +kernel
theorem d5_50 : decode prog_23_method_2_code 50 = .ok (.lstore_n 1, 1) := by decide +kernel
theorem d5_51 : decode prog_23_method_2_code 51 = .ok (.lload_n 1, 1) := by decide +kernel
theorem d5_52 : decode prog_23_method_2_code 52 = .ok (.lload_n 1, 1) := by decide +kernel
theorem d5_53 : decode prog_23_method_2_code 53 = .ok (.bipush 33, 2) := by decide +kernel
theorem d5_55 : decode prog_23_method_2_code 55 = .ok (.lushr, 1) := by decide +kernel
theorem d5_56 : decode prog_23_method_2_code 56 = .ok (.lxor, 1) := by decide +kernel
theorem d5_57 : decode prog_23_method_2_code 57 = .ok (.ldc2_w 28, 3) := by decide +kernel
theorem d5_60 : decode prog_23_method_2_code 60 = .ok (.lmul, 1) := by decide +kernel
theorem d5_61 : decode prog_23_method_2_code 61 = .ok (.lstore_n 1, 1) := by decide +kernel
theorem d5_62 : decode prog_23_method_2_code 62 = .ok (.lload_n 1, 1) := by decide +kernel
theorem d5_63 : decode prog_23_method_2_code 63 = .ok (.lload_n 1, 1) := by decide +kernel
theorem d5_64 : decode prog_23_method_2_code 64 = .ok (.bipush 33, 2) := by decide +kernel
theorem d5_66 : decode prog_23_method_2_code 66 = .ok (.lushr, 1) := by decide +kernel
theorem d5_67 : decode prog_23_method_2_code 67 = .ok (.lxor, 1) := by decide +kernel
theorem d5_68 : decode prog_23_method_2_code 68 = .ok (.lreturn, 1) := by decide +kernel
theorem pn_5 : plainName "com/example/tern/tern/store/HashIndex" = true := by first | (simp [plainName, overriddenIn]; done) | decide +kernel
theorem ef_5k0 (m : MethodId) (p0 : Addr) : entryFrame m #[(.ref p0)] 4 = mkF m 0 #[vR p0, .unset, .unset, .unset] [] := by first | (simp [entryFrame, mkF, argsToLocals, Value.category]; done) | rfl
def f_5k0  : Int64 := let v1_50 : Int64 := (((-3750763034362895579 : Int64) ^^^ (((-3750763034362895579 : Int64).toUInt64 >>> ((33 : Int32) &&& 0x3f).toInt64.toUInt64).toInt64)) * (-49064778989728563 : Int64)); let v1_61 : Int64 := ((v1_50 ^^^ ((v1_50.toUInt64 >>> ((33 : Int32) &&& 0x3f).toInt64.toUInt64).toInt64)) * (-4265267296055464877 : Int64)); (v1_61 ^^^ ((v1_61.toUInt64 >>> ((33 : Int32) &&& 0x3f).toInt64.toUInt64).toInt64))
def Q_5k0 (Z : State) (p0 : Addr)  (h0 : Heap) (n0 : Nat) (v : Option Value) (h : Heap) (L : List Loc) : Prop := v = some (.long (f_5k0 )) ∧ Fr n0 L ∧ h = h0
theorem rm_5k0 (l : Launch) (Z : State) (a0 : Array Value) (hw : ∀ d ∈ tables_1, d.before a0 Z = true) (ws : List Jvm.Cond) (p0 : Addr)  (h0 : Heap) (n0 : Nat) (Z0 : n0 ≤ h0.size) (A_p0 : own_A Z h0 p0 (.object "java/lang/String") 0 (fun i => (own_r0) i)) :
    MetFree l (⟨"com/example/tern/tern/store/HashIndex", "hash", "([Ljava/lang/String;)J"⟩ : MethodName) (head1 (Jvm.Cond.code (⟨"com/example/tern/tern/store/HashIndex", "hash", "([Ljava/lang/String;)J"⟩ : MethodName) prog_23_method_2_code 4 (some .long) :: ws) (⟨0, 0, 0, 0⟩ : Room)) (fun a U => a = #[(.ref p0)] ∧ Z.Warmed39 U.vm ∧ U.heap = h0) (fun _ _ _ _ _ => True) (fun _ U o U' => ∃ v L, o = .returned v ∧ Q_5k0 Z p0 h0 n0 v U'.heap L ∧ FrameEnd U o U' L 0 0) := by
  refine MetFree.of_bodySF (plainFor_of_name pn_5) hisR ?_
  intro p e s m args below meth c s₁ Bd hml0 hP hK
  obtain ⟨rfl, hZ, hh⟩ := hP
  have hx := Bd.exec
  have hby := Bd.bytes
  have hml : c.maxLocals = 4 := hml0
  have hown : s.vm.findClass "com/example/tern/tern/store/HashIndex" = some m.cls := findClass_of_methodNamed Bd.named
  have hnm := (name_of_methodNamed Bd.named Bd.method).1
  have X0 : Stand p l e (⟨0, 0, 0, 0⟩ : Room) s m #[(.ref p0)] below meth c s₁ [] 0 0 := Stand.of_body Bd
  have e0 : s₁.heap = h0 := by rw [← hh, Bd.state]; rfl
  have N0 := Fr.nil n0
  have K0 : Keep h0 h0 [] := Keep.refl h0 _
  have pre0 : ∀ t, SP p e below (s₁.setTop (mkF m 0 #[vR p0, .unset, .unset, .unset] [])) t → SP p e below (s₁.setTop (entryFrame m #[(.ref p0)] 4)) t := fun t k => castTop (ef_5k0 m p0) k
  obtain ⟨v1_50, hv1_50⟩ : ∃ z : Int64, z = (((-3750763034362895579 : Int64) ^^^ (((-3750763034362895579 : Int64).toUInt64 >>> ((33 : Int32) &&& 0x3f).toInt64.toUInt64).toInt64)) * (-49064778989728563 : Int64)) := ⟨_, rfl⟩
  obtain ⟨v1_61, hv1_61⟩ : ∃ z : Int64, z = ((v1_50 ^^^ ((v1_50.toUInt64 >>> ((33 : Int32) &&& 0x3f).toInt64.toUInt64).toInt64)) * (-4265267296055464877 : Int64)) := ⟨_, rfl⟩
  obtain ⟨fs, hr, hrun, hended, hW, hsame⟩ := X0.leave (v := some (.long (v1_61 ^^^ ((v1_61.toUInt64 >>> ((33 : Int32) &&& 0x3f).toInt64.toUInt64).toInt64)))) (fun h => by rw [Bd.returns] at h; cases h) (BodyLoose.notSynchronized Bd)
  refine ⟨_, _, pre0 _ ?_, hrun, hended, _, _, rfl, ?_, ⟨_, rfl⟩, hW, hsame.mono (by decide) (by decide)⟩
  · show SP p e below (s₁.setTop (mkF m 0 #[vR p0, .unset, .unset, .unset] [])) _
    refine X0.ldc2Long hx hown (mvT hZ (ow hw 33 rfl)) (g := (mkF m 0 #[vR p0, .unset, .unset, .unset] [])) rfl (hb hby d5_0) _ ?_
    show SP p e below (s₁.setTop (mkF m 3 #[vR p0, .unset, .unset, .unset] [(.long (-3750763034362895579 : Int64))])) _
    refine XS.lstoreN X0.here hx rfl (hb hby d5_3) rfl (l' := #[vR p0, vJ (-3750763034362895579 : Int64), .second, .unset]) rfl ?_
    show SP p e below (s₁.setTop (mkF m 4 #[vR p0, vJ (-3750763034362895579 : Int64), .second, .unset] [])) _
    refine XS.iconst X0.here hx rfl (hb hby d5_4) ?_
    show SP p e below (s₁.setTop (mkF m 5 #[vR p0, vJ (-3750763034362895579 : Int64), .second, .unset] [(.int (0 : Int32))])) _
    refine XS.istoreN X0.here hx rfl (hb hby d5_5) rfl (l' := #[vR p0, vJ (-3750763034362895579 : Int64), .second, vI (0 : Int32)]) rfl ?_
    show SP p e below (s₁.setTop (mkF m 6 #[vR p0, vJ (-3750763034362895579 : Int64), .second, vI (0 : Int32)] [])) _
    refine XS.iloadN X0.here hx rfl (hb hby d5_6) rfl  ?_
    show SP p e below (s₁.setTop (mkF m 7 #[vR p0, vJ (-3750763034362895579 : Int64), .second, vI (0 : Int32)] [(.int (0 : Int32))])) _
    refine XS.aloadN X0.here hx rfl (hb hby d5_7) rfl rfl ?_
    show SP p e below (s₁.setTop (mkF m 8 #[vR p0, vJ (-3750763034362895579 : Int64), .second, vI (0 : Int32)] [(.ref p0), (.int (0 : Int32))])) _
    refine own_len X0 hx hZ e0 A_p0 (z := (0 : Int32)) rfl (g := (mkF m 8 #[vR p0, vJ (-3750763034362895579 : Int64), .second, vI (0 : Int32)] [(.ref p0), (.int (0 : Int32))])) rfl rfl (hb hby d5_8) ?_
    show SP p e below (s₁.setTop (mkF m 9 #[vR p0, vJ (-3750763034362895579 : Int64), .second, vI (0 : Int32)] [(.int (0 : Int32)), (.int (0 : Int32))])) _
    refine XS.icmpYes X0.here hx rfl (pc0 := 9) (pc' := 40) rfl (hb hby d5_9) rfl (flt (by decide : ¬ ((0 : Int32) < (0 : Int32)))).2.1 (by decide) (by decide) ?_
    show SP p e below (s₁.setTop (mkF m 40 #[vR p0, vJ (-3750763034362895579 : Int64), .second, vI (0 : Int32)] [])) _
    refine XS.lloadN X0.here hx rfl (hb hby d5_40) rfl  ?_
    show SP p e below (s₁.setTop (mkF m 41 #[vR p0, vJ (-3750763034362895579 : Int64), .second, vI (0 : Int32)] [(.long (-3750763034362895579 : Int64))])) _
    refine XS.lloadN X0.here hx rfl (hb hby d5_41) rfl  ?_
    show SP p e below (s₁.setTop (mkF m 42 #[vR p0, vJ (-3750763034362895579 : Int64), .second, vI (0 : Int32)] [(.long (-3750763034362895579 : Int64)), (.long (-3750763034362895579 : Int64))])) _
    refine XS.bipush X0.here hx rfl (hb hby d5_42) ?_
    show SP p e below (s₁.setTop (mkF m 44 #[vR p0, vJ (-3750763034362895579 : Int64), .second, vI (0 : Int32)] [(.int (33 : Int32)), (.long (-3750763034362895579 : Int64)), (.long (-3750763034362895579 : Int64))])) _
    refine XS.lushr X0.here hx rfl (hb hby d5_44) rfl ?_
    show SP p e below (s₁.setTop (mkF m 45 #[vR p0, vJ (-3750763034362895579 : Int64), .second, vI (0 : Int32)] [(.long (((-3750763034362895579 : Int64).toUInt64 >>> ((33 : Int32) &&& 0x3f).toInt64.toUInt64).toInt64)), (.long (-3750763034362895579 : Int64))])) _
    refine XS.lxor X0.here hx rfl (hb hby d5_45) rfl ?_
    show SP p e below (s₁.setTop (mkF m 46 #[vR p0, vJ (-3750763034362895579 : Int64), .second, vI (0 : Int32)] [(.long ((-3750763034362895579 : Int64) ^^^ (((-3750763034362895579 : Int64).toUInt64 >>> ((33 : Int32) &&& 0x3f).toInt64.toUInt64).toInt64)))])) _
    refine X0.ldc2Long hx hown (mvT hZ (ow hw 34 rfl)) (g := (mkF m 46 #[vR p0, vJ (-3750763034362895579 : Int64), .second, vI (0 : Int32)] [(.long ((-3750763034362895579 : Int64) ^^^ (((-3750763034362895579 : Int64).toUInt64 >>> ((33 : Int32) &&& 0x3f).toInt64.toUInt64).toInt64)))])) rfl (hb hby d5_46) _ ?_
    show SP p e below (s₁.setTop (mkF m 49 #[vR p0, vJ (-3750763034362895579 : Int64), .second, vI (0 : Int32)] [(.long (-49064778989728563 : Int64)), (.long ((-3750763034362895579 : Int64) ^^^ (((-3750763034362895579 : Int64).toUInt64 >>> ((33 : Int32) &&& 0x3f).toInt64.toUInt64).toInt64)))])) _
    refine XS.lmul X0.here hx rfl (hb hby d5_49) rfl ?_
    show SP p e below (s₁.setTop (mkF m 50 #[vR p0, vJ (-3750763034362895579 : Int64), .second, vI (0 : Int32)] [(.long (((-3750763034362895579 : Int64) ^^^ (((-3750763034362895579 : Int64).toUInt64 >>> ((33 : Int32) &&& 0x3f).toInt64.toUInt64).toInt64)) * (-49064778989728563 : Int64)))])) _
    refine XS.lstoreN X0.here hx rfl (hb hby d5_50) rfl (l' := #[vR p0, vJ v1_50, .second, vI (0 : Int32)]) (by rw [hv1_50]; rfl) ?_
    show SP p e below (s₁.setTop (mkF m 51 #[vR p0, vJ v1_50, .second, vI (0 : Int32)] [])) _
    refine XS.lloadN X0.here hx rfl (hb hby d5_51) rfl  ?_
    show SP p e below (s₁.setTop (mkF m 52 #[vR p0, vJ v1_50, .second, vI (0 : Int32)] [(.long v1_50)])) _
    refine XS.lloadN X0.here hx rfl (hb hby d5_52) rfl  ?_
    show SP p e below (s₁.setTop (mkF m 53 #[vR p0, vJ v1_50, .second, vI (0 : Int32)] [(.long v1_50), (.long v1_50)])) _
    refine XS.bipush X0.here hx rfl (hb hby d5_53) ?_
    show SP p e below (s₁.setTop (mkF m 55 #[vR p0, vJ v1_50, .second, vI (0 : Int32)] [(.int (33 : Int32)), (.long v1_50), (.long v1_50)])) _
    refine XS.lushr X0.here hx rfl (hb hby d5_55) rfl ?_
    show SP p e below (s₁.setTop (mkF m 56 #[vR p0, vJ v1_50, .second, vI (0 : Int32)] [(.long ((v1_50.toUInt64 >>> ((33 : Int32) &&& 0x3f).toInt64.toUInt64).toInt64)), (.long v1_50)])) _
    refine XS.lxor X0.here hx rfl (hb hby d5_56) rfl ?_
    show SP p e below (s₁.setTop (mkF m 57 #[vR p0, vJ v1_50, .second, vI (0 : Int32)] [(.long (v1_50 ^^^ ((v1_50.toUInt64 >>> ((33 : Int32) &&& 0x3f).toInt64.toUInt64).toInt64)))])) _
    refine X0.ldc2Long hx hown (mvT hZ (ow hw 35 rfl)) (g := (mkF m 57 #[vR p0, vJ v1_50, .second, vI (0 : Int32)] [(.long (v1_50 ^^^ ((v1_50.toUInt64 >>> ((33 : Int32) &&& 0x3f).toInt64.toUInt64).toInt64)))])) rfl (hb hby d5_57) _ ?_
    show SP p e below (s₁.setTop (mkF m 60 #[vR p0, vJ v1_50, .second, vI (0 : Int32)] [(.long (-4265267296055464877 : Int64)), (.long (v1_50 ^^^ ((v1_50.toUInt64 >>> ((33 : Int32) &&& 0x3f).toInt64.toUInt64).toInt64)))])) _
    refine XS.lmul X0.here hx rfl (hb hby d5_60) rfl ?_
    show SP p e below (s₁.setTop (mkF m 61 #[vR p0, vJ v1_50, .second, vI (0 : Int32)] [(.long ((v1_50 ^^^ ((v1_50.toUInt64 >>> ((33 : Int32) &&& 0x3f).toInt64.toUInt64).toInt64)) * (-4265267296055464877 : Int64)))])) _
    refine XS.lstoreN X0.here hx rfl (hb hby d5_61) rfl (l' := #[vR p0, vJ v1_61, .second, vI (0 : Int32)]) (by rw [hv1_61]; rfl) ?_
    show SP p e below (s₁.setTop (mkF m 62 #[vR p0, vJ v1_61, .second, vI (0 : Int32)] [])) _
    refine XS.lloadN X0.here hx rfl (hb hby d5_62) rfl  ?_
    show SP p e below (s₁.setTop (mkF m 63 #[vR p0, vJ v1_61, .second, vI (0 : Int32)] [(.long v1_61)])) _
    refine XS.lloadN X0.here hx rfl (hb hby d5_63) rfl  ?_
    show SP p e below (s₁.setTop (mkF m 64 #[vR p0, vJ v1_61, .second, vI (0 : Int32)] [(.long v1_61), (.long v1_61)])) _
    refine XS.bipush X0.here hx rfl (hb hby d5_64) ?_
    show SP p e below (s₁.setTop (mkF m 66 #[vR p0, vJ v1_61, .second, vI (0 : Int32)] [(.int (33 : Int32)), (.long v1_61), (.long v1_61)])) _
    refine XS.lushr X0.here hx rfl (hb hby d5_66) rfl ?_
    show SP p e below (s₁.setTop (mkF m 67 #[vR p0, vJ v1_61, .second, vI (0 : Int32)] [(.long ((v1_61.toUInt64 >>> ((33 : Int32) &&& 0x3f).toInt64.toUInt64).toInt64)), (.long v1_61)])) _
    refine XS.lxor X0.here hx rfl (hb hby d5_67) rfl ?_
    show SP p e below (s₁.setTop (mkF m 68 #[vR p0, vJ v1_61, .second, vI (0 : Int32)] [(.long (v1_61 ^^^ ((v1_61.toUInt64 >>> ((33 : Int32) &&& 0x3f).toInt64.toUInt64).toInt64)))])) _
    exact retOut X0 hx Bd.returns rfl (Or.inr (Or.inl ⟨rfl, rfl, _, rfl⟩)) (hb hby d5_68) hr
  · show Q_5k0 Z p0 h0 n0 _ s₁.heap _
    rw [e0]
    exact ⟨congrArg (fun z => some (Value.long z)) (by subst hv1_50 hv1_61; rfl : (v1_61 ^^^ ((v1_61.toUInt64 >>> ((33 : Int32) &&& 0x3f).toInt64.toUInt64).toInt64)) = f_5k0 ), N0, rfl⟩
theorem pd_22 : parseMethodDescriptor "(JLjava/lang/String;)J" = some ⟨[.long, (.object "java/lang/String")], some .long⟩ := by decide +kernel
theorem d5_12 : decode prog_23_method_2_code 12 = .ok (.iload_n 3, 1) := by decide +kernel
theorem d5_13 : decode prog_23_method_2_code 13 = .ok (.ifCond .le 13, 3) := by decide +kernel
theorem d5_26 : decode prog_23_method_2_code 26 = .ok (.lload_n 1, 1) := by decide +kernel
theorem d5_27 : decode prog_23_method_2_code 27 = .ok (.aload_n 0, 1) := by decide +kernel
theorem d5_28 : decode prog_23_method_2_code 28 = .ok (.iload_n 3, 1) := by decide +kernel
theorem d5_29 : decode prog_23_method_2_code 29 = .ok (.aaload, 1) := by decide +kernel
theorem d5_30 : decode prog_23_method_2_code 30 = .ok (.invokestatic 22, 3) := by decide +kernel
theorem d5_33 : decode prog_23_method_2_code 33 = .ok (.lstore_n 1, 1) := by decide +kernel
theorem d5_34 : decode prog_23_method_2_code 34 = .ok (.iinc 3 1, 3) := by decide +kernel
theorem d5_37 : decode prog_23_method_2_code 37 = .ok (.goto (-31), 3) := by decide +kernel
theorem ef_5k1 (m : MethodId) (p0 : Addr) : entryFrame m #[(.ref p0)] 4 = mkF m 0 #[vR p0, .unset, .unset, .unset] [] := by first | (simp [entryFrame, mkF, argsToLocals, Value.category]; done) | rfl
def f_5k1 (c0_ : Int32) (n0_ : Nat) (x0_ : Nat → Int32) (cs_ : Int32) : Int64 := let v1_33 : Int64 := (f_16 (-3750763034362895579 : Int64) cs_ c0_ n0_ x0_); let v1_50 : Int64 := ((v1_33 ^^^ ((v1_33.toUInt64 >>> ((33 : Int32) &&& 0x3f).toInt64.toUInt64).toInt64)) * (-49064778989728563 : Int64)); let v1_61 : Int64 := ((v1_50 ^^^ ((v1_50.toUInt64 >>> ((33 : Int32) &&& 0x3f).toInt64.toUInt64).toInt64)) * (-4265267296055464877 : Int64)); (v1_61 ^^^ ((v1_61.toUInt64 >>> ((33 : Int32) &&& 0x3f).toInt64.toUInt64).toInt64))
def Q_5k1 (Z : State) (p0 : Addr) (s0_ : Addr) (v0_ : Addr) (c0_ : Int32) (n0_ : Nat) (x0_ : Nat → Int32) (cs_ : Int32) (fm_ : Value) (h0 : Heap) (n0 : Nat) (v : Option Value) (h : Heap) (L : List Loc) : Prop := v = some (.long (f_5k1 c0_ n0_ x0_ cs_)) ∧ Fr n0 L ∧ h = h0
theorem rm_5k1 (l : Launch) (Z : State) (a0 : Array Value) (hw : ∀ d ∈ tables_1, d.before a0 Z = true) (ws : List Jvm.Cond) (p0 : Addr) (s0_ : Addr) (v0_ : Addr) (c0_ : Int32) (n0_ : Nat) (x0_ : Nat → Int32) (cs_ : Int32) (fm_ : Value) (h0 : Heap) (n0 : Nat) (Z0 : n0 ≤ h0.size) (A_p0 : own_A Z h0 p0 (.object "java/lang/String") 1 (fun i => (own_r1 s0_) i)) (E_s0_ : Exa Z h0 s0_ "java/lang/String") (F_s0__value : Fld Z h0 s0_ "java/lang/String" "value" "[B" (.ref v0_)) (F_s0__coder : Fld Z h0 s0_ "java/lang/String" "coder" "B" (.int c0_)) (A_v0_ : own_A Z h0 v0_ .byte n0_ (fun i => .int (x0_ i))) (hk0_ : own_k c0_ n0_) (S_COMPACT_STRINGS : Sta Z h0 "java/lang/String" "COMPACT_STRINGS" "Z" (.int cs_)) (hcs : ¬ (cs_ = (0 : Int32))) (S_SIOOBE_FORMATTER : Sta Z h0 "jdk/internal/util/Preconditions" "SIOOBE_FORMATTER" "Ljava/util/function/BiFunction;" fm_) (hfm : fm_ = Value.null ∨ ∃ a, fm_ = Value.ref a) (S__assertionsDisabled : Sta Z h0 "java/lang/StringUTF16" "$assertionsDisabled" "Z" (.int (1 : Int32))) (S_HI_BYTE_SHIFT : Sta Z h0 "java/lang/StringUTF16" "HI_BYTE_SHIFT" "I" (.int (0 : Int32))) (S_LO_BYTE_SHIFT : Sta Z h0 "java/lang/StringUTF16" "LO_BYTE_SHIFT" "I" (.int (8 : Int32))) :
    MetFree l (⟨"com/example/tern/tern/store/HashIndex", "hash", "([Ljava/lang/String;)J"⟩ : MethodName) (head1 (Jvm.Cond.code (⟨"com/example/tern/tern/store/HashIndex", "hash", "([Ljava/lang/String;)J"⟩ : MethodName) prog_23_method_2_code 4 (some .long) :: ws) (⟨6, 0, 0, 85⟩ : Room)) (fun a U => a = #[(.ref p0)] ∧ Z.Warmed39 U.vm ∧ U.heap = h0) (fun _ _ _ _ _ => True) (fun _ U o U' => ∃ v L, o = .returned v ∧ Q_5k1 Z p0 s0_ v0_ c0_ n0_ x0_ cs_ fm_ h0 n0 v U'.heap L ∧ FrameEnd U o U' L 0 0) := by
  refine MetFree.of_bodySF (plainFor_of_name pn_5) hisR ?_
  intro p e s m args below meth c s₁ Bd hml0 hP hK
  obtain ⟨rfl, hZ, hh⟩ := hP
  have hx := Bd.exec
  have hby := Bd.bytes
  have hml : c.maxLocals = 4 := hml0
  have hown : s.vm.findClass "com/example/tern/tern/store/HashIndex" = some m.cls := findClass_of_methodNamed Bd.named
  have hnm := (name_of_methodNamed Bd.named Bd.method).1
  have X0 : Stand p l e (⟨6, 0, 0, 85⟩ : Room) s m #[(.ref p0)] below meth c s₁ [] 0 0 := Stand.of_body Bd
  have e0 : s₁.heap = h0 := by rw [← hh, Bd.state]; rfl
  have N0 := Fr.nil n0
  have K0 : Keep h0 h0 [] := Keep.refl h0 _
  have pre0 : ∀ t, SP p e below (s₁.setTop (mkF m 0 #[vR p0, .unset, .unset, .unset] [])) t → SP p e below (s₁.setTop (entryFrame m #[(.ref p0)] 4)) t := fun t k => castTop (ef_5k1 m p0) k
  have pre1 : ∀ t, SP p e below (s₁.setTop (mkF m 13 #[vR p0, vJ (-3750763034362895579 : Int64), .second, vI (0 : Int32)] [(.int (0 : Int32))])) t → SP p e below (s₁.setTop (entryFrame m #[(.ref p0)] 4)) t := by
    intro t k
    refine pre0 t ?_
    show SP p e below (s₁.setTop (mkF m 0 #[vR p0, .unset, .unset, .unset] [])) _
    refine X0.ldc2Long hx hown (mvT hZ (ow hw 33 rfl)) (g := (mkF m 0 #[vR p0, .unset, .unset, .unset] [])) rfl (hb hby d5_0) _ ?_
    show SP p e below (s₁.setTop (mkF m 3 #[vR p0, .unset, .unset, .unset] [(.long (-3750763034362895579 : Int64))])) _
    refine XS.lstoreN X0.here hx rfl (hb hby d5_3) rfl (l' := #[vR p0, vJ (-3750763034362895579 : Int64), .second, .unset]) rfl ?_
    show SP p e below (s₁.setTop (mkF m 4 #[vR p0, vJ (-3750763034362895579 : Int64), .second, .unset] [])) _
    refine XS.iconst X0.here hx rfl (hb hby d5_4) ?_
    show SP p e below (s₁.setTop (mkF m 5 #[vR p0, vJ (-3750763034362895579 : Int64), .second, .unset] [(.int (0 : Int32))])) _
    refine XS.istoreN X0.here hx rfl (hb hby d5_5) rfl (l' := #[vR p0, vJ (-3750763034362895579 : Int64), .second, vI (0 : Int32)]) rfl ?_
    show SP p e below (s₁.setTop (mkF m 6 #[vR p0, vJ (-3750763034362895579 : Int64), .second, vI (0 : Int32)] [])) _
    refine XS.iloadN X0.here hx rfl (hb hby d5_6) rfl  ?_
    show SP p e below (s₁.setTop (mkF m 7 #[vR p0, vJ (-3750763034362895579 : Int64), .second, vI (0 : Int32)] [(.int (0 : Int32))])) _
    refine XS.aloadN X0.here hx rfl (hb hby d5_7) rfl rfl ?_
    show SP p e below (s₁.setTop (mkF m 8 #[vR p0, vJ (-3750763034362895579 : Int64), .second, vI (0 : Int32)] [(.ref p0), (.int (0 : Int32))])) _
    refine own_len X0 hx hZ e0 A_p0 (z := (1 : Int32)) rfl (g := (mkF m 8 #[vR p0, vJ (-3750763034362895579 : Int64), .second, vI (0 : Int32)] [(.ref p0), (.int (0 : Int32))])) rfl rfl (hb hby d5_8) ?_
    show SP p e below (s₁.setTop (mkF m 9 #[vR p0, vJ (-3750763034362895579 : Int64), .second, vI (0 : Int32)] [(.int (1 : Int32)), (.int (0 : Int32))])) _
    refine XS.icmpNo X0.here hx rfl (hb hby d5_9) rfl (tlt (by decide : (0 : Int32) < (1 : Int32))).2.1 ?_
    show SP p e below (s₁.setTop (mkF m 12 #[vR p0, vJ (-3750763034362895579 : Int64), .second, vI (0 : Int32)] [])) _
    refine XS.iloadN X0.here hx rfl (hb hby d5_12) rfl  ?_
    exact k
  have pre2 : ∀ t, SP p e below (s₁.setTop (mkF m 26 #[vR p0, vJ (-3750763034362895579 : Int64), .second, vI (0 : Int32)] [])) t → SP p e below (s₁.setTop (entryFrame m #[(.ref p0)] 4)) t := by
    intro t k
    refine pre1 t ?_
    show SP p e below (s₁.setTop (mkF m 13 #[vR p0, vJ (-3750763034362895579 : Int64), .second, vI (0 : Int32)] [(.int (0 : Int32))])) _
    refine XS.ifYes X0.here hx rfl (pc0 := 13) (pc' := 26) rfl (hb hby d5_13) rfl ((if0 _ _).trans (flt (by decide : ¬ ((0 : Int32) < (0 : Int32)))).2.2.2) (by decide) (by decide) ?_
    exact k
  have pre4 : ∀ t, SP p e below (s₁.setTop (mkF m 30 #[vR p0, vJ (-3750763034362895579 : Int64), .second, vI (0 : Int32)] [(.ref s0_), (.long (-3750763034362895579 : Int64))])) t → SP p e below (s₁.setTop (entryFrame m #[(.ref p0)] 4)) t := by
    intro t k
    refine pre2 t ?_
    show SP p e below (s₁.setTop (mkF m 26 #[vR p0, vJ (-3750763034362895579 : Int64), .second, vI (0 : Int32)] [])) _
    refine XS.lloadN X0.here hx rfl (hb hby d5_26) rfl  ?_
    show SP p e below (s₁.setTop (mkF m 27 #[vR p0, vJ (-3750763034362895579 : Int64), .second, vI (0 : Int32)] [(.long (-3750763034362895579 : Int64))])) _
    refine XS.aloadN X0.here hx rfl (hb hby d5_27) rfl rfl ?_
    show SP p e below (s₁.setTop (mkF m 28 #[vR p0, vJ (-3750763034362895579 : Int64), .second, vI (0 : Int32)] [(.ref p0), (.long (-3750763034362895579 : Int64))])) _
    refine XS.iloadN X0.here hx rfl (hb hby d5_28) rfl  ?_
    show SP p e below (s₁.setTop (mkF m 29 #[vR p0, vJ (-3750763034362895579 : Int64), .second, vI (0 : Int32)] [(.int (0 : Int32)), (.ref p0), (.long (-3750763034362895579 : Int64))])) _
    refine own_ldR X0 hx hZ e0 A_p0 rfl (j := (0 : Int32)) (k := 0) (v := .ref s0_) rfl (by decide) (by decide) (by decide) (g := (mkF m 29 #[vR p0, vJ (-3750763034362895579 : Int64), .second, vI (0 : Int32)] [(.int (0 : Int32)), (.ref p0), (.long (-3750763034362895579 : Int64))])) rfl rfl (hb hby d5_29) ?_
    exact k
  obtain ⟨_, _, ⟨T3, L3, k3, n3⟩, -, X3, ⟨Lc3, hQ3, l3, y3, z3⟩, st3⟩ := Jvm.LawKit.callS X0 hx (y := (⟨"com/example/tern/tern/store/HashIndex", "hash", "(JLjava/lang/String;)J"⟩ : MethodName)) hown (mvT hZ (ow hw 73 rfl)) (mvT hZ (ow hw 74 rfl)) (mvT hZ (ow hw 31 rfl)) (mvT hZ (ow hw 75 rfl)) (by decide) (backOf (W := 0) (rm_16 l Z a0 hw [] (-3750763034362895579 : Int64) s0_ cs_ v0_ c0_ n0_ x0_ fm_ h0 n0 Z0 S_COMPACT_STRINGS hcs E_s0_ F_s0__value F_s0__coder A_v0_ S_SIOOBE_FORMATTER hfm S__assertionsDisabled S_HI_BYTE_SHIFT S_LO_BYTE_SHIFT hk0_) hZ (ow hw 75 rfl) (ow hw 31 rfl) (by decide) (by decide)) (g := (mkF m 30 #[vR p0, vJ (-3750763034362895579 : Int64), .second, vI (0 : Int32)] [(.ref s0_), (.long (-3750763034362895579 : Int64))])) rfl (by rw [hml]; rfl) (argsL := [(.long (-3750763034362895579 : Int64)), (.ref s0_)]) (rest := []) (lenOf pd_22 rfl) rfl own_le0 (hb hby d5_30) (fun _ _ => ⟨rfl, e0, (by decide : 0 + 0 ≤ _), (by decide : 0 + 0 ≤ _)⟩)
  dsimp only [Pt.U, Pt.locs, Pt.cells, Pt.slots] at X3 l3 y3 z3 st3 hQ3
  rw [l3, y3, z3] at X3
  obtain ⟨rfl, N3q, e3⟩ := hQ3
  have N3 := Fr.app N0 N3q
  obtain ⟨v1_33, hv1_33⟩ : ∃ z : Int64, z = (f_16 (-3750763034362895579 : Int64) cs_ c0_ n0_ x0_) := ⟨_, rfl⟩
  obtain ⟨v1_50, hv1_50⟩ : ∃ z : Int64, z = ((v1_33 ^^^ ((v1_33.toUInt64 >>> ((33 : Int32) &&& 0x3f).toInt64.toUInt64).toInt64)) * (-49064778989728563 : Int64)) := ⟨_, rfl⟩
  obtain ⟨v1_61, hv1_61⟩ : ∃ z : Int64, z = ((v1_50 ^^^ ((v1_50.toUInt64 >>> ((33 : Int32) &&& 0x3f).toInt64.toUInt64).toInt64)) * (-4265267296055464877 : Int64)) := ⟨_, rfl⟩
  obtain ⟨fs, hr, hrun, hended, hW, hsame⟩ := X3.leave (v := some (.long (v1_61 ^^^ ((v1_61.toUInt64 >>> ((33 : Int32) &&& 0x3f).toInt64.toUInt64).toInt64)))) (fun h => by rw [Bd.returns] at h; cases h) (BodyLoose.notSynchronized Bd)
  refine ⟨_, _, pre4 _ ?_, hrun, hended, _, _, rfl, ?_, ⟨_, rfl⟩, hW, hsame.mono (by decide) (by decide)⟩
  · show SP p e below (s₁.setTop (mkF m 30 #[vR p0, vJ (-3750763034362895579 : Int64), .second, vI (0 : Int32)] [(.ref s0_), (.long (-3750763034362895579 : Int64))])) _
    refine st3 _ ?_
    show SP p e below (T3.setTop (mkF m 33 #[vR p0, vJ (-3750763034362895579 : Int64), .second, vI (0 : Int32)] [(.long (f_16 (-3750763034362895579 : Int64) cs_ c0_ n0_ x0_))])) _
    refine XS.lstoreN X3.here hx rfl (hb hby d5_33) rfl (l' := #[vR p0, vJ v1_33, .second, vI (0 : Int32)]) (by rw [hv1_33]; rfl) ?_
    show SP p e below (T3.setTop (mkF m 34 #[vR p0, vJ v1_33, .second, vI (0 : Int32)] [])) _
    refine XS.iinc X3.here hx rfl (hb hby d5_34) rfl (l' := #[vR p0, vJ v1_33, .second, vI (1 : Int32)]) rfl ?_
    show SP p e below (T3.setTop (mkF m 37 #[vR p0, vJ v1_33, .second, vI (1 : Int32)] [])) _
    refine XS.goto X3.here hx rfl (pc0 := 37) (pc' := 6) rfl (hb hby d5_37) (by decide) (by decide) ?_
    show SP p e below (T3.setTop (mkF m 6 #[vR p0, vJ v1_33, .second, vI (1 : Int32)] [])) _
    refine XS.iloadN X3.here hx rfl (hb hby d5_6) rfl  ?_
    show SP p e below (T3.setTop (mkF m 7 #[vR p0, vJ v1_33, .second, vI (1 : Int32)] [(.int (1 : Int32))])) _
    refine XS.aloadN X3.here hx rfl (hb hby d5_7) rfl rfl ?_
    show SP p e below (T3.setTop (mkF m 8 #[vR p0, vJ v1_33, .second, vI (1 : Int32)] [(.ref p0), (.int (1 : Int32))])) _
    refine own_len X3 hx hZ e3 A_p0 (z := (1 : Int32)) rfl (g := (mkF m 8 #[vR p0, vJ v1_33, .second, vI (1 : Int32)] [(.ref p0), (.int (1 : Int32))])) rfl rfl (hb hby d5_8) ?_
    show SP p e below (T3.setTop (mkF m 9 #[vR p0, vJ v1_33, .second, vI (1 : Int32)] [(.int (1 : Int32)), (.int (1 : Int32))])) _
    refine XS.icmpYes X3.here hx rfl (pc0 := 9) (pc' := 40) rfl (hb hby d5_9) rfl (flt (by decide : ¬ ((1 : Int32) < (1 : Int32)))).2.1 (by decide) (by decide) ?_
    show SP p e below (T3.setTop (mkF m 40 #[vR p0, vJ v1_33, .second, vI (1 : Int32)] [])) _
    refine XS.lloadN X3.here hx rfl (hb hby d5_40) rfl  ?_
    show SP p e below (T3.setTop (mkF m 41 #[vR p0, vJ v1_33, .second, vI (1 : Int32)] [(.long v1_33)])) _
    refine XS.lloadN X3.here hx rfl (hb hby d5_41) rfl  ?_
    show SP p e below (T3.setTop (mkF m 42 #[vR p0, vJ v1_33, .second, vI (1 : Int32)] [(.long v1_33), (.long v1_33)])) _
    refine XS.bipush X3.here hx rfl (hb hby d5_42) ?_
    show SP p e below (T3.setTop (mkF m 44 #[vR p0, vJ v1_33, .second, vI (1 : Int32)] [(.int (33 : Int32)), (.long v1_33), (.long v1_33)])) _
    refine XS.lushr X3.here hx rfl (hb hby d5_44) rfl ?_
    show SP p e below (T3.setTop (mkF m 45 #[vR p0, vJ v1_33, .second, vI (1 : Int32)] [(.long ((v1_33.toUInt64 >>> ((33 : Int32) &&& 0x3f).toInt64.toUInt64).toInt64)), (.long v1_33)])) _
    refine XS.lxor X3.here hx rfl (hb hby d5_45) rfl ?_
    show SP p e below (T3.setTop (mkF m 46 #[vR p0, vJ v1_33, .second, vI (1 : Int32)] [(.long (v1_33 ^^^ ((v1_33.toUInt64 >>> ((33 : Int32) &&& 0x3f).toInt64.toUInt64).toInt64)))])) _
    refine X3.ldc2Long hx hown (mvT hZ (ow hw 34 rfl)) (g := (mkF m 46 #[vR p0, vJ v1_33, .second, vI (1 : Int32)] [(.long (v1_33 ^^^ ((v1_33.toUInt64 >>> ((33 : Int32) &&& 0x3f).toInt64.toUInt64).toInt64)))])) rfl (hb hby d5_46) _ ?_
    show SP p e below (T3.setTop (mkF m 49 #[vR p0, vJ v1_33, .second, vI (1 : Int32)] [(.long (-49064778989728563 : Int64)), (.long (v1_33 ^^^ ((v1_33.toUInt64 >>> ((33 : Int32) &&& 0x3f).toInt64.toUInt64).toInt64)))])) _
    refine XS.lmul X3.here hx rfl (hb hby d5_49) rfl ?_
    show SP p e below (T3.setTop (mkF m 50 #[vR p0, vJ v1_33, .second, vI (1 : Int32)] [(.long ((v1_33 ^^^ ((v1_33.toUInt64 >>> ((33 : Int32) &&& 0x3f).toInt64.toUInt64).toInt64)) * (-49064778989728563 : Int64)))])) _
    refine XS.lstoreN X3.here hx rfl (hb hby d5_50) rfl (l' := #[vR p0, vJ v1_50, .second, vI (1 : Int32)]) (by rw [hv1_50]; rfl) ?_
    show SP p e below (T3.setTop (mkF m 51 #[vR p0, vJ v1_50, .second, vI (1 : Int32)] [])) _
    refine XS.lloadN X3.here hx rfl (hb hby d5_51) rfl  ?_
    show SP p e below (T3.setTop (mkF m 52 #[vR p0, vJ v1_50, .second, vI (1 : Int32)] [(.long v1_50)])) _
    refine XS.lloadN X3.here hx rfl (hb hby d5_52) rfl  ?_
    show SP p e below (T3.setTop (mkF m 53 #[vR p0, vJ v1_50, .second, vI (1 : Int32)] [(.long v1_50), (.long v1_50)])) _
    refine XS.bipush X3.here hx rfl (hb hby d5_53) ?_
    show SP p e below (T3.setTop (mkF m 55 #[vR p0, vJ v1_50, .second, vI (1 : Int32)] [(.int (33 : Int32)), (.long v1_50), (.long v1_50)])) _
    refine XS.lushr X3.here hx rfl (hb hby d5_55) rfl ?_
    show SP p e below (T3.setTop (mkF m 56 #[vR p0, vJ v1_50, .second, vI (1 : Int32)] [(.long ((v1_50.toUInt64 >>> ((33 : Int32) &&& 0x3f).toInt64.toUInt64).toInt64)), (.long v1_50)])) _
    refine XS.lxor X3.here hx rfl (hb hby d5_56) rfl ?_
    show SP p e below (T3.setTop (mkF m 57 #[vR p0, vJ v1_50, .second, vI (1 : Int32)] [(.long (v1_50 ^^^ ((v1_50.toUInt64 >>> ((33 : Int32) &&& 0x3f).toInt64.toUInt64).toInt64)))])) _
    refine X3.ldc2Long hx hown (mvT hZ (ow hw 35 rfl)) (g := (mkF m 57 #[vR p0, vJ v1_50, .second, vI (1 : Int32)] [(.long (v1_50 ^^^ ((v1_50.toUInt64 >>> ((33 : Int32) &&& 0x3f).toInt64.toUInt64).toInt64)))])) rfl (hb hby d5_57) _ ?_
    show SP p e below (T3.setTop (mkF m 60 #[vR p0, vJ v1_50, .second, vI (1 : Int32)] [(.long (-4265267296055464877 : Int64)), (.long (v1_50 ^^^ ((v1_50.toUInt64 >>> ((33 : Int32) &&& 0x3f).toInt64.toUInt64).toInt64)))])) _
    refine XS.lmul X3.here hx rfl (hb hby d5_60) rfl ?_
    show SP p e below (T3.setTop (mkF m 61 #[vR p0, vJ v1_50, .second, vI (1 : Int32)] [(.long ((v1_50 ^^^ ((v1_50.toUInt64 >>> ((33 : Int32) &&& 0x3f).toInt64.toUInt64).toInt64)) * (-4265267296055464877 : Int64)))])) _
    refine XS.lstoreN X3.here hx rfl (hb hby d5_61) rfl (l' := #[vR p0, vJ v1_61, .second, vI (1 : Int32)]) (by rw [hv1_61]; rfl) ?_
    show SP p e below (T3.setTop (mkF m 62 #[vR p0, vJ v1_61, .second, vI (1 : Int32)] [])) _
    refine XS.lloadN X3.here hx rfl (hb hby d5_62) rfl  ?_
    show SP p e below (T3.setTop (mkF m 63 #[vR p0, vJ v1_61, .second, vI (1 : Int32)] [(.long v1_61)])) _
    refine XS.lloadN X3.here hx rfl (hb hby d5_63) rfl  ?_
    show SP p e below (T3.setTop (mkF m 64 #[vR p0, vJ v1_61, .second, vI (1 : Int32)] [(.long v1_61), (.long v1_61)])) _
    refine XS.bipush X3.here hx rfl (hb hby d5_64) ?_
    show SP p e below (T3.setTop (mkF m 66 #[vR p0, vJ v1_61, .second, vI (1 : Int32)] [(.int (33 : Int32)), (.long v1_61), (.long v1_61)])) _
    refine XS.lushr X3.here hx rfl (hb hby d5_66) rfl ?_
    show SP p e below (T3.setTop (mkF m 67 #[vR p0, vJ v1_61, .second, vI (1 : Int32)] [(.long ((v1_61.toUInt64 >>> ((33 : Int32) &&& 0x3f).toInt64.toUInt64).toInt64)), (.long v1_61)])) _
    refine XS.lxor X3.here hx rfl (hb hby d5_67) rfl ?_
    show SP p e below (T3.setTop (mkF m 68 #[vR p0, vJ v1_61, .second, vI (1 : Int32)] [(.long (v1_61 ^^^ ((v1_61.toUInt64 >>> ((33 : Int32) &&& 0x3f).toInt64.toUInt64).toInt64)))])) _
    exact retOut X3 hx Bd.returns rfl (Or.inr (Or.inl ⟨rfl, rfl, _, rfl⟩)) (hb hby d5_68) hr
  · show Q_5k1 Z p0 s0_ v0_ c0_ n0_ x0_ cs_ fm_ h0 n0 _ T3.heap _
    rw [e3]
    exact ⟨congrArg (fun z => some (Value.long z)) (by subst hv1_33 hv1_50 hv1_61; rfl : (v1_61 ^^^ ((v1_61.toUInt64 >>> ((33 : Int32) &&& 0x3f).toInt64.toUInt64).toInt64)) = f_5k1 c0_ n0_ x0_ cs_), N3, rfl⟩
theorem d5_16 : decode prog_23_method_2_code 16 = .ok (.lload_n 1, 1) := by decide +kernel
theorem d5_17 : decode prog_23_method_2_code 17 = .ok (.ldc2_w 18, 3) := by decide +kernel
theorem d5_20 : decode prog_23_method_2_code 20 = .ok (.lxor, 1) := by decide +kernel
theorem d5_21 : decode prog_23_method_2_code 21 = .ok (.ldc2_w 20, 3) := by decide +kernel
theorem d5_24 : decode prog_23_method_2_code 24 = .ok (.lmul, 1) := by decide +kernel
theorem d5_25 : decode prog_23_method_2_code 25 = .ok (.lstore_n 1, 1) := by decide +kernel
theorem ef_5k2 (m : MethodId) (p0 : Addr) : entryFrame m #[(.ref p0)] 4 = mkF m 0 #[vR p0, .unset, .unset, .unset] [] := by first | (simp [entryFrame, mkF, argsToLocals, Value.category]; done) | rfl
def f_5k2 (c0_ : Int32) (n0_ : Nat) (x0_ : Nat → Int32) (c1_ : Int32) (n1_ : Nat) (x1_ : Nat → Int32) (cs_ : Int32) : Int64 := let v1_33 : Int64 := (f_16 (-3750763034362895579 : Int64) cs_ c0_ n0_ x0_); let v1_33_9 : Int64 := (f_16 ((v1_33 ^^^ (65535 : Int64)) * (1099511628211 : Int64)) cs_ c1_ n1_ x1_); let v1_50 : Int64 := ((v1_33_9 ^^^ ((v1_33_9.toUInt64 >>> ((33 : Int32) &&& 0x3f).toInt64.toUInt64).toInt64)) * (-49064778989728563 : Int64)); let v1_61 : Int64 := ((v1_50 ^^^ ((v1_50.toUInt64 >>> ((33 : Int32) &&& 0x3f).toInt64.toUInt64).toInt64)) * (-4265267296055464877 : Int64)); (v1_61 ^^^ ((v1_61.toUInt64 >>> ((33 : Int32) &&& 0x3f).toInt64.toUInt64).toInt64))
def Q_5k2 (Z : State) (p0 : Addr) (s0_ : Addr) (s1_ : Addr) (v0_ : Addr) (c0_ : Int32) (n0_ : Nat) (x0_ : Nat → Int32) (v1_ : Addr) (c1_ : Int32) (n1_ : Nat) (x1_ : Nat → Int32) (cs_ : Int32) (fm_ : Value) (h0 : Heap) (n0 : Nat) (v : Option Value) (h : Heap) (L : List Loc) : Prop := v = some (.long (f_5k2 c0_ n0_ x0_ c1_ n1_ x1_ cs_)) ∧ Fr n0 L ∧ h = h0
theorem rm_5k2 (l : Launch) (Z : State) (a0 : Array Value) (hw : ∀ d ∈ tables_1, d.before a0 Z = true) (ws : List Jvm.Cond) (p0 : Addr) (s0_ : Addr) (s1_ : Addr) (v0_ : Addr) (c0_ : Int32) (n0_ : Nat) (x0_ : Nat → Int32) (v1_ : Addr) (c1_ : Int32) (n1_ : Nat) (x1_ : Nat → Int32) (cs_ : Int32) (fm_ : Value) (h0 : Heap) (n0 : Nat) (Z0 : n0 ≤ h0.size) (A_p0 : own_A Z h0 p0 (.object "java/lang/String") 2 (fun i => (own_r2 s0_ s1_) i)) (E_s0_ : Exa Z h0 s0_ "java/lang/String") (F_s0__value : Fld Z h0 s0_ "java/lang/String" "value" "[B" (.ref v0_)) (F_s0__coder : Fld Z h0 s0_ "java/lang/String" "coder" "B" (.int c0_)) (A_v0_ : own_A Z h0 v0_ .byte n0_ (fun i => .int (x0_ i))) (hk0_ : own_k c0_ n0_) (E_s1_ : Exa Z h0 s1_ "java/lang/String") (F_s1__value : Fld Z h0 s1_ "java/lang/String" "value" "[B" (.ref v1_)) (F_s1__coder : Fld Z h0 s1_ "java/lang/String" "coder" "B" (.int c1_)) (A_v1_ : own_A Z h0 v1_ .byte n1_ (fun i => .int (x1_ i))) (hk1_ : own_k c1_ n1_) (S_COMPACT_STRINGS : Sta Z h0 "java/lang/String" "COMPACT_STRINGS" "Z" (.int cs_)) (hcs : ¬ (cs_ = (0 : Int32))) (S_SIOOBE_FORMATTER : Sta Z h0 "jdk/internal/util/Preconditions" "SIOOBE_FORMATTER" "Ljava/util/function/BiFunction;" fm_) (hfm : fm_ = Value.null ∨ ∃ a, fm_ = Value.ref a) (S__assertionsDisabled : Sta Z h0 "java/lang/StringUTF16" "$assertionsDisabled" "Z" (.int (1 : Int32))) (S_HI_BYTE_SHIFT : Sta Z h0 "java/lang/StringUTF16" "HI_BYTE_SHIFT" "I" (.int (0 : Int32))) (S_LO_BYTE_SHIFT : Sta Z h0 "java/lang/StringUTF16" "LO_BYTE_SHIFT" "I" (.int (8 : Int32))) :
    MetFree l (⟨"com/example/tern/tern/store/HashIndex", "hash", "([Ljava/lang/String;)J"⟩ : MethodName) (head1 (Jvm.Cond.code (⟨"com/example/tern/tern/store/HashIndex", "hash", "([Ljava/lang/String;)J"⟩ : MethodName) prog_23_method_2_code 4 (some .long) :: ws) (⟨6, 0, 0, 85⟩ : Room)) (fun a U => a = #[(.ref p0)] ∧ Z.Warmed39 U.vm ∧ U.heap = h0) (fun _ _ _ _ _ => True) (fun _ U o U' => ∃ v L, o = .returned v ∧ Q_5k2 Z p0 s0_ s1_ v0_ c0_ n0_ x0_ v1_ c1_ n1_ x1_ cs_ fm_ h0 n0 v U'.heap L ∧ FrameEnd U o U' L 0 0) := by
  refine MetFree.of_bodySF (plainFor_of_name pn_5) hisR ?_
  intro p e s m args below meth c s₁ Bd hml0 hP hK
  obtain ⟨rfl, hZ, hh⟩ := hP
  have hx := Bd.exec
  have hby := Bd.bytes
  have hml : c.maxLocals = 4 := hml0
  have hown : s.vm.findClass "com/example/tern/tern/store/HashIndex" = some m.cls := findClass_of_methodNamed Bd.named
  have hnm := (name_of_methodNamed Bd.named Bd.method).1
  have X0 : Stand p l e (⟨6, 0, 0, 85⟩ : Room) s m #[(.ref p0)] below meth c s₁ [] 0 0 := Stand.of_body Bd
  have e0 : s₁.heap = h0 := by rw [← hh, Bd.state]; rfl
  have N0 := Fr.nil n0
  have K0 : Keep h0 h0 [] := Keep.refl h0 _
  have pre0 : ∀ t, SP p e below (s₁.setTop (mkF m 0 #[vR p0, .unset, .unset, .unset] [])) t → SP p e below (s₁.setTop (entryFrame m #[(.ref p0)] 4)) t := fun t k => castTop (ef_5k2 m p0) k
  have pre1 : ∀ t, SP p e below (s₁.setTop (mkF m 13 #[vR p0, vJ (-3750763034362895579 : Int64), .second, vI (0 : Int32)] [(.int (0 : Int32))])) t → SP p e below (s₁.setTop (entryFrame m #[(.ref p0)] 4)) t := by
    intro t k
    refine pre0 t ?_
    show SP p e below (s₁.setTop (mkF m 0 #[vR p0, .unset, .unset, .unset] [])) _
    refine X0.ldc2Long hx hown (mvT hZ (ow hw 33 rfl)) (g := (mkF m 0 #[vR p0, .unset, .unset, .unset] [])) rfl (hb hby d5_0) _ ?_
    show SP p e below (s₁.setTop (mkF m 3 #[vR p0, .unset, .unset, .unset] [(.long (-3750763034362895579 : Int64))])) _
    refine XS.lstoreN X0.here hx rfl (hb hby d5_3) rfl (l' := #[vR p0, vJ (-3750763034362895579 : Int64), .second, .unset]) rfl ?_
    show SP p e below (s₁.setTop (mkF m 4 #[vR p0, vJ (-3750763034362895579 : Int64), .second, .unset] [])) _
    refine XS.iconst X0.here hx rfl (hb hby d5_4) ?_
    show SP p e below (s₁.setTop (mkF m 5 #[vR p0, vJ (-3750763034362895579 : Int64), .second, .unset] [(.int (0 : Int32))])) _
    refine XS.istoreN X0.here hx rfl (hb hby d5_5) rfl (l' := #[vR p0, vJ (-3750763034362895579 : Int64), .second, vI (0 : Int32)]) rfl ?_
    show SP p e below (s₁.setTop (mkF m 6 #[vR p0, vJ (-3750763034362895579 : Int64), .second, vI (0 : Int32)] [])) _
    refine XS.iloadN X0.here hx rfl (hb hby d5_6) rfl  ?_
    show SP p e below (s₁.setTop (mkF m 7 #[vR p0, vJ (-3750763034362895579 : Int64), .second, vI (0 : Int32)] [(.int (0 : Int32))])) _
    refine XS.aloadN X0.here hx rfl (hb hby d5_7) rfl rfl ?_
    show SP p e below (s₁.setTop (mkF m 8 #[vR p0, vJ (-3750763034362895579 : Int64), .second, vI (0 : Int32)] [(.ref p0), (.int (0 : Int32))])) _
    refine own_len X0 hx hZ e0 A_p0 (z := (2 : Int32)) rfl (g := (mkF m 8 #[vR p0, vJ (-3750763034362895579 : Int64), .second, vI (0 : Int32)] [(.ref p0), (.int (0 : Int32))])) rfl rfl (hb hby d5_8) ?_
    show SP p e below (s₁.setTop (mkF m 9 #[vR p0, vJ (-3750763034362895579 : Int64), .second, vI (0 : Int32)] [(.int (2 : Int32)), (.int (0 : Int32))])) _
    refine XS.icmpNo X0.here hx rfl (hb hby d5_9) rfl (tlt (by decide : (0 : Int32) < (2 : Int32))).2.1 ?_
    show SP p e below (s₁.setTop (mkF m 12 #[vR p0, vJ (-3750763034362895579 : Int64), .second, vI (0 : Int32)] [])) _
    refine XS.iloadN X0.here hx rfl (hb hby d5_12) rfl  ?_
    exact k
  have pre2 : ∀ t, SP p e below (s₁.setTop (mkF m 26 #[vR p0, vJ (-3750763034362895579 : Int64), .second, vI (0 : Int32)] [])) t → SP p e below (s₁.setTop (entryFrame m #[(.ref p0)] 4)) t := by
    intro t k
    refine pre1 t ?_
    show SP p e below (s₁.setTop (mkF m 13 #[vR p0, vJ (-3750763034362895579 : Int64), .second, vI (0 : Int32)] [(.int (0 : Int32))])) _
    refine XS.ifYes X0.here hx rfl (pc0 := 13) (pc' := 26) rfl (hb hby d5_13) rfl ((if0 _ _).trans (flt (by decide : ¬ ((0 : Int32) < (0 : Int32)))).2.2.2) (by decide) (by decide) ?_
    exact k
  have pre4 : ∀ t, SP p e below (s₁.setTop (mkF m 30 #[vR p0, vJ (-3750763034362895579 : Int64), .second, vI (0 : Int32)] [(.ref s0_), (.long (-3750763034362895579 : Int64))])) t → SP p e below (s₁.setTop (entryFrame m #[(.ref p0)] 4)) t := by
    intro t k
    refine pre2 t ?_
    show SP p e below (s₁.setTop (mkF m 26 #[vR p0, vJ (-3750763034362895579 : Int64), .second, vI (0 : Int32)] [])) _
    refine XS.lloadN X0.here hx rfl (hb hby d5_26) rfl  ?_
    show SP p e below (s₁.setTop (mkF m 27 #[vR p0, vJ (-3750763034362895579 : Int64), .second, vI (0 : Int32)] [(.long (-3750763034362895579 : Int64))])) _
    refine XS.aloadN X0.here hx rfl (hb hby d5_27) rfl rfl ?_
    show SP p e below (s₁.setTop (mkF m 28 #[vR p0, vJ (-3750763034362895579 : Int64), .second, vI (0 : Int32)] [(.ref p0), (.long (-3750763034362895579 : Int64))])) _
    refine XS.iloadN X0.here hx rfl (hb hby d5_28) rfl  ?_
    show SP p e below (s₁.setTop (mkF m 29 #[vR p0, vJ (-3750763034362895579 : Int64), .second, vI (0 : Int32)] [(.int (0 : Int32)), (.ref p0), (.long (-3750763034362895579 : Int64))])) _
    refine own_ldR X0 hx hZ e0 A_p0 rfl (j := (0 : Int32)) (k := 0) (v := .ref s0_) rfl (by decide) (by decide) (by decide) (g := (mkF m 29 #[vR p0, vJ (-3750763034362895579 : Int64), .second, vI (0 : Int32)] [(.int (0 : Int32)), (.ref p0), (.long (-3750763034362895579 : Int64))])) rfl rfl (hb hby d5_29) ?_
    exact k
  obtain ⟨_, _, ⟨T3, L3, k3, n3⟩, -, X3, ⟨Lc3, hQ3, l3, y3, z3⟩, st3⟩ := Jvm.LawKit.callS X0 hx (y := (⟨"com/example/tern/tern/store/HashIndex", "hash", "(JLjava/lang/String;)J"⟩ : MethodName)) hown (mvT hZ (ow hw 73 rfl)) (mvT hZ (ow hw 74 rfl)) (mvT hZ (ow hw 31 rfl)) (mvT hZ (ow hw 75 rfl)) (by decide) (backOf (W := 0) (rm_16 l Z a0 hw [] (-3750763034362895579 : Int64) s0_ cs_ v0_ c0_ n0_ x0_ fm_ h0 n0 Z0 S_COMPACT_STRINGS hcs E_s0_ F_s0__value F_s0__coder A_v0_ S_SIOOBE_FORMATTER hfm S__assertionsDisabled S_HI_BYTE_SHIFT S_LO_BYTE_SHIFT hk0_) hZ (ow hw 75 rfl) (ow hw 31 rfl) (by decide) (by decide)) (g := (mkF m 30 #[vR p0, vJ (-3750763034362895579 : Int64), .second, vI (0 : Int32)] [(.ref s0_), (.long (-3750763034362895579 : Int64))])) rfl (by rw [hml]; rfl) (argsL := [(.long (-3750763034362895579 : Int64)), (.ref s0_)]) (rest := []) (lenOf pd_22 rfl) rfl own_le0 (hb hby d5_30) (fun _ _ => ⟨rfl, e0, (by decide : 0 + 0 ≤ _), (by decide : 0 + 0 ≤ _)⟩)
  dsimp only [Pt.U, Pt.locs, Pt.cells, Pt.slots] at X3 l3 y3 z3 st3 hQ3
  rw [l3, y3, z3] at X3
  obtain ⟨rfl, N3q, e3⟩ := hQ3
  have N3 := Fr.app N0 N3q
  obtain ⟨v1_33, hv1_33⟩ : ∃ z : Int64, z = (f_16 (-3750763034362895579 : Int64) cs_ c0_ n0_ x0_) := ⟨_, rfl⟩
  have pre5 : ∀ t, SP p e below (T3.setTop (mkF m 13 #[vR p0, vJ v1_33, .second, vI (1 : Int32)] [(.int (1 : Int32))])) t → SP p e below (s₁.setTop (entryFrame m #[(.ref p0)] 4)) t := by
    intro t k
    refine pre4 t ?_
    show SP p e below (s₁.setTop (mkF m 30 #[vR p0, vJ (-3750763034362895579 : Int64), .second, vI (0 : Int32)] [(.ref s0_), (.long (-3750763034362895579 : Int64))])) _
    refine st3 _ ?_
    show SP p e below (T3.setTop (mkF m 33 #[vR p0, vJ (-3750763034362895579 : Int64), .second, vI (0 : Int32)] [(.long (f_16 (-3750763034362895579 : Int64) cs_ c0_ n0_ x0_))])) _
    refine XS.lstoreN X3.here hx rfl (hb hby d5_33) rfl (l' := #[vR p0, vJ v1_33, .second, vI (0 : Int32)]) (by rw [hv1_33]; rfl) ?_
    show SP p e below (T3.setTop (mkF m 34 #[vR p0, vJ v1_33, .second, vI (0 : Int32)] [])) _
    refine XS.iinc X3.here hx rfl (hb hby d5_34) rfl (l' := #[vR p0, vJ v1_33, .second, vI (1 : Int32)]) rfl ?_
    show SP p e below (T3.setTop (mkF m 37 #[vR p0, vJ v1_33, .second, vI (1 : Int32)] [])) _
    refine XS.goto X3.here hx rfl (pc0 := 37) (pc' := 6) rfl (hb hby d5_37) (by decide) (by decide) ?_
    show SP p e below (T3.setTop (mkF m 6 #[vR p0, vJ v1_33, .second, vI (1 : Int32)] [])) _
    refine XS.iloadN X3.here hx rfl (hb hby d5_6) rfl  ?_
    show SP p e below (T3.setTop (mkF m 7 #[vR p0, vJ v1_33, .second, vI (1 : Int32)] [(.int (1 : Int32))])) _
    refine XS.aloadN X3.here hx rfl (hb hby d5_7) rfl rfl ?_
    show SP p e below (T3.setTop (mkF m 8 #[vR p0, vJ v1_33, .second, vI (1 : Int32)] [(.ref p0), (.int (1 : Int32))])) _
    refine own_len X3 hx hZ e3 A_p0 (z := (2 : Int32)) rfl (g := (mkF m 8 #[vR p0, vJ v1_33, .second, vI (1 : Int32)] [(.ref p0), (.int (1 : Int32))])) rfl rfl (hb hby d5_8) ?_
    show SP p e below (T3.setTop (mkF m 9 #[vR p0, vJ v1_33, .second, vI (1 : Int32)] [(.int (2 : Int32)), (.int (1 : Int32))])) _
    refine XS.icmpNo X3.here hx rfl (hb hby d5_9) rfl (tlt (by decide : (1 : Int32) < (2 : Int32))).2.1 ?_
    show SP p e below (T3.setTop (mkF m 12 #[vR p0, vJ v1_33, .second, vI (1 : Int32)] [])) _
    refine XS.iloadN X3.here hx rfl (hb hby d5_12) rfl  ?_
    exact k
  have pre6 : ∀ t, SP p e below (T3.setTop (mkF m 26 #[vR p0, vJ ((v1_33 ^^^ (65535 : Int64)) * (1099511628211 : Int64)), .second, vI (1 : Int32)] [])) t → SP p e below (s₁.setTop (entryFrame m #[(.ref p0)] 4)) t := by
    intro t k
    refine pre5 t ?_
    show SP p e below (T3.setTop (mkF m 13 #[vR p0, vJ v1_33, .second, vI (1 : Int32)] [(.int (1 : Int32))])) _
    refine XS.ifNo X3.here hx rfl (hb hby d5_13) rfl ((if0 _ _).trans (tlt (by decide : (0 : Int32) < (1 : Int32))).2.2.2) ?_
    show SP p e below (T3.setTop (mkF m 16 #[vR p0, vJ v1_33, .second, vI (1 : Int32)] [])) _
    refine XS.lloadN X3.here hx rfl (hb hby d5_16) rfl  ?_
    show SP p e below (T3.setTop (mkF m 17 #[vR p0, vJ v1_33, .second, vI (1 : Int32)] [(.long v1_33)])) _
    refine X3.ldc2Long hx hown (mvT hZ (ow hw 108 rfl)) (g := (mkF m 17 #[vR p0, vJ v1_33, .second, vI (1 : Int32)] [(.long v1_33)])) rfl (hb hby d5_17) _ ?_
    show SP p e below (T3.setTop (mkF m 20 #[vR p0, vJ v1_33, .second, vI (1 : Int32)] [(.long (65535 : Int64)), (.long v1_33)])) _
    refine XS.lxor X3.here hx rfl (hb hby d5_20) rfl ?_
    show SP p e below (T3.setTop (mkF m 21 #[vR p0, vJ v1_33, .second, vI (1 : Int32)] [(.long (v1_33 ^^^ (65535 : Int64)))])) _
    refine X3.ldc2Long hx hown (mvT hZ (ow hw 107 rfl)) (g := (mkF m 21 #[vR p0, vJ v1_33, .second, vI (1 : Int32)] [(.long (v1_33 ^^^ (65535 : Int64)))])) rfl (hb hby d5_21) _ ?_
    show SP p e below (T3.setTop (mkF m 24 #[vR p0, vJ v1_33, .second, vI (1 : Int32)] [(.long (1099511628211 : Int64)), (.long (v1_33 ^^^ (65535 : Int64)))])) _
    refine XS.lmul X3.here hx rfl (hb hby d5_24) rfl ?_
    show SP p e below (T3.setTop (mkF m 25 #[vR p0, vJ v1_33, .second, vI (1 : Int32)] [(.long ((v1_33 ^^^ (65535 : Int64)) * (1099511628211 : Int64)))])) _
    refine XS.lstoreN X3.here hx rfl (hb hby d5_25) rfl (l' := #[vR p0, vJ ((v1_33 ^^^ (65535 : Int64)) * (1099511628211 : Int64)), .second, vI (1 : Int32)]) rfl ?_
    exact k
  have pre8 : ∀ t, SP p e below (T3.setTop (mkF m 30 #[vR p0, vJ ((v1_33 ^^^ (65535 : Int64)) * (1099511628211 : Int64)), .second, vI (1 : Int32)] [(.ref s1_), (.long ((v1_33 ^^^ (65535 : Int64)) * (1099511628211 : Int64)))])) t → SP p e below (s₁.setTop (entryFrame m #[(.ref p0)] 4)) t := by
    intro t k
    refine pre6 t ?_
    show SP p e below (T3.setTop (mkF m 26 #[vR p0, vJ ((v1_33 ^^^ (65535 : Int64)) * (1099511628211 : Int64)), .second, vI (1 : Int32)] [])) _
    refine XS.lloadN X3.here hx rfl (hb hby d5_26) rfl  ?_
    show SP p e below (T3.setTop (mkF m 27 #[vR p0, vJ ((v1_33 ^^^ (65535 : Int64)) * (1099511628211 : Int64)), .second, vI (1 : Int32)] [(.long ((v1_33 ^^^ (65535 : Int64)) * (1099511628211 : Int64)))])) _
    refine XS.aloadN X3.here hx rfl (hb hby d5_27) rfl rfl ?_
    show SP p e below (T3.setTop (mkF m 28 #[vR p0, vJ ((v1_33 ^^^ (65535 : Int64)) * (1099511628211 : Int64)), .second, vI (1 : Int32)] [(.ref p0), (.long ((v1_33 ^^^ (65535 : Int64)) * (1099511628211 : Int64)))])) _
    refine XS.iloadN X3.here hx rfl (hb hby d5_28) rfl  ?_
    show SP p e below (T3.setTop (mkF m 29 #[vR p0, vJ ((v1_33 ^^^ (65535 : Int64)) * (1099511628211 : Int64)), .second, vI (1 : Int32)] [(.int (1 : Int32)), (.ref p0), (.long ((v1_33 ^^^ (65535 : Int64)) * (1099511628211 : Int64)))])) _
    refine own_ldR X3 hx hZ e3 A_p0 rfl (j := (1 : Int32)) (k := 1) (v := .ref s1_) rfl (by decide) (by decide) (by decide) (g := (mkF m 29 #[vR p0, vJ ((v1_33 ^^^ (65535 : Int64)) * (1099511628211 : Int64)), .second, vI (1 : Int32)] [(.int (1 : Int32)), (.ref p0), (.long ((v1_33 ^^^ (65535 : Int64)) * (1099511628211 : Int64)))])) rfl rfl (hb hby d5_29) ?_
    exact k
  obtain ⟨_, _, ⟨T7, L7, k7, n7⟩, -, X7, ⟨Lc7, hQ7, l7, y7, z7⟩, st7⟩ := Jvm.LawKit.callS X3 hx (y := (⟨"com/example/tern/tern/store/HashIndex", "hash", "(JLjava/lang/String;)J"⟩ : MethodName)) hown (mvT hZ (ow hw 73 rfl)) (mvT hZ (ow hw 74 rfl)) (mvT hZ (ow hw 31 rfl)) (mvT hZ (ow hw 75 rfl)) (by decide) (backOf (W := 0) (rm_16 l Z a0 hw [] ((v1_33 ^^^ (65535 : Int64)) * (1099511628211 : Int64)) s1_ cs_ v1_ c1_ n1_ x1_ fm_ h0 n0 Z0 S_COMPACT_STRINGS hcs E_s1_ F_s1__value F_s1__coder A_v1_ S_SIOOBE_FORMATTER hfm S__assertionsDisabled S_HI_BYTE_SHIFT S_LO_BYTE_SHIFT hk1_) hZ (ow hw 75 rfl) (ow hw 31 rfl) (by decide) (by decide)) (g := (mkF m 30 #[vR p0, vJ ((v1_33 ^^^ (65535 : Int64)) * (1099511628211 : Int64)), .second, vI (1 : Int32)] [(.ref s1_), (.long ((v1_33 ^^^ (65535 : Int64)) * (1099511628211 : Int64)))])) rfl (by rw [hml]; rfl) (argsL := [(.long ((v1_33 ^^^ (65535 : Int64)) * (1099511628211 : Int64))), (.ref s1_)]) (rest := []) (lenOf pd_22 rfl) rfl own_le0 (hb hby d5_30) (fun _ _ => ⟨rfl, e3, (by decide : 0 + 0 ≤ _), (by decide : 0 + 0 ≤ _)⟩)
  dsimp only [Pt.U, Pt.locs, Pt.cells, Pt.slots] at X7 l7 y7 z7 st7 hQ7
  rw [l7, y7, z7] at X7
  obtain ⟨rfl, N7q, e7⟩ := hQ7
  have N7 := Fr.app N3 N7q
  obtain ⟨v1_33_9, hv1_33_9⟩ : ∃ z : Int64, z = (f_16 ((v1_33 ^^^ (65535 : Int64)) * (1099511628211 : Int64)) cs_ c1_ n1_ x1_) := ⟨_, rfl⟩
  obtain ⟨v1_50, hv1_50⟩ : ∃ z : Int64, z = ((v1_33_9 ^^^ ((v1_33_9.toUInt64 >>> ((33 : Int32) &&& 0x3f).toInt64.toUInt64).toInt64)) * (-49064778989728563 : Int64)) := ⟨_, rfl⟩
  obtain ⟨v1_61, hv1_61⟩ : ∃ z : Int64, z = ((v1_50 ^^^ ((v1_50.toUInt64 >>> ((33 : Int32) &&& 0x3f).toInt64.toUInt64).toInt64)) * (-4265267296055464877 : Int64)) := ⟨_, rfl⟩
  obtain ⟨fs, hr, hrun, hended, hW, hsame⟩ := X7.leave (v := some (.long (v1_61 ^^^ ((v1_61.toUInt64 >>> ((33 : Int32) &&& 0x3f).toInt64.toUInt64).toInt64)))) (fun h => by rw [Bd.returns] at h; cases h) (BodyLoose.notSynchronized Bd)
  refine ⟨_, _, pre8 _ ?_, hrun, hended, _, _, rfl, ?_, ⟨_, rfl⟩, hW, hsame.mono (by decide) (by decide)⟩
  · show SP p e below (T3.setTop (mkF m 30 #[vR p0, vJ ((v1_33 ^^^ (65535 : Int64)) * (1099511628211 : Int64)), .second, vI (1 : Int32)] [(.ref s1_), (.long ((v1_33 ^^^ (65535 : Int64)) * (1099511628211 : Int64)))])) _
    refine st7 _ ?_
    show SP p e below (T7.setTop (mkF m 33 #[vR p0, vJ ((v1_33 ^^^ (65535 : Int64)) * (1099511628211 : Int64)), .second, vI (1 : Int32)] [(.long (f_16 ((v1_33 ^^^ (65535 : Int64)) * (1099511628211 : Int64)) cs_ c1_ n1_ x1_))])) _
    refine XS.lstoreN X7.here hx rfl (hb hby d5_33) rfl (l' := #[vR p0, vJ v1_33_9, .second, vI (1 : Int32)]) (by rw [hv1_33_9]; rfl) ?_
    show SP p e below (T7.setTop (mkF m 34 #[vR p0, vJ v1_33_9, .second, vI (1 : Int32)] [])) _
    refine XS.iinc X7.here hx rfl (hb hby d5_34) rfl (l' := #[vR p0, vJ v1_33_9, .second, vI (2 : Int32)]) rfl ?_
    show SP p e below (T7.setTop (mkF m 37 #[vR p0, vJ v1_33_9, .second, vI (2 : Int32)] [])) _
    refine XS.goto X7.here hx rfl (pc0 := 37) (pc' := 6) rfl (hb hby d5_37) (by decide) (by decide) ?_
    show SP p e below (T7.setTop (mkF m 6 #[vR p0, vJ v1_33_9, .second, vI (2 : Int32)] [])) _
    refine XS.iloadN X7.here hx rfl (hb hby d5_6) rfl  ?_
    show SP p e below (T7.setTop (mkF m 7 #[vR p0, vJ v1_33_9, .second, vI (2 : Int32)] [(.int (2 : Int32))])) _
    refine XS.aloadN X7.here hx rfl (hb hby d5_7) rfl rfl ?_
    show SP p e below (T7.setTop (mkF m 8 #[vR p0, vJ v1_33_9, .second, vI (2 : Int32)] [(.ref p0), (.int (2 : Int32))])) _
    refine own_len X7 hx hZ e7 A_p0 (z := (2 : Int32)) rfl (g := (mkF m 8 #[vR p0, vJ v1_33_9, .second, vI (2 : Int32)] [(.ref p0), (.int (2 : Int32))])) rfl rfl (hb hby d5_8) ?_
    show SP p e below (T7.setTop (mkF m 9 #[vR p0, vJ v1_33_9, .second, vI (2 : Int32)] [(.int (2 : Int32)), (.int (2 : Int32))])) _
    refine XS.icmpYes X7.here hx rfl (pc0 := 9) (pc' := 40) rfl (hb hby d5_9) rfl (flt (by decide : ¬ ((2 : Int32) < (2 : Int32)))).2.1 (by decide) (by decide) ?_
    show SP p e below (T7.setTop (mkF m 40 #[vR p0, vJ v1_33_9, .second, vI (2 : Int32)] [])) _
    refine XS.lloadN X7.here hx rfl (hb hby d5_40) rfl  ?_
    show SP p e below (T7.setTop (mkF m 41 #[vR p0, vJ v1_33_9, .second, vI (2 : Int32)] [(.long v1_33_9)])) _
    refine XS.lloadN X7.here hx rfl (hb hby d5_41) rfl  ?_
    show SP p e below (T7.setTop (mkF m 42 #[vR p0, vJ v1_33_9, .second, vI (2 : Int32)] [(.long v1_33_9), (.long v1_33_9)])) _
    refine XS.bipush X7.here hx rfl (hb hby d5_42) ?_
    show SP p e below (T7.setTop (mkF m 44 #[vR p0, vJ v1_33_9, .second, vI (2 : Int32)] [(.int (33 : Int32)), (.long v1_33_9), (.long v1_33_9)])) _
    refine XS.lushr X7.here hx rfl (hb hby d5_44) rfl ?_
    show SP p e below (T7.setTop (mkF m 45 #[vR p0, vJ v1_33_9, .second, vI (2 : Int32)] [(.long ((v1_33_9.toUInt64 >>> ((33 : Int32) &&& 0x3f).toInt64.toUInt64).toInt64)), (.long v1_33_9)])) _
    refine XS.lxor X7.here hx rfl (hb hby d5_45) rfl ?_
    show SP p e below (T7.setTop (mkF m 46 #[vR p0, vJ v1_33_9, .second, vI (2 : Int32)] [(.long (v1_33_9 ^^^ ((v1_33_9.toUInt64 >>> ((33 : Int32) &&& 0x3f).toInt64.toUInt64).toInt64)))])) _
    refine X7.ldc2Long hx hown (mvT hZ (ow hw 34 rfl)) (g := (mkF m 46 #[vR p0, vJ v1_33_9, .second, vI (2 : Int32)] [(.long (v1_33_9 ^^^ ((v1_33_9.toUInt64 >>> ((33 : Int32) &&& 0x3f).toInt64.toUInt64).toInt64)))])) rfl (hb hby d5_46) _ ?_
    show SP p e below (T7.setTop (mkF m 49 #[vR p0, vJ v1_33_9, .second, vI (2 : Int32)] [(.long (-49064778989728563 : Int64)), (.long (v1_33_9 ^^^ ((v1_33_9.toUInt64 >>> ((33 : Int32) &&& 0x3f).toInt64.toUInt64).toInt64)))])) _
    refine XS.lmul X7.here hx rfl (hb hby d5_49) rfl ?_
    show SP p e below (T7.setTop (mkF m 50 #[vR p0, vJ v1_33_9, .second, vI (2 : Int32)] [(.long ((v1_33_9 ^^^ ((v1_33_9.toUInt64 >>> ((33 : Int32) &&& 0x3f).toInt64.toUInt64).toInt64)) * (-49064778989728563 : Int64)))])) _
    refine XS.lstoreN X7.here hx rfl (hb hby d5_50) rfl (l' := #[vR p0, vJ v1_50, .second, vI (2 : Int32)]) (by rw [hv1_50]; rfl) ?_
    show SP p e below (T7.setTop (mkF m 51 #[vR p0, vJ v1_50, .second, vI (2 : Int32)] [])) _
    refine XS.lloadN X7.here hx rfl (hb hby d5_51) rfl  ?_
    show SP p e below (T7.setTop (mkF m 52 #[vR p0, vJ v1_50, .second, vI (2 : Int32)] [(.long v1_50)])) _
    refine XS.lloadN X7.here hx rfl (hb hby d5_52) rfl  ?_
    show SP p e below (T7.setTop (mkF m 53 #[vR p0, vJ v1_50, .second, vI (2 : Int32)] [(.long v1_50), (.long v1_50)])) _
    refine XS.bipush X7.here hx rfl (hb hby d5_53) ?_
    show SP p e below (T7.setTop (mkF m 55 #[vR p0, vJ v1_50, .second, vI (2 : Int32)] [(.int (33 : Int32)), (.long v1_50), (.long v1_50)])) _
    refine XS.lushr X7.here hx rfl (hb hby d5_55) rfl ?_
    show SP p e below (T7.setTop (mkF m 56 #[vR p0, vJ v1_50, .second, vI (2 : Int32)] [(.long ((v1_50.toUInt64 >>> ((33 : Int32) &&& 0x3f).toInt64.toUInt64).toInt64)), (.long v1_50)])) _
    refine XS.lxor X7.here hx rfl (hb hby d5_56) rfl ?_
    show SP p e below (T7.setTop (mkF m 57 #[vR p0, vJ v1_50, .second, vI (2 : Int32)] [(.long (v1_50 ^^^ ((v1_50.toUInt64 >>> ((33 : Int32) &&& 0x3f).toInt64.toUInt64).toInt64)))])) _
    refine X7.ldc2Long hx hown (mvT hZ (ow hw 35 rfl)) (g := (mkF m 57 #[vR p0, vJ v1_50, .second, vI (2 : Int32)] [(.long (v1_50 ^^^ ((v1_50.toUInt64 >>> ((33 : Int32) &&& 0x3f).toInt64.toUInt64).toInt64)))])) rfl (hb hby d5_57) _ ?_
    show SP p e below (T7.setTop (mkF m 60 #[vR p0, vJ v1_50, .second, vI (2 : Int32)] [(.long (-4265267296055464877 : Int64)), (.long (v1_50 ^^^ ((v1_50.toUInt64 >>> ((33 : Int32) &&& 0x3f).toInt64.toUInt64).toInt64)))])) _
    refine XS.lmul X7.here hx rfl (hb hby d5_60) rfl ?_
    show SP p e below (T7.setTop (mkF m 61 #[vR p0, vJ v1_50, .second, vI (2 : Int32)] [(.long ((v1_50 ^^^ ((v1_50.toUInt64 >>> ((33 : Int32) &&& 0x3f).toInt64.toUInt64).toInt64)) * (-4265267296055464877 : Int64)))])) _
    refine XS.lstoreN X7.here hx rfl (hb hby d5_61) rfl (l' := #[vR p0, vJ v1_61, .second, vI (2 : Int32)]) (by rw [hv1_61]; rfl) ?_
    show SP p e below (T7.setTop (mkF m 62 #[vR p0, vJ v1_61, .second, vI (2 : Int32)] [])) _
    refine XS.lloadN X7.here hx rfl (hb hby d5_62) rfl  ?_
    show SP p e below (T7.setTop (mkF m 63 #[vR p0, vJ v1_61, .second, vI (2 : Int32)] [(.long v1_61)])) _
    refine XS.lloadN X7.here hx rfl (hb hby d5_63) rfl  ?_
    show SP p e below (T7.setTop (mkF m 64 #[vR p0, vJ v1_61, .second, vI (2 : Int32)] [(.long v1_61), (.long v1_61)])) _
    refine XS.bipush X7.here hx rfl (hb hby d5_64) ?_
    show SP p e below (T7.setTop (mkF m 66 #[vR p0, vJ v1_61, .second, vI (2 : Int32)] [(.int (33 : Int32)), (.long v1_61), (.long v1_61)])) _
    refine XS.lushr X7.here hx rfl (hb hby d5_66) rfl ?_
    show SP p e below (T7.setTop (mkF m 67 #[vR p0, vJ v1_61, .second, vI (2 : Int32)] [(.long ((v1_61.toUInt64 >>> ((33 : Int32) &&& 0x3f).toInt64.toUInt64).toInt64)), (.long v1_61)])) _
    refine XS.lxor X7.here hx rfl (hb hby d5_67) rfl ?_
    show SP p e below (T7.setTop (mkF m 68 #[vR p0, vJ v1_61, .second, vI (2 : Int32)] [(.long (v1_61 ^^^ ((v1_61.toUInt64 >>> ((33 : Int32) &&& 0x3f).toInt64.toUInt64).toInt64)))])) _
    exact retOut X7 hx Bd.returns rfl (Or.inr (Or.inl ⟨rfl, rfl, _, rfl⟩)) (hb hby d5_68) hr
  · show Q_5k2 Z p0 s0_ s1_ v0_ c0_ n0_ x0_ v1_ c1_ n1_ x1_ cs_ fm_ h0 n0 _ T7.heap _
    rw [e7]
    exact ⟨congrArg (fun z => some (Value.long z)) (by subst hv1_33 hv1_33_9 hv1_50 hv1_61; rfl : (v1_61 ^^^ ((v1_61.toUInt64 >>> ((33 : Int32) &&& 0x3f).toInt64.toUInt64).toInt64)) = f_5k2 c0_ n0_ x0_ c1_ n1_ x1_ cs_), N7, rfl⟩
theorem pd_23 : parseMethodDescriptor "(ICC)Ljava/lang/String;" = some ⟨[.int, .char, .char], some (.object "java/lang/String")⟩ := by decide +kernel
theorem pd_24 : parseMethodDescriptor "([Ljava/lang/String;)J" = some ⟨[(.array (.object "java/lang/String"))], some .long⟩ := by decide +kernel
theorem pd_25 : parseMethodDescriptor "(J)J" = some ⟨[.long], some .long⟩ := by decide +kernel
theorem pd_26 : parseMethodDescriptor "(JIII)J" = some ⟨[.long, .int, .int, .int], some .long⟩ := by decide +kernel
theorem pn_0 : plainName "com/example/tern/tern/store/HashIndexHashPinLaw" = true := by first | (simp [plainName, overriddenIn]; done) | decide +kernel
theorem ef_0 (m : MethodId) (p0 : Int32) (p1 : Int32) (p2 : Int32) (p3 : Int32) (p4 : Int32) : entryFrame m #[(.int p0), (.int p1), (.int p2), (.int p3), (.int p4)] maxLocals = mkF m 0 #[vI p0, vI p1, vI p2, vI p3, vI p4, .unset, .unset, .unset, .unset, .unset, .unset, .unset, .unset, .unset, .unset, .unset, .unset, .unset] [] := by first | (simp [entryFrame, mkF, argsToLocals, Value.category, maxLocals]; done) | rfl
def f_0 (p0 : Int32) (p1 : Int32) (p2 : Int32) (p3 : Int32) (p4 : Int32) (cs_ : Int32) : Int32 := let v5_4 : Int32 := (p0 &&& (65535 : Int32)); let v6_10 : Int32 := (p1 &&& (65535 : Int32)); let v7_16 : Int32 := (p2 &&& (65535 : Int32)); let v8_22 : Int32 := (p3 &&& (65535 : Int32)); let v9_30 : Int32 := ((p4 &&& (3 : Int32)) % (3 : Int32)); let v10_40 : Int32 := ((((p4.toUInt32 >>> ((2 : Int32) &&& 31).toUInt32).toInt32) &&& (3 : Int32)) % (3 : Int32)); let v11_50 : Int32 := ((((p4.toUInt32 >>> ((4 : Int32) &&& 31).toUInt32).toInt32) &&& (3 : Int32)) % (3 : Int32)); (if v11_50 = (0 : Int32) then let ms0_193 : Int32 := (if f_5k0 = (f_6 (-3750763034362895579 : Int64)) then (1 : Int32) else (0 : Int32)); ms0_193 else let v14_111 : Int64 := (f_14 (-3750763034362895579 : Int64) v9_30 v5_4 v6_10); (if v11_50 = (1 : Int32) then let v16_131 : Int64 := (f_5k1 (own_co v9_30 (v5_4.toUInt32.toUInt16.toUInt32.toInt32) (v6_10.toUInt32.toUInt16.toUInt32.toInt32)) (own_nb v9_30 (v5_4.toUInt32.toUInt16.toUInt32.toInt32) (v6_10.toUInt32.toUInt16.toUInt32.toInt32)) (own_by v9_30 (v5_4.toUInt32.toUInt16.toUInt32.toInt32) (v6_10.toUInt32.toUInt16.toUInt32.toInt32) cs_) cs_); let ms0_193 : Int32 := (if v16_131 = (f_6 v14_111) then (1 : Int32) else (0 : Int32)); ms0_193 else let v14_143 : Int64 := (f_15 v14_111 (65535 : Int32)); let v14_156 : Int64 := (f_14 v14_143 v10_40 v7_16 v8_22); let v16_175 : Int64 := (f_5k2 (own_co v9_30 (v5_4.toUInt32.toUInt16.toUInt32.toInt32) (v6_10.toUInt32.toUInt16.toUInt32.toInt32)) (own_nb v9_30 (v5_4.toUInt32.toUInt16.toUInt32.toInt32) (v6_10.toUInt32.toUInt16.toUInt32.toInt32)) (own_by v9_30 (v5_4.toUInt32.toUInt16.toUInt32.toInt32) (v6_10.toUInt32.toUInt16.toUInt32.toInt32) cs_) (own_co v10_40 (v7_16.toUInt32.toUInt16.toUInt32.toInt32) (v8_22.toUInt32.toUInt16.toUInt32.toInt32)) (own_nb v10_40 (v7_16.toUInt32.toUInt16.toUInt32.toInt32) (v8_22.toUInt32.toUInt16.toUInt32.toInt32)) (own_by v10_40 (v7_16.toUInt32.toUInt16.toUInt32.toInt32) (v8_22.toUInt32.toUInt16.toUInt32.toInt32) cs_) cs_); let ms0_193 : Int32 := (if v16_175 = (f_6 v14_156) then (1 : Int32) else (0 : Int32)); ms0_193))
def Q_0 (Z : State) (p0 : Int32) (p1 : Int32) (p2 : Int32) (p3 : Int32) (p4 : Int32) (cs_ : Int32) (fm_ : Value) (h0 : Heap) (n0 : Nat) (v : Option Value) (h : Heap) (L : List Loc) : Prop := v = some (.int (f_0 p0 p1 p2 p3 p4 cs_)) ∧ Fr n0 L ∧ True
theorem rm_0 (l : Launch) (Z : State) (a0 : Array Value) (hw : ∀ d ∈ tables_1, d.before a0 Z = true) (ws : List Jvm.Cond) (p0 : Int32) (p1 : Int32) (p2 : Int32) (p3 : Int32) (p4 : Int32) (cs_ : Int32) (fm_ : Value) (h0 : Heap) (n0 : Nat) (Z0 : n0 ≤ h0.size) (S_COMPACT_STRINGS : Sta Z h0 "java/lang/String" "COMPACT_STRINGS" "Z" (.int cs_)) (hcs : ¬ (cs_ = (0 : Int32))) (S_SIOOBE_FORMATTER : Sta Z h0 "jdk/internal/util/Preconditions" "SIOOBE_FORMATTER" "Ljava/util/function/BiFunction;" fm_) (hfm : fm_ = Value.null ∨ ∃ a, fm_ = Value.ref a) (S__assertionsDisabled : Sta Z h0 "java/lang/StringUTF16" "$assertionsDisabled" "Z" (.int (1 : Int32))) (S_HI_BYTE_SHIFT : Sta Z h0 "java/lang/StringUTF16" "HI_BYTE_SHIFT" "I" (.int (0 : Int32))) (S_LO_BYTE_SHIFT : Sta Z h0 "java/lang/StringUTF16" "LO_BYTE_SHIFT" "I" (.int (8 : Int32))) :
    MetFree l x (head1 (Jvm.Cond.code x code maxLocals ret :: ws) room_1) (fun a U => a = #[(.int p0), (.int p1), (.int p2), (.int p3), (.int p4)] ∧ Z.Warmed39 U.vm ∧ U.heap = h0 ∧ own_H own_cs Z U.vm h0) (fun _ _ _ _ _ => True) (fun _ U o U' => ∃ v L, o = .returned v ∧ Q_0 Z p0 p1 p2 p3 p4 cs_ fm_ h0 n0 v U'.heap L ∧ own_H own_cs Z U'.vm U'.heap ∧ ReturnedEndW U o U' L 9 26) := by
  refine MetFree.of_bodySF (plainFor_of_name pn_0) hisR ?_
  intro p e s m args below meth c s₁ Bd hml0 hP hK
  obtain ⟨rfl, hZ, hh, hH⟩ := hP
  have hx := Bd.exec
  have hby := Bd.bytes
  have hml : c.maxLocals = 18 := hml0
  have hown : s.vm.findClass "com/example/tern/tern/store/HashIndexHashPinLaw" = some m.cls := findClass_of_methodNamed Bd.named
  have hnm := (name_of_methodNamed Bd.named Bd.method).1
  have wl := own_wl hw
  have wS := own_wS hw
  have hS0 : s.Since s.vm h0.size := (State.WarmedH.refl s).since _
  have hZ : Z.Warmed39 (s.setVm s.vm).vm := hZ
  have hown : (s.setVm s.vm).vm.findClass "com/example/tern/tern/store/HashIndexHashPinLaw" = some m.cls := hown
  have hH : own_H own_cs Z (s.setVm s.vm).vm h0 := hH
  have X0 : Stand p l e room_1 (s.setVm s.vm) m #[(.int p0), (.int p1), (.int p2), (.int p3), (.int p4)] below meth c s₁ [] 0 0 := Stand.of_body Bd
  have e0 : s₁.heap = h0 := by rw [← hh, Bd.state]; rfl
  have N0 := Fr.nil n0
  have K0 : Keep h0 h0 [] := Keep.refl h0 _
  have pre0 : ∀ t, SP p e below (s₁.setTop (mkF m 0 #[vI p0, vI p1, vI p2, vI p3, vI p4, .unset, .unset, .unset, .unset, .unset, .unset, .unset, .unset, .unset, .unset, .unset, .unset, .unset] [])) t → SP p e below (s₁.setTop (entryFrame m #[(.int p0), (.int p1), (.int p2), (.int p3), (.int p4)] maxLocals)) t := fun t k => castTop (ef_0 m p0 p1 p2 p3 p4) k
  obtain ⟨v5_4, hv5_4⟩ : ∃ z : Int32, z = (p0 &&& (65535 : Int32)) := ⟨_, rfl⟩
  obtain ⟨v6_10, hv6_10⟩ : ∃ z : Int32, z = (p1 &&& (65535 : Int32)) := ⟨_, rfl⟩
  obtain ⟨v7_16, hv7_16⟩ : ∃ z : Int32, z = (p2 &&& (65535 : Int32)) := ⟨_, rfl⟩
  obtain ⟨v8_22, hv8_22⟩ : ∃ z : Int32, z = (p3 &&& (65535 : Int32)) := ⟨_, rfl⟩
  obtain ⟨v9_30, hv9_30⟩ : ∃ z : Int32, z = ((p4 &&& (3 : Int32)) % (3 : Int32)) := ⟨_, rfl⟩
  obtain ⟨v10_40, hv10_40⟩ : ∃ z : Int32, z = ((((p4.toUInt32 >>> ((2 : Int32) &&& 31).toUInt32).toInt32) &&& (3 : Int32)) % (3 : Int32)) := ⟨_, rfl⟩
  obtain ⟨v11_50, hv11_50⟩ : ∃ z : Int32, z = ((((p4.toUInt32 >>> ((4 : Int32) &&& 31).toUInt32).toInt32) &&& (3 : Int32)) % (3 : Int32)) := ⟨_, rfl⟩
  have pre2 : ∀ t, SP p e below (s₁.setTop (mkF m 60 #[vI p0, vI p1, vI p2, vI p3, vI p4, vI v5_4, vI v6_10, vI v7_16, vI v8_22, vI v9_30, vI v10_40, vI v11_50, .unset, .unset, .unset, .unset, .unset, .unset] [(.int (v6_10.toUInt32.toUInt16.toUInt32.toInt32)), (.int (v5_4.toUInt32.toUInt16.toUInt32.toInt32)), (.int v9_30)])) t → SP p e below (s₁.setTop (entryFrame m #[(.int p0), (.int p1), (.int p2), (.int p3), (.int p4)] maxLocals)) t := by
    intro t k
    refine pre0 t ?_
    show SP p e below (s₁.setTop (mkF m 0 #[vI p0, vI p1, vI p2, vI p3, vI p4, .unset, .unset, .unset, .unset, .unset, .unset, .unset, .unset, .unset, .unset, .unset, .unset, .unset] [])) _
    refine XS.iloadN X0.here hx rfl (hb hby at_0) rfl  ?_
    show SP p e below (s₁.setTop (mkF m 1 #[vI p0, vI p1, vI p2, vI p3, vI p4, .unset, .unset, .unset, .unset, .unset, .unset, .unset, .unset, .unset, .unset, .unset, .unset, .unset] [(.int p0)])) _
    refine X0.ldcInt hx hown (mvT hZ (ow hw 0 rfl)) (g := (mkF m 1 #[vI p0, vI p1, vI p2, vI p3, vI p4, .unset, .unset, .unset, .unset, .unset, .unset, .unset, .unset, .unset, .unset, .unset, .unset, .unset] [(.int p0)])) rfl (hb hby at_1) _ ?_
    show SP p e below (s₁.setTop (mkF m 3 #[vI p0, vI p1, vI p2, vI p3, vI p4, .unset, .unset, .unset, .unset, .unset, .unset, .unset, .unset, .unset, .unset, .unset, .unset, .unset] [(.int (65535 : Int32)), (.int p0)])) _
    refine XS.iand X0.here hx rfl (hb hby at_3) rfl ?_
    show SP p e below (s₁.setTop (mkF m 4 #[vI p0, vI p1, vI p2, vI p3, vI p4, .unset, .unset, .unset, .unset, .unset, .unset, .unset, .unset, .unset, .unset, .unset, .unset, .unset] [(.int (p0 &&& (65535 : Int32)))])) _
    refine XS.istore X0.here hx rfl (hb hby at_4) rfl (l' := #[vI p0, vI p1, vI p2, vI p3, vI p4, vI v5_4, .unset, .unset, .unset, .unset, .unset, .unset, .unset, .unset, .unset, .unset, .unset, .unset]) (by rw [hv5_4]; rfl) ?_
    show SP p e below (s₁.setTop (mkF m 6 #[vI p0, vI p1, vI p2, vI p3, vI p4, vI v5_4, .unset, .unset, .unset, .unset, .unset, .unset, .unset, .unset, .unset, .unset, .unset, .unset] [])) _
    refine XS.iloadN X0.here hx rfl (hb hby at_6) rfl  ?_
    show SP p e below (s₁.setTop (mkF m 7 #[vI p0, vI p1, vI p2, vI p3, vI p4, vI v5_4, .unset, .unset, .unset, .unset, .unset, .unset, .unset, .unset, .unset, .unset, .unset, .unset] [(.int p1)])) _
    refine X0.ldcInt hx hown (mvT hZ (ow hw 0 rfl)) (g := (mkF m 7 #[vI p0, vI p1, vI p2, vI p3, vI p4, vI v5_4, .unset, .unset, .unset, .unset, .unset, .unset, .unset, .unset, .unset, .unset, .unset, .unset] [(.int p1)])) rfl (hb hby at_7) _ ?_
    show SP p e below (s₁.setTop (mkF m 9 #[vI p0, vI p1, vI p2, vI p3, vI p4, vI v5_4, .unset, .unset, .unset, .unset, .unset, .unset, .unset, .unset, .unset, .unset, .unset, .unset] [(.int (65535 : Int32)), (.int p1)])) _
    refine XS.iand X0.here hx rfl (hb hby at_9) rfl ?_
    show SP p e below (s₁.setTop (mkF m 10 #[vI p0, vI p1, vI p2, vI p3, vI p4, vI v5_4, .unset, .unset, .unset, .unset, .unset, .unset, .unset, .unset, .unset, .unset, .unset, .unset] [(.int (p1 &&& (65535 : Int32)))])) _
    refine XS.istore X0.here hx rfl (hb hby at_10) rfl (l' := #[vI p0, vI p1, vI p2, vI p3, vI p4, vI v5_4, vI v6_10, .unset, .unset, .unset, .unset, .unset, .unset, .unset, .unset, .unset, .unset, .unset]) (by rw [hv6_10]; rfl) ?_
    show SP p e below (s₁.setTop (mkF m 12 #[vI p0, vI p1, vI p2, vI p3, vI p4, vI v5_4, vI v6_10, .unset, .unset, .unset, .unset, .unset, .unset, .unset, .unset, .unset, .unset, .unset] [])) _
    refine XS.iloadN X0.here hx rfl (hb hby at_12) rfl  ?_
    show SP p e below (s₁.setTop (mkF m 13 #[vI p0, vI p1, vI p2, vI p3, vI p4, vI v5_4, vI v6_10, .unset, .unset, .unset, .unset, .unset, .unset, .unset, .unset, .unset, .unset, .unset] [(.int p2)])) _
    refine X0.ldcInt hx hown (mvT hZ (ow hw 0 rfl)) (g := (mkF m 13 #[vI p0, vI p1, vI p2, vI p3, vI p4, vI v5_4, vI v6_10, .unset, .unset, .unset, .unset, .unset, .unset, .unset, .unset, .unset, .unset, .unset] [(.int p2)])) rfl (hb hby at_13) _ ?_
    show SP p e below (s₁.setTop (mkF m 15 #[vI p0, vI p1, vI p2, vI p3, vI p4, vI v5_4, vI v6_10, .unset, .unset, .unset, .unset, .unset, .unset, .unset, .unset, .unset, .unset, .unset] [(.int (65535 : Int32)), (.int p2)])) _
    refine XS.iand X0.here hx rfl (hb hby at_15) rfl ?_
    show SP p e below (s₁.setTop (mkF m 16 #[vI p0, vI p1, vI p2, vI p3, vI p4, vI v5_4, vI v6_10, .unset, .unset, .unset, .unset, .unset, .unset, .unset, .unset, .unset, .unset, .unset] [(.int (p2 &&& (65535 : Int32)))])) _
    refine XS.istore X0.here hx rfl (hb hby at_16) rfl (l' := #[vI p0, vI p1, vI p2, vI p3, vI p4, vI v5_4, vI v6_10, vI v7_16, .unset, .unset, .unset, .unset, .unset, .unset, .unset, .unset, .unset, .unset]) (by rw [hv7_16]; rfl) ?_
    show SP p e below (s₁.setTop (mkF m 18 #[vI p0, vI p1, vI p2, vI p3, vI p4, vI v5_4, vI v6_10, vI v7_16, .unset, .unset, .unset, .unset, .unset, .unset, .unset, .unset, .unset, .unset] [])) _
    refine XS.iloadN X0.here hx rfl (hb hby at_18) rfl  ?_
    show SP p e below (s₁.setTop (mkF m 19 #[vI p0, vI p1, vI p2, vI p3, vI p4, vI v5_4, vI v6_10, vI v7_16, .unset, .unset, .unset, .unset, .unset, .unset, .unset, .unset, .unset, .unset] [(.int p3)])) _
    refine X0.ldcInt hx hown (mvT hZ (ow hw 0 rfl)) (g := (mkF m 19 #[vI p0, vI p1, vI p2, vI p3, vI p4, vI v5_4, vI v6_10, vI v7_16, .unset, .unset, .unset, .unset, .unset, .unset, .unset, .unset, .unset, .unset] [(.int p3)])) rfl (hb hby at_19) _ ?_
    show SP p e below (s₁.setTop (mkF m 21 #[vI p0, vI p1, vI p2, vI p3, vI p4, vI v5_4, vI v6_10, vI v7_16, .unset, .unset, .unset, .unset, .unset, .unset, .unset, .unset, .unset, .unset] [(.int (65535 : Int32)), (.int p3)])) _
    refine XS.iand X0.here hx rfl (hb hby at_21) rfl ?_
    show SP p e below (s₁.setTop (mkF m 22 #[vI p0, vI p1, vI p2, vI p3, vI p4, vI v5_4, vI v6_10, vI v7_16, .unset, .unset, .unset, .unset, .unset, .unset, .unset, .unset, .unset, .unset] [(.int (p3 &&& (65535 : Int32)))])) _
    refine XS.istore X0.here hx rfl (hb hby at_22) rfl (l' := #[vI p0, vI p1, vI p2, vI p3, vI p4, vI v5_4, vI v6_10, vI v7_16, vI v8_22, .unset, .unset, .unset, .unset, .unset, .unset, .unset, .unset, .unset]) (by rw [hv8_22]; rfl) ?_
    show SP p e below (s₁.setTop (mkF m 24 #[vI p0, vI p1, vI p2, vI p3, vI p4, vI v5_4, vI v6_10, vI v7_16, vI v8_22, .unset, .unset, .unset, .unset, .unset, .unset, .unset, .unset, .unset] [])) _
    refine XS.iload X0.here hx rfl (hb hby at_24) rfl  ?_
    show SP p e below (s₁.setTop (mkF m 26 #[vI p0, vI p1, vI p2, vI p3, vI p4, vI v5_4, vI v6_10, vI v7_16, vI v8_22, .unset, .unset, .unset, .unset, .unset, .unset, .unset, .unset, .unset] [(.int p4)])) _
    refine XS.iconst X0.here hx rfl (hb hby at_26) ?_
    show SP p e below (s₁.setTop (mkF m 27 #[vI p0, vI p1, vI p2, vI p3, vI p4, vI v5_4, vI v6_10, vI v7_16, vI v8_22, .unset, .unset, .unset, .unset, .unset, .unset, .unset, .unset, .unset] [(.int (3 : Int32)), (.int p4)])) _
    refine XS.iand X0.here hx rfl (hb hby at_27) rfl ?_
    show SP p e below (s₁.setTop (mkF m 28 #[vI p0, vI p1, vI p2, vI p3, vI p4, vI v5_4, vI v6_10, vI v7_16, vI v8_22, .unset, .unset, .unset, .unset, .unset, .unset, .unset, .unset, .unset] [(.int (p4 &&& (3 : Int32)))])) _
    refine XS.iconst X0.here hx rfl (hb hby at_28) ?_
    show SP p e below (s₁.setTop (mkF m 29 #[vI p0, vI p1, vI p2, vI p3, vI p4, vI v5_4, vI v6_10, vI v7_16, vI v8_22, .unset, .unset, .unset, .unset, .unset, .unset, .unset, .unset, .unset] [(.int (3 : Int32)), (.int (p4 &&& (3 : Int32)))])) _
    refine iremM X0 hx rfl (hb hby at_29) rfl (by decide) ?_
    show SP p e below (s₁.setTop (mkF m 30 #[vI p0, vI p1, vI p2, vI p3, vI p4, vI v5_4, vI v6_10, vI v7_16, vI v8_22, .unset, .unset, .unset, .unset, .unset, .unset, .unset, .unset, .unset] [(.int ((p4 &&& (3 : Int32)) % (3 : Int32)))])) _
    refine XS.istore X0.here hx rfl (hb hby at_30) rfl (l' := #[vI p0, vI p1, vI p2, vI p3, vI p4, vI v5_4, vI v6_10, vI v7_16, vI v8_22, vI v9_30, .unset, .unset, .unset, .unset, .unset, .unset, .unset, .unset]) (by rw [hv9_30]; rfl) ?_
    show SP p e below (s₁.setTop (mkF m 32 #[vI p0, vI p1, vI p2, vI p3, vI p4, vI v5_4, vI v6_10, vI v7_16, vI v8_22, vI v9_30, .unset, .unset, .unset, .unset, .unset, .unset, .unset, .unset] [])) _
    refine XS.iload X0.here hx rfl (hb hby at_32) rfl  ?_
    show SP p e below (s₁.setTop (mkF m 34 #[vI p0, vI p1, vI p2, vI p3, vI p4, vI v5_4, vI v6_10, vI v7_16, vI v8_22, vI v9_30, .unset, .unset, .unset, .unset, .unset, .unset, .unset, .unset] [(.int p4)])) _
    refine XS.iconst X0.here hx rfl (hb hby at_34) ?_
    show SP p e below (s₁.setTop (mkF m 35 #[vI p0, vI p1, vI p2, vI p3, vI p4, vI v5_4, vI v6_10, vI v7_16, vI v8_22, vI v9_30, .unset, .unset, .unset, .unset, .unset, .unset, .unset, .unset] [(.int (2 : Int32)), (.int p4)])) _
    refine XS.iushr X0.here hx rfl (hb hby at_35) rfl ?_
    show SP p e below (s₁.setTop (mkF m 36 #[vI p0, vI p1, vI p2, vI p3, vI p4, vI v5_4, vI v6_10, vI v7_16, vI v8_22, vI v9_30, .unset, .unset, .unset, .unset, .unset, .unset, .unset, .unset] [(.int ((p4.toUInt32 >>> ((2 : Int32) &&& 31).toUInt32).toInt32))])) _
    refine XS.iconst X0.here hx rfl (hb hby at_36) ?_
    show SP p e below (s₁.setTop (mkF m 37 #[vI p0, vI p1, vI p2, vI p3, vI p4, vI v5_4, vI v6_10, vI v7_16, vI v8_22, vI v9_30, .unset, .unset, .unset, .unset, .unset, .unset, .unset, .unset] [(.int (3 : Int32)), (.int ((p4.toUInt32 >>> ((2 : Int32) &&& 31).toUInt32).toInt32))])) _
    refine XS.iand X0.here hx rfl (hb hby at_37) rfl ?_
    show SP p e below (s₁.setTop (mkF m 38 #[vI p0, vI p1, vI p2, vI p3, vI p4, vI v5_4, vI v6_10, vI v7_16, vI v8_22, vI v9_30, .unset, .unset, .unset, .unset, .unset, .unset, .unset, .unset] [(.int (((p4.toUInt32 >>> ((2 : Int32) &&& 31).toUInt32).toInt32) &&& (3 : Int32)))])) _
    refine XS.iconst X0.here hx rfl (hb hby at_38) ?_
    show SP p e below (s₁.setTop (mkF m 39 #[vI p0, vI p1, vI p2, vI p3, vI p4, vI v5_4, vI v6_10, vI v7_16, vI v8_22, vI v9_30, .unset, .unset, .unset, .unset, .unset, .unset, .unset, .unset] [(.int (3 : Int32)), (.int (((p4.toUInt32 >>> ((2 : Int32) &&& 31).toUInt32).toInt32) &&& (3 : Int32)))])) _
    refine iremM X0 hx rfl (hb hby at_39) rfl (by decide) ?_
    show SP p e below (s₁.setTop (mkF m 40 #[vI p0, vI p1, vI p2, vI p3, vI p4, vI v5_4, vI v6_10, vI v7_16, vI v8_22, vI v9_30, .unset, .unset, .unset, .unset, .unset, .unset, .unset, .unset] [(.int ((((p4.toUInt32 >>> ((2 : Int32) &&& 31).toUInt32).toInt32) &&& (3 : Int32)) % (3 : Int32)))])) _
    refine XS.istore X0.here hx rfl (hb hby at_40) rfl (l' := #[vI p0, vI p1, vI p2, vI p3, vI p4, vI v5_4, vI v6_10, vI v7_16, vI v8_22, vI v9_30, vI v10_40, .unset, .unset, .unset, .unset, .unset, .unset, .unset]) (by rw [hv10_40]; rfl) ?_
    show SP p e below (s₁.setTop (mkF m 42 #[vI p0, vI p1, vI p2, vI p3, vI p4, vI v5_4, vI v6_10, vI v7_16, vI v8_22, vI v9_30, vI v10_40, .unset, .unset, .unset, .unset, .unset, .unset, .unset] [])) _
    refine XS.iload X0.here hx rfl (hb hby at_42) rfl  ?_
    show SP p e below (s₁.setTop (mkF m 44 #[vI p0, vI p1, vI p2, vI p3, vI p4, vI v5_4, vI v6_10, vI v7_16, vI v8_22, vI v9_30, vI v10_40, .unset, .unset, .unset, .unset, .unset, .unset, .unset] [(.int p4)])) _
    refine XS.iconst X0.here hx rfl (hb hby at_44) ?_
    show SP p e below (s₁.setTop (mkF m 45 #[vI p0, vI p1, vI p2, vI p3, vI p4, vI v5_4, vI v6_10, vI v7_16, vI v8_22, vI v9_30, vI v10_40, .unset, .unset, .unset, .unset, .unset, .unset, .unset] [(.int (4 : Int32)), (.int p4)])) _
    refine XS.iushr X0.here hx rfl (hb hby at_45) rfl ?_
    show SP p e below (s₁.setTop (mkF m 46 #[vI p0, vI p1, vI p2, vI p3, vI p4, vI v5_4, vI v6_10, vI v7_16, vI v8_22, vI v9_30, vI v10_40, .unset, .unset, .unset, .unset, .unset, .unset, .unset] [(.int ((p4.toUInt32 >>> ((4 : Int32) &&& 31).toUInt32).toInt32))])) _
    refine XS.iconst X0.here hx rfl (hb hby at_46) ?_
    show SP p e below (s₁.setTop (mkF m 47 #[vI p0, vI p1, vI p2, vI p3, vI p4, vI v5_4, vI v6_10, vI v7_16, vI v8_22, vI v9_30, vI v10_40, .unset, .unset, .unset, .unset, .unset, .unset, .unset] [(.int (3 : Int32)), (.int ((p4.toUInt32 >>> ((4 : Int32) &&& 31).toUInt32).toInt32))])) _
    refine XS.iand X0.here hx rfl (hb hby at_47) rfl ?_
    show SP p e below (s₁.setTop (mkF m 48 #[vI p0, vI p1, vI p2, vI p3, vI p4, vI v5_4, vI v6_10, vI v7_16, vI v8_22, vI v9_30, vI v10_40, .unset, .unset, .unset, .unset, .unset, .unset, .unset] [(.int (((p4.toUInt32 >>> ((4 : Int32) &&& 31).toUInt32).toInt32) &&& (3 : Int32)))])) _
    refine XS.iconst X0.here hx rfl (hb hby at_48) ?_
    show SP p e below (s₁.setTop (mkF m 49 #[vI p0, vI p1, vI p2, vI p3, vI p4, vI v5_4, vI v6_10, vI v7_16, vI v8_22, vI v9_30, vI v10_40, .unset, .unset, .unset, .unset, .unset, .unset, .unset] [(.int (3 : Int32)), (.int (((p4.toUInt32 >>> ((4 : Int32) &&& 31).toUInt32).toInt32) &&& (3 : Int32)))])) _
    refine iremM X0 hx rfl (hb hby at_49) rfl (by decide) ?_
    show SP p e below (s₁.setTop (mkF m 50 #[vI p0, vI p1, vI p2, vI p3, vI p4, vI v5_4, vI v6_10, vI v7_16, vI v8_22, vI v9_30, vI v10_40, .unset, .unset, .unset, .unset, .unset, .unset, .unset] [(.int ((((p4.toUInt32 >>> ((4 : Int32) &&& 31).toUInt32).toInt32) &&& (3 : Int32)) % (3 : Int32)))])) _
    refine XS.istore X0.here hx rfl (hb hby at_50) rfl (l' := #[vI p0, vI p1, vI p2, vI p3, vI p4, vI v5_4, vI v6_10, vI v7_16, vI v8_22, vI v9_30, vI v10_40, vI v11_50, .unset, .unset, .unset, .unset, .unset, .unset]) (by rw [hv11_50]; rfl) ?_
    show SP p e below (s₁.setTop (mkF m 52 #[vI p0, vI p1, vI p2, vI p3, vI p4, vI v5_4, vI v6_10, vI v7_16, vI v8_22, vI v9_30, vI v10_40, vI v11_50, .unset, .unset, .unset, .unset, .unset, .unset] [])) _
    refine XS.iload X0.here hx rfl (hb hby at_52) rfl  ?_
    show SP p e below (s₁.setTop (mkF m 54 #[vI p0, vI p1, vI p2, vI p3, vI p4, vI v5_4, vI v6_10, vI v7_16, vI v8_22, vI v9_30, vI v10_40, vI v11_50, .unset, .unset, .unset, .unset, .unset, .unset] [(.int v9_30)])) _
    refine XS.iload X0.here hx rfl (hb hby at_54) rfl  ?_
    show SP p e below (s₁.setTop (mkF m 56 #[vI p0, vI p1, vI p2, vI p3, vI p4, vI v5_4, vI v6_10, vI v7_16, vI v8_22, vI v9_30, vI v10_40, vI v11_50, .unset, .unset, .unset, .unset, .unset, .unset] [(.int v5_4), (.int v9_30)])) _
    refine XS.i2c X0.here hx rfl (hb hby at_56) rfl ?_
    show SP p e below (s₁.setTop (mkF m 57 #[vI p0, vI p1, vI p2, vI p3, vI p4, vI v5_4, vI v6_10, vI v7_16, vI v8_22, vI v9_30, vI v10_40, vI v11_50, .unset, .unset, .unset, .unset, .unset, .unset] [(.int (v5_4.toUInt32.toUInt16.toUInt32.toInt32)), (.int v9_30)])) _
    refine XS.iload X0.here hx rfl (hb hby at_57) rfl  ?_
    show SP p e below (s₁.setTop (mkF m 59 #[vI p0, vI p1, vI p2, vI p3, vI p4, vI v5_4, vI v6_10, vI v7_16, vI v8_22, vI v9_30, vI v10_40, vI v11_50, .unset, .unset, .unset, .unset, .unset, .unset] [(.int v6_10), (.int (v5_4.toUInt32.toUInt16.toUInt32.toInt32)), (.int v9_30)])) _
    refine XS.i2c X0.here hx rfl (hb hby at_59) rfl ?_
    exact k
  obtain ⟨_, _, ⟨T1, L1, k1, n1⟩, -, X1, hS1, gr1, ⟨Lc1, hQ1, hH1, l1, y1, z1⟩, st1⟩ := callSS X0 hx (y := (⟨"com/example/tern/tern/store/HashIndexHashPinLaw", "text", "(ICC)Ljava/lang/String;"⟩ : MethodName)) hown (mvT hZ (ow hw 1 rfl)) (mvT hZ (ow hw 2 rfl)) (mvT hZ (ow hw 3 rfl)) (mvT hZ (ow hw 4 rfl)) (by decide) (own_backOfS (W := 0) (rm_1 l Z a0 hw [] v9_30 (v5_4.toUInt32.toUInt16.toUInt32.toInt32) (v6_10.toUInt32.toUInt16.toUInt32.toInt32) cs_ h0 n0 Z0 S_COMPACT_STRINGS hcs S__assertionsDisabled S_HI_BYTE_SHIFT S_LO_BYTE_SHIFT) hZ (ow hw 4 rfl) (ow hw 3 rfl) (by decide) (by decide)) (g := (mkF m 60 #[vI p0, vI p1, vI p2, vI p3, vI p4, vI v5_4, vI v6_10, vI v7_16, vI v8_22, vI v9_30, vI v10_40, vI v11_50, .unset, .unset, .unset, .unset, .unset, .unset] [(.int (v6_10.toUInt32.toUInt16.toUInt32.toInt32)), (.int (v5_4.toUInt32.toUInt16.toUInt32.toInt32)), (.int v9_30)])) rfl (by rw [hml]; rfl) (argsL := [(.int v9_30), (.int (v5_4.toUInt32.toUInt16.toUInt32.toInt32)), (.int (v6_10.toUInt32.toUInt16.toUInt32.toInt32))]) (rest := []) (lenOf pd_23 rfl) rfl own_le0 (hb hby at_60) (fun _ hwv => ⟨rfl, e0, (hH.go (B := (s.setVm s.vm)) hZ wl hwv (Keep.refl h0 []) all0), (by decide : 0 + 4 ≤ _), (by decide : 0 + 12 ≤ _)⟩)
  dsimp only [Pt.U, Pt.locs, Pt.cells, Pt.slots] at X1 l1 y1 z1 st1 hQ1 hS1 gr1 hH1
  rw [l1, y1, z1] at X1
  obtain ⟨X1, hS1, hZ, hown⟩ := rebS (own := "com/example/tern/tern/store/HashIndexHashPinLaw") hS0 (Nat.le_trans (Keep.refl h0 []).1 (Nat.le_of_eq (congrArg Array.size (e0 : s₁.heap = h0).symm))) X1 hS1 gr1 hZ hown
  obtain ⟨r_1, w_1, rfl, N1q, sz0_r_1, Kc1, Q1_0, Q1_1, Q1_2, Q1_3⟩ := hQ1
  have Kd1 : Keep h0 T1.heap [] := Kc1
  have sz_r_1 : h0.size ≤ r_1 := Nat.le_trans K0.1 sz0_r_1
  have ge_r_1 : n0 ≤ r_1 := Nat.le_trans Z0 sz0_r_1
  have st_COMP_1 := own_sta_keep S_COMPACT_STRINGS Kd1 all0
  have st_SIOO_1 := own_sta_keep S_SIOOBE_FORMATTER Kd1 all0
  have st__ass_1 := own_sta_keep S__assertionsDisabled Kd1 all0
  have st_HI_B_1 := own_sta_keep S_HI_BYTE_SHIFT Kd1 all0
  have st_LO_B_1 := own_sta_keep S_LO_BYTE_SHIFT Kd1 all0
  have K1 := K0.trans Kd1 all0
  have Z1 := Nat.le_trans Z0 Kd1.1
  have N1 := Fr.app N0 N1q
  have pre4 : ∀ t, SP p e below (T1.setTop (mkF m 73 #[vI p0, vI p1, vI p2, vI p3, vI p4, vI v5_4, vI v6_10, vI v7_16, vI v8_22, vI v9_30, vI v10_40, vI v11_50, vR r_1, .unset, .unset, .unset, .unset, .unset] [(.int (v8_22.toUInt32.toUInt16.toUInt32.toInt32)), (.int (v7_16.toUInt32.toUInt16.toUInt32.toInt32)), (.int v10_40)])) t → SP p e below (s₁.setTop (entryFrame m #[(.int p0), (.int p1), (.int p2), (.int p3), (.int p4)] maxLocals)) t := by
    intro t k
    refine pre2 t ?_
    show SP p e below (s₁.setTop (mkF m 60 #[vI p0, vI p1, vI p2, vI p3, vI p4, vI v5_4, vI v6_10, vI v7_16, vI v8_22, vI v9_30, vI v10_40, vI v11_50, .unset, .unset, .unset, .unset, .unset, .unset] [(.int (v6_10.toUInt32.toUInt16.toUInt32.toInt32)), (.int (v5_4.toUInt32.toUInt16.toUInt32.toInt32)), (.int v9_30)])) _
    refine st1.trans ?_
    show SP p e below (T1.setTop (mkF m 63 #[vI p0, vI p1, vI p2, vI p3, vI p4, vI v5_4, vI v6_10, vI v7_16, vI v8_22, vI v9_30, vI v10_40, vI v11_50, .unset, .unset, .unset, .unset, .unset, .unset] [(.ref r_1)])) _
    refine XS.astore X1.here hx rfl (hb hby at_63) rfl rfl (l' := #[vI p0, vI p1, vI p2, vI p3, vI p4, vI v5_4, vI v6_10, vI v7_16, vI v8_22, vI v9_30, vI v10_40, vI v11_50, vR r_1, .unset, .unset, .unset, .unset, .unset]) rfl ?_
    show SP p e below (T1.setTop (mkF m 65 #[vI p0, vI p1, vI p2, vI p3, vI p4, vI v5_4, vI v6_10, vI v7_16, vI v8_22, vI v9_30, vI v10_40, vI v11_50, vR r_1, .unset, .unset, .unset, .unset, .unset] [])) _
    refine XS.iload X1.here hx rfl (hb hby at_65) rfl  ?_
    show SP p e below (T1.setTop (mkF m 67 #[vI p0, vI p1, vI p2, vI p3, vI p4, vI v5_4, vI v6_10, vI v7_16, vI v8_22, vI v9_30, vI v10_40, vI v11_50, vR r_1, .unset, .unset, .unset, .unset, .unset] [(.int v10_40)])) _
    refine XS.iload X1.here hx rfl (hb hby at_67) rfl  ?_
    show SP p e below (T1.setTop (mkF m 69 #[vI p0, vI p1, vI p2, vI p3, vI p4, vI v5_4, vI v6_10, vI v7_16, vI v8_22, vI v9_30, vI v10_40, vI v11_50, vR r_1, .unset, .unset, .unset, .unset, .unset] [(.int v7_16), (.int v10_40)])) _
    refine XS.i2c X1.here hx rfl (hb hby at_69) rfl ?_
    show SP p e below (T1.setTop (mkF m 70 #[vI p0, vI p1, vI p2, vI p3, vI p4, vI v5_4, vI v6_10, vI v7_16, vI v8_22, vI v9_30, vI v10_40, vI v11_50, vR r_1, .unset, .unset, .unset, .unset, .unset] [(.int (v7_16.toUInt32.toUInt16.toUInt32.toInt32)), (.int v10_40)])) _
    refine XS.iload X1.here hx rfl (hb hby at_70) rfl  ?_
    show SP p e below (T1.setTop (mkF m 72 #[vI p0, vI p1, vI p2, vI p3, vI p4, vI v5_4, vI v6_10, vI v7_16, vI v8_22, vI v9_30, vI v10_40, vI v11_50, vR r_1, .unset, .unset, .unset, .unset, .unset] [(.int v8_22), (.int (v7_16.toUInt32.toUInt16.toUInt32.toInt32)), (.int v10_40)])) _
    refine XS.i2c X1.here hx rfl (hb hby at_72) rfl ?_
    exact k
  obtain ⟨_, _, ⟨T3, L3, k3, n3⟩, -, X3, hS3, gr3, ⟨Lc3, hQ3, hH3, l3, y3, z3⟩, st3⟩ := callSS X1 hx (y := (⟨"com/example/tern/tern/store/HashIndexHashPinLaw", "text", "(ICC)Ljava/lang/String;"⟩ : MethodName)) hown (mvT hZ (ow hw 1 rfl)) (mvT hZ (ow hw 2 rfl)) (mvT hZ (ow hw 3 rfl)) (mvT hZ (ow hw 4 rfl)) (by decide) (own_backOfS (W := 0) (rm_1 l Z a0 hw [] v10_40 (v7_16.toUInt32.toUInt16.toUInt32.toInt32) (v8_22.toUInt32.toUInt16.toUInt32.toInt32) cs_ T1.heap n0 Z1 st_COMP_1 hcs st__ass_1 st_HI_B_1 st_LO_B_1) hZ (ow hw 4 rfl) (ow hw 3 rfl) (by decide) (by decide)) (g := (mkF m 73 #[vI p0, vI p1, vI p2, vI p3, vI p4, vI v5_4, vI v6_10, vI v7_16, vI v8_22, vI v9_30, vI v10_40, vI v11_50, vR r_1, .unset, .unset, .unset, .unset, .unset] [(.int (v8_22.toUInt32.toUInt16.toUInt32.toInt32)), (.int (v7_16.toUInt32.toUInt16.toUInt32.toInt32)), (.int v10_40)])) rfl (by rw [hml]; rfl) (argsL := [(.int v10_40), (.int (v7_16.toUInt32.toUInt16.toUInt32.toInt32)), (.int (v8_22.toUInt32.toUInt16.toUInt32.toInt32))]) (rest := []) (lenOf pd_23 rfl) rfl own_le0 (hb hby at_73) (fun _ hwv => ⟨rfl, rfl, (hH1.go (B := (s.setVm T1.vm)) hZ wl hwv (Keep.refl T1.heap []) all0), (by decide : 4 + 4 ≤ _), (by decide : 12 + 12 ≤ _)⟩)
  dsimp only [Pt.U, Pt.locs, Pt.cells, Pt.slots] at X3 l3 y3 z3 st3 hQ3 hS3 gr3 hH3
  rw [l3, y3, z3] at X3
  obtain ⟨X3, hS3, hZ, hown⟩ := rebS (own := "com/example/tern/tern/store/HashIndexHashPinLaw") hS1 (Nat.le_trans (Keep.refl T1.heap []).1 (Nat.le_of_eq (congrArg Array.size (rfl : T1.heap = T1.heap).symm))) X3 hS3 gr3 hZ hown
  obtain ⟨r_3, w_3, rfl, N3q, sz0_r_3, Kc3, Q3_0, Q3_1, Q3_2, Q3_3⟩ := hQ3
  have Kd3 : Keep T1.heap T3.heap [] := Kc3
  have ne_r_1_r_3 : r_1 ≠ r_3 := Nat.ne_of_lt (Nat.lt_of_lt_of_le Q1_0.lt sz0_r_3)
  have ne_w_1_r_3 : w_1 ≠ r_3 := Nat.ne_of_lt (Nat.lt_of_lt_of_le Q1_3.lt sz0_r_3)
  have sz_r_3 : h0.size ≤ r_3 := Nat.le_trans K1.1 sz0_r_3
  have ge_r_3 : n0 ≤ r_3 := Nat.le_trans Z1 sz0_r_3
  have st_COMP_3 := own_sta_keep st_COMP_1 Kd3 all0
  have st_SIOO_3 := own_sta_keep st_SIOO_1 Kd3 all0
  have st__ass_3 := own_sta_keep st__ass_1 Kd3 all0
  have st_HI_B_3 := own_sta_keep st_HI_B_1 Kd3 all0
  have st_LO_B_3 := own_sta_keep st_LO_B_1 Kd3 all0
  have exa_r_1_3 := Q1_0.keep Kd3
  have fld_r_1_value_3 := Q1_1.keep Kd3 nin0
  have fld_r_1_coder_3 := Q1_2.keep Kd3 nin0
  have arr_w_1_3 := Q1_3.keep Kd3 nin0
  have K3 := K1.trans Kd3 all0
  have Z3 := Nat.le_trans Z1 Kd3.1
  have N3 := Fr.app N1 N3q
  have pre5 : ∀ t, SP p e below (T3.setTop (mkF m 85 #[vI p0, vI p1, vI p2, vI p3, vI p4, vI v5_4, vI v6_10, vI v7_16, vI v8_22, vI v9_30, vI v10_40, vI v11_50, vR r_1, vR r_3, vJ (-3750763034362895579 : Int64), .second, .unset, .unset] [(.int v11_50)])) t → SP p e below (s₁.setTop (entryFrame m #[(.int p0), (.int p1), (.int p2), (.int p3), (.int p4)] maxLocals)) t := by
    intro t k
    refine pre4 t ?_
    show SP p e below (T1.setTop (mkF m 73 #[vI p0, vI p1, vI p2, vI p3, vI p4, vI v5_4, vI v6_10, vI v7_16, vI v8_22, vI v9_30, vI v10_40, vI v11_50, vR r_1, .unset, .unset, .unset, .unset, .unset] [(.int (v8_22.toUInt32.toUInt16.toUInt32.toInt32)), (.int (v7_16.toUInt32.toUInt16.toUInt32.toInt32)), (.int v10_40)])) _
    refine st3.trans ?_
    show SP p e below (T3.setTop (mkF m 76 #[vI p0, vI p1, vI p2, vI p3, vI p4, vI v5_4, vI v6_10, vI v7_16, vI v8_22, vI v9_30, vI v10_40, vI v11_50, vR r_1, .unset, .unset, .unset, .unset, .unset] [(.ref r_3)])) _
    refine XS.astore X3.here hx rfl (hb hby at_76) rfl rfl (l' := #[vI p0, vI p1, vI p2, vI p3, vI p4, vI v5_4, vI v6_10, vI v7_16, vI v8_22, vI v9_30, vI v10_40, vI v11_50, vR r_1, vR r_3, .unset, .unset, .unset, .unset]) rfl ?_
    show SP p e below (T3.setTop (mkF m 78 #[vI p0, vI p1, vI p2, vI p3, vI p4, vI v5_4, vI v6_10, vI v7_16, vI v8_22, vI v9_30, vI v10_40, vI v11_50, vR r_1, vR r_3, .unset, .unset, .unset, .unset] [])) _
    refine X3.ldc2Long hx hown (mvT hZ (ow hw 27 rfl)) (g := (mkF m 78 #[vI p0, vI p1, vI p2, vI p3, vI p4, vI v5_4, vI v6_10, vI v7_16, vI v8_22, vI v9_30, vI v10_40, vI v11_50, vR r_1, vR r_3, .unset, .unset, .unset, .unset] [])) rfl (hb hby at_78) _ ?_
    show SP p e below (T3.setTop (mkF m 81 #[vI p0, vI p1, vI p2, vI p3, vI p4, vI v5_4, vI v6_10, vI v7_16, vI v8_22, vI v9_30, vI v10_40, vI v11_50, vR r_1, vR r_3, .unset, .unset, .unset, .unset] [(.long (-3750763034362895579 : Int64))])) _
    refine XS.lstore X3.here hx rfl (hb hby at_81) rfl (l' := #[vI p0, vI p1, vI p2, vI p3, vI p4, vI v5_4, vI v6_10, vI v7_16, vI v8_22, vI v9_30, vI v10_40, vI v11_50, vR r_1, vR r_3, vJ (-3750763034362895579 : Int64), .second, .unset, .unset]) rfl ?_
    show SP p e below (T3.setTop (mkF m 83 #[vI p0, vI p1, vI p2, vI p3, vI p4, vI v5_4, vI v6_10, vI v7_16, vI v8_22, vI v9_30, vI v10_40, vI v11_50, vR r_1, vR r_3, vJ (-3750763034362895579 : Int64), .second, .unset, .unset] [])) _
    refine XS.iload X3.here hx rfl (hb hby at_83) rfl  ?_
    exact k
  by_cases hc85 : v11_50 = (0 : Int32)
  · have pre6 : ∀ t, SP p e below (T3.setTop (mkF m 89 #[vI p0, vI p1, vI p2, vI p3, vI p4, vI v5_4, vI v6_10, vI v7_16, vI v8_22, vI v9_30, vI v10_40, vI v11_50, vR r_1, vR r_3, vJ (-3750763034362895579 : Int64), .second, .unset, .unset] [(.int (0 : Int32))])) t → SP p e below (s₁.setTop (entryFrame m #[(.int p0), (.int p1), (.int p2), (.int p3), (.int p4)] maxLocals)) t := by
      intro t k
      refine pre5 t ?_
      show SP p e below (T3.setTop (mkF m 85 #[vI p0, vI p1, vI p2, vI p3, vI p4, vI v5_4, vI v6_10, vI v7_16, vI v8_22, vI v9_30, vI v10_40, vI v11_50, vR r_1, vR r_3, vJ (-3750763034362895579 : Int64), .second, .unset, .unset] [(.int v11_50)])) _
      refine XS.ifNo X3.here hx rfl (hb hby at_85) rfl ((if0 _ _).trans (teq hc85).2) ?_
      show SP p e below (T3.setTop (mkF m 88 #[vI p0, vI p1, vI p2, vI p3, vI p4, vI v5_4, vI v6_10, vI v7_16, vI v8_22, vI v9_30, vI v10_40, vI v11_50, vR r_1, vR r_3, vJ (-3750763034362895579 : Int64), .second, .unset, .unset] [])) _
      refine XS.iconst X3.here hx rfl (hb hby at_88) ?_
      exact k
    obtain ⟨T7, h7, b7, k7, gb7, X7, e7, E7, A7, O7, st7⟩ := own_newR X3 hx hZ hown (ow hw 5 rfl) (ow hw 28 rfl) rfl (g := (mkF m 89 #[vI p0, vI p1, vI p2, vI p3, vI p4, vI v5_4, vI v6_10, vI v7_16, vI v8_22, vI v9_30, vI v10_40, vI v11_50, vR r_1, vR r_3, vJ (-3750763034362895579 : Int64), .second, .unset, .unset] [(.int (0 : Int32))])) rfl (hb hby at_89) rfl (by decide) (n := 0) rfl (by decide) (by decide) (by decide)
    have ne_r_1_b7 : r_1 ≠ b7 := Nat.ne_of_lt (Nat.lt_of_lt_of_le exa_r_1_3.lt (Nat.le_of_eq gb7.symm))
    have ne_w_1_b7 : w_1 ≠ b7 := Nat.ne_of_lt (Nat.lt_of_lt_of_le arr_w_1_3.lt (Nat.le_of_eq gb7.symm))
    have ne_r_3_b7 : r_3 ≠ b7 := Nat.ne_of_lt (Nat.lt_of_lt_of_le Q3_0.lt (Nat.le_of_eq gb7.symm))
    have ne_w_3_b7 : w_3 ≠ b7 := Nat.ne_of_lt (Nat.lt_of_lt_of_le Q3_3.lt (Nat.le_of_eq gb7.symm))
    have sz_b7 : h0.size ≤ b7 := Nat.le_trans K3.1 (Nat.le_of_eq gb7.symm)
    have ge_b7 : n0 ≤ b7 := Nat.le_trans Z3 (Nat.le_of_eq gb7.symm)
    have st_COMP_7 := st_COMP_3.ext E7
    have st_SIOO_7 := st_SIOO_3.ext E7
    have st__ass_7 := st__ass_3.ext E7
    have st_HI_B_7 := st_HI_B_3.ext E7
    have st_LO_B_7 := st_LO_B_3.ext E7
    have exa_r_1_7 := exa_r_1_3.ext E7
    have fld_r_1_value_7 := fld_r_1_value_3.ext E7
    have fld_r_1_coder_7 := fld_r_1_coder_3.ext E7
    have arr_w_1_7 := arr_w_1_3.ext E7
    have exa_r_3_7 := Q3_0.ext E7
    have fld_r_3_value_7 := Q3_1.ext E7
    have fld_r_3_coder_7 := Q3_2.ext E7
    have arr_w_3_7 := Q3_3.ext E7
    have K7 := K3.ext E7
    have Z7 := Nat.le_trans Z3 E7.1
    have szH_b7 : T3.heap.size ≤ b7 := Nat.le_trans (Keep.refl T3.heap []).1 (Nat.le_of_eq gb7.symm)
    have KH7 := (Keep.refl T3.heap []).ext E7
    have pre8 : ∀ t, SP p e below (T7.setTop (mkF m 92 #[vI p0, vI p1, vI p2, vI p3, vI p4, vI v5_4, vI v6_10, vI v7_16, vI v8_22, vI v9_30, vI v10_40, vI v11_50, vR r_1, vR r_3, vJ (-3750763034362895579 : Int64), .second, .unset, .unset] [(.ref b7)])) t → SP p e below (s₁.setTop (entryFrame m #[(.int p0), (.int p1), (.int p2), (.int p3), (.int p4)] maxLocals)) t := by
      intro t k
      refine pre6 t ?_
      show SP p e below (T3.setTop (mkF m 89 #[vI p0, vI p1, vI p2, vI p3, vI p4, vI v5_4, vI v6_10, vI v7_16, vI v8_22, vI v9_30, vI v10_40, vI v11_50, vR r_1, vR r_3, vJ (-3750763034362895579 : Int64), .second, .unset, .unset] [(.int (0 : Int32))])) _
      refine st7 _ ?_
      exact k
    have AR9 : own_A Z h7 b7 (.object "java/lang/String") 0 (fun i => (own_r0) i) := A7.toA.congr (fun i hi => by exact own_r0_eq i hi)
    obtain ⟨_, _, ⟨T10, L10, k10, n10⟩, -, X10, ⟨Lc10, hQ10, l10, y10, z10⟩, st10⟩ := Jvm.LawKit.callS X7 hx (y := (⟨"com/example/tern/tern/store/HashIndex", "hash", "([Ljava/lang/String;)J"⟩ : MethodName)) hown (mvT hZ (ow hw 29 rfl)) (mvT hZ (ow hw 30 rfl)) (mvT hZ (ow hw 31 rfl)) (mvT hZ (ow hw 32 rfl)) (by decide) (backOf (W := 0) (rm_5k0 l Z a0 hw [] b7 h7 n0 Z7 AR9) hZ (ow hw 32 rfl) (ow hw 31 rfl) (by decide) (by decide)) (g := (mkF m 92 #[vI p0, vI p1, vI p2, vI p3, vI p4, vI v5_4, vI v6_10, vI v7_16, vI v8_22, vI v9_30, vI v10_40, vI v11_50, vR r_1, vR r_3, vJ (-3750763034362895579 : Int64), .second, .unset, .unset] [(.ref b7)])) rfl (by rw [hml]; rfl) (argsL := [(.ref b7)]) (rest := []) (lenOf pd_24 rfl) rfl own_le0 (hb hby at_92) (fun _ _ => ⟨rfl, e7, (by decide : 9 + 0 ≤ _), (by decide : 24 + 0 ≤ _)⟩)
    dsimp only [Pt.U, Pt.locs, Pt.cells, Pt.slots] at X10 l10 y10 z10 st10 hQ10
    rw [l10, y10, z10] at X10
    obtain ⟨rfl, N10q, e10⟩ := hQ10
    have N10 := Fr.app N3 N10q
    have pre12 : ∀ t, SP p e below (T10.setTop (mkF m 181 #[vI p0, vI p1, vI p2, vI p3, vI p4, vI v5_4, vI v6_10, vI v7_16, vI v8_22, vI v9_30, vI v10_40, vI v11_50, vR r_1, vR r_3, vJ (-3750763034362895579 : Int64), .second, vJ f_5k0, .second] [(.long (-3750763034362895579 : Int64)), (.long f_5k0)])) t → SP p e below (s₁.setTop (entryFrame m #[(.int p0), (.int p1), (.int p2), (.int p3), (.int p4)] maxLocals)) t := by
      intro t k
      refine pre8 t ?_
      show SP p e below (T7.setTop (mkF m 92 #[vI p0, vI p1, vI p2, vI p3, vI p4, vI v5_4, vI v6_10, vI v7_16, vI v8_22, vI v9_30, vI v10_40, vI v11_50, vR r_1, vR r_3, vJ (-3750763034362895579 : Int64), .second, .unset, .unset] [(.ref b7)])) _
      refine st10 _ ?_
      show SP p e below (T10.setTop (mkF m 95 #[vI p0, vI p1, vI p2, vI p3, vI p4, vI v5_4, vI v6_10, vI v7_16, vI v8_22, vI v9_30, vI v10_40, vI v11_50, vR r_1, vR r_3, vJ (-3750763034362895579 : Int64), .second, .unset, .unset] [(.long f_5k0)])) _
      refine XS.lstore X10.here hx rfl (hb hby at_95) rfl (l' := #[vI p0, vI p1, vI p2, vI p3, vI p4, vI v5_4, vI v6_10, vI v7_16, vI v8_22, vI v9_30, vI v10_40, vI v11_50, vR r_1, vR r_3, vJ (-3750763034362895579 : Int64), .second, vJ f_5k0, .second]) rfl ?_
      show SP p e below (T10.setTop (mkF m 97 #[vI p0, vI p1, vI p2, vI p3, vI p4, vI v5_4, vI v6_10, vI v7_16, vI v8_22, vI v9_30, vI v10_40, vI v11_50, vR r_1, vR r_3, vJ (-3750763034362895579 : Int64), .second, vJ f_5k0, .second] [])) _
      refine XS.goto X10.here hx rfl (pc0 := 97) (pc' := 177) rfl (hb hby at_97) (by decide) (by decide) ?_
      show SP p e below (T10.setTop (mkF m 177 #[vI p0, vI p1, vI p2, vI p3, vI p4, vI v5_4, vI v6_10, vI v7_16, vI v8_22, vI v9_30, vI v10_40, vI v11_50, vR r_1, vR r_3, vJ (-3750763034362895579 : Int64), .second, vJ f_5k0, .second] [])) _
      refine XS.lload X10.here hx rfl (hb hby at_177) rfl  ?_
      show SP p e below (T10.setTop (mkF m 179 #[vI p0, vI p1, vI p2, vI p3, vI p4, vI v5_4, vI v6_10, vI v7_16, vI v8_22, vI v9_30, vI v10_40, vI v11_50, vR r_1, vR r_3, vJ (-3750763034362895579 : Int64), .second, vJ f_5k0, .second] [(.long f_5k0)])) _
      refine XS.lload X10.here hx rfl (hb hby at_179) rfl  ?_
      exact k
    obtain ⟨_, _, ⟨T11, L11, k11, n11⟩, -, X11, ⟨Lc11, hQ11, l11, y11, z11⟩, st11⟩ := Jvm.LawKit.callS X10 hx (y := (⟨"com/example/tern/tern/store/HashIndexHashPinLaw", "mix", "(J)J"⟩ : MethodName)) hown (mvT hZ (ow hw 36 rfl)) (mvT hZ (ow hw 37 rfl)) (mvT hZ (ow hw 3 rfl)) (mvT hZ (ow hw 38 rfl)) (by decide) (backOf (W := 2) (rm_6 l Z a0 hw [] (-3750763034362895579 : Int64) h7 n0 Z7 ) hZ (ow hw 38 rfl) (ow hw 3 rfl) (by decide) (by decide)) (g := (mkF m 181 #[vI p0, vI p1, vI p2, vI p3, vI p4, vI v5_4, vI v6_10, vI v7_16, vI v8_22, vI v9_30, vI v10_40, vI v11_50, vR r_1, vR r_3, vJ (-3750763034362895579 : Int64), .second, vJ f_5k0, .second] [(.long (-3750763034362895579 : Int64)), (.long f_5k0)])) rfl (by rw [hml]; rfl) (argsL := [(.long (-3750763034362895579 : Int64))]) (rest := [(.long f_5k0)]) (lenOf pd_25 rfl) rfl own_le0 (hb hby at_181) (fun _ _ => ⟨rfl, e10, (by decide : 9 + 0 ≤ _), (by decide : 24 + 0 ≤ _)⟩)
    dsimp only [Pt.U, Pt.locs, Pt.cells, Pt.slots] at X11 l11 y11 z11 st11 hQ11
    rw [l11, y11, z11] at X11
    obtain ⟨rfl, N11q, e11⟩ := hQ11
    have N11 := Fr.app N10 N11q
    have pre13 : ∀ t, SP p e below (T11.setTop (mkF m 185 #[vI p0, vI p1, vI p2, vI p3, vI p4, vI v5_4, vI v6_10, vI v7_16, vI v8_22, vI v9_30, vI v10_40, vI v11_50, vR r_1, vR r_3, vJ (-3750763034362895579 : Int64), .second, vJ f_5k0, .second] [(.int (lcmpW f_5k0 (f_6 (-3750763034362895579 : Int64))))])) t → SP p e below (s₁.setTop (entryFrame m #[(.int p0), (.int p1), (.int p2), (.int p3), (.int p4)] maxLocals)) t := by
      intro t k
      refine pre12 t ?_
      show SP p e below (T10.setTop (mkF m 181 #[vI p0, vI p1, vI p2, vI p3, vI p4, vI v5_4, vI v6_10, vI v7_16, vI v8_22, vI v9_30, vI v10_40, vI v11_50, vR r_1, vR r_3, vJ (-3750763034362895579 : Int64), .second, vJ f_5k0, .second] [(.long (-3750763034362895579 : Int64)), (.long f_5k0)])) _
      refine st11 _ ?_
      show SP p e below (T11.setTop (mkF m 184 #[vI p0, vI p1, vI p2, vI p3, vI p4, vI v5_4, vI v6_10, vI v7_16, vI v8_22, vI v9_30, vI v10_40, vI v11_50, vR r_1, vR r_3, vJ (-3750763034362895579 : Int64), .second, vJ f_5k0, .second] [(.long (f_6 (-3750763034362895579 : Int64))), (.long f_5k0)])) _
      refine XS.lcmp X11.here hx rfl (hb hby at_184) rfl ?_
      exact k
    obtain ⟨ms0_193, hms0_193⟩ : ∃ z : Int32, z = (if f_5k0 = (f_6 (-3750763034362895579 : Int64)) then (1 : Int32) else (0 : Int32)) := ⟨_, rfl⟩
    have pre14 : ∀ t, SP p e below (T11.setTop (mkF m 193 #[vI p0, vI p1, vI p2, vI p3, vI p4, vI v5_4, vI v6_10, vI v7_16, vI v8_22, vI v9_30, vI v10_40, vI v11_50, vR r_1, vR r_3, vJ (-3750763034362895579 : Int64), .second, vJ f_5k0, .second] [(.int ms0_193)])) t → SP p e below (s₁.setTop (entryFrame m #[(.int p0), (.int p1), (.int p2), (.int p3), (.int p4)] maxLocals)) t := by
      intro t k
      refine pre13 t ?_
      by_cases hc185 : f_5k0 = (f_6 (-3750763034362895579 : Int64))
      · show SP p e below (T11.setTop (mkF m 185 #[vI p0, vI p1, vI p2, vI p3, vI p4, vI v5_4, vI v6_10, vI v7_16, vI v8_22, vI v9_30, vI v10_40, vI v11_50, vR r_1, vR r_3, vJ (-3750763034362895579 : Int64), .second, vJ f_5k0, .second] [(.int (lcmpW f_5k0 (f_6 (-3750763034362895579 : Int64))))])) _
        refine XS.ifNo X11.here hx rfl (hb hby at_185) rfl ((if0 _ _).trans (teq ((lw_eq _ _).mpr hc185)).2) ?_
        show SP p e below (T11.setTop (mkF m 188 #[vI p0, vI p1, vI p2, vI p3, vI p4, vI v5_4, vI v6_10, vI v7_16, vI v8_22, vI v9_30, vI v10_40, vI v11_50, vR r_1, vR r_3, vJ (-3750763034362895579 : Int64), .second, vJ f_5k0, .second] [])) _
        refine XS.iconst X11.here hx rfl (hb hby at_188) ?_
        show SP p e below (T11.setTop (mkF m 189 #[vI p0, vI p1, vI p2, vI p3, vI p4, vI v5_4, vI v6_10, vI v7_16, vI v8_22, vI v9_30, vI v10_40, vI v11_50, vR r_1, vR r_3, vJ (-3750763034362895579 : Int64), .second, vJ f_5k0, .second] [(.int (1 : Int32))])) _
        refine XS.goto X11.here hx rfl (pc0 := 189) (pc' := 193) rfl (hb hby at_189) (by decide) (by decide) ?_
        have qms0_193 : ms0_193 = (1 : Int32) := by rw [hms0_193, if_pos hc185]
        rw [qms0_193] at k
        exact k
      · show SP p e below (T11.setTop (mkF m 185 #[vI p0, vI p1, vI p2, vI p3, vI p4, vI v5_4, vI v6_10, vI v7_16, vI v8_22, vI v9_30, vI v10_40, vI v11_50, vR r_1, vR r_3, vJ (-3750763034362895579 : Int64), .second, vJ f_5k0, .second] [(.int (lcmpW f_5k0 (f_6 (-3750763034362895579 : Int64))))])) _
        refine XS.ifYes X11.here hx rfl (pc0 := 185) (pc' := 192) rfl (hb hby at_185) rfl ((if0 _ _).trans (feq (fun q => hc185 ((lw_eq _ _).mp q))).2) (by decide) (by decide) ?_
        show SP p e below (T11.setTop (mkF m 192 #[vI p0, vI p1, vI p2, vI p3, vI p4, vI v5_4, vI v6_10, vI v7_16, vI v8_22, vI v9_30, vI v10_40, vI v11_50, vR r_1, vR r_3, vJ (-3750763034362895579 : Int64), .second, vJ f_5k0, .second] [])) _
        refine XS.iconst X11.here hx rfl (hb hby at_192) ?_
        have qms0_193 : ms0_193 = (0 : Int32) := by rw [hms0_193, if_neg hc185]
        rw [qms0_193] at k
        exact k
    have hnar : nar .boolean ms0_193 = ms0_193 := by rw [hms0_193]; (repeat' split) <;> rfl
    obtain ⟨fs, hr, hrun, hended, hW1, hW2, hW3, hsame⟩ := X11.leaveW hS3 (Nat.le_trans KH7.1 (Nat.le_of_eq (congrArg Array.size (e11 : T11.heap = h7).symm))) (v := some (.int ms0_193)) (fun h => by rw [Bd.returns] at h; cases h) (BodyLoose.notSynchronized Bd)
    refine ⟨_, _, pre14 _ ?_, hrun, hended, _, _, rfl, ?_, ?_, hW1, hW2, hW3, hsame.mono (by decide) (by decide)⟩
    · show SP p e below (T11.setTop (mkF m 193 #[vI p0, vI p1, vI p2, vI p3, vI p4, vI v5_4, vI v6_10, vI v7_16, vI v8_22, vI v9_30, vI v10_40, vI v11_50, vR r_1, vR r_3, vJ (-3750763034362895579 : Int64), .second, vJ f_5k0, .second] [(.int ms0_193)])) _
      exact retN X11 hx (t := .boolean) Bd.returns (by simp) (hb hby at_193) (by rw [hnar]; exact hr)
    · show Q_0 Z p0 p1 p2 p3 p4 cs_ fm_ h0 n0 _ T11.heap _
      rw [e11]
      exact ⟨congrArg (fun z => some (Value.int z)) (by subst hv5_4 hv6_10 hv7_16 hv8_22 hv9_30 hv10_40 hv11_50 hms0_193; exact (if_pos hc85).symm : ms0_193 = f_0 p0 p1 p2 p3 p4 cs_), N11, trivial⟩
    · show own_H own_cs Z T11.vm T11.heap
      rw [e11]
      exact (hH3.go (B := (s.setVm T3.vm)) hZ wl X11.warmed KH7 all0)
  · have pre16 : ∀ t, SP p e below (T3.setTop (mkF m 108 #[vI p0, vI p1, vI p2, vI p3, vI p4, vI v5_4, vI v6_10, vI v7_16, vI v8_22, vI v9_30, vI v10_40, vI v11_50, vR r_1, vR r_3, vJ (-3750763034362895579 : Int64), .second, .unset, .unset] [(.int v6_10), (.int v5_4), (.int v9_30), (.long (-3750763034362895579 : Int64))])) t → SP p e below (s₁.setTop (entryFrame m #[(.int p0), (.int p1), (.int p2), (.int p3), (.int p4)] maxLocals)) t := by
      intro t k
      refine pre5 t ?_
      show SP p e below (T3.setTop (mkF m 85 #[vI p0, vI p1, vI p2, vI p3, vI p4, vI v5_4, vI v6_10, vI v7_16, vI v8_22, vI v9_30, vI v10_40, vI v11_50, vR r_1, vR r_3, vJ (-3750763034362895579 : Int64), .second, .unset, .unset] [(.int v11_50)])) _
      refine XS.ifYes X3.here hx rfl (pc0 := 85) (pc' := 100) rfl (hb hby at_85) rfl ((if0 _ _).trans (feq hc85).2) (by decide) (by decide) ?_
      show SP p e below (T3.setTop (mkF m 100 #[vI p0, vI p1, vI p2, vI p3, vI p4, vI v5_4, vI v6_10, vI v7_16, vI v8_22, vI v9_30, vI v10_40, vI v11_50, vR r_1, vR r_3, vJ (-3750763034362895579 : Int64), .second, .unset, .unset] [])) _
      refine XS.lload X3.here hx rfl (hb hby at_100) rfl  ?_
      show SP p e below (T3.setTop (mkF m 102 #[vI p0, vI p1, vI p2, vI p3, vI p4, vI v5_4, vI v6_10, vI v7_16, vI v8_22, vI v9_30, vI v10_40, vI v11_50, vR r_1, vR r_3, vJ (-3750763034362895579 : Int64), .second, .unset, .unset] [(.long (-3750763034362895579 : Int64))])) _
      refine XS.iload X3.here hx rfl (hb hby at_102) rfl  ?_
      show SP p e below (T3.setTop (mkF m 104 #[vI p0, vI p1, vI p2, vI p3, vI p4, vI v5_4, vI v6_10, vI v7_16, vI v8_22, vI v9_30, vI v10_40, vI v11_50, vR r_1, vR r_3, vJ (-3750763034362895579 : Int64), .second, .unset, .unset] [(.int v9_30), (.long (-3750763034362895579 : Int64))])) _
      refine XS.iload X3.here hx rfl (hb hby at_104) rfl  ?_
      show SP p e below (T3.setTop (mkF m 106 #[vI p0, vI p1, vI p2, vI p3, vI p4, vI v5_4, vI v6_10, vI v7_16, vI v8_22, vI v9_30, vI v10_40, vI v11_50, vR r_1, vR r_3, vJ (-3750763034362895579 : Int64), .second, .unset, .unset] [(.int v5_4), (.int v9_30), (.long (-3750763034362895579 : Int64))])) _
      refine XS.iload X3.here hx rfl (hb hby at_106) rfl  ?_
      exact k
    obtain ⟨_, _, ⟨T15, L15, k15, n15⟩, -, X15, ⟨Lc15, hQ15, l15, y15, z15⟩, st15⟩ := Jvm.LawKit.callS X3 hx (y := (⟨"com/example/tern/tern/store/HashIndexHashPinLaw", "feed", "(JIII)J"⟩ : MethodName)) hown (mvT hZ (ow hw 66 rfl)) (mvT hZ (ow hw 67 rfl)) (mvT hZ (ow hw 3 rfl)) (mvT hZ (ow hw 68 rfl)) (by decide) (backOf (W := 0) (rm_14 l Z a0 hw [] (-3750763034362895579 : Int64) v9_30 v5_4 v6_10 T3.heap n0 Z3 ) hZ (ow hw 68 rfl) (ow hw 3 rfl) (by decide) (by decide)) (g := (mkF m 108 #[vI p0, vI p1, vI p2, vI p3, vI p4, vI v5_4, vI v6_10, vI v7_16, vI v8_22, vI v9_30, vI v10_40, vI v11_50, vR r_1, vR r_3, vJ (-3750763034362895579 : Int64), .second, .unset, .unset] [(.int v6_10), (.int v5_4), (.int v9_30), (.long (-3750763034362895579 : Int64))])) rfl (by rw [hml]; rfl) (argsL := [(.long (-3750763034362895579 : Int64)), (.int v9_30), (.int v5_4), (.int v6_10)]) (rest := []) (lenOf pd_26 rfl) rfl own_le0 (hb hby at_108) (fun _ _ => ⟨rfl, rfl, (by decide : 8 + 0 ≤ _), (by decide : 24 + 0 ≤ _)⟩)
    dsimp only [Pt.U, Pt.locs, Pt.cells, Pt.slots] at X15 l15 y15 z15 st15 hQ15
    rw [l15, y15, z15] at X15
    obtain ⟨rfl, N15q, e15⟩ := hQ15
    have N15 := Fr.app N3 N15q
    obtain ⟨v14_111, hv14_111⟩ : ∃ z : Int64, z = (f_14 (-3750763034362895579 : Int64) v9_30 v5_4 v6_10) := ⟨_, rfl⟩
    have pre17 : ∀ t, SP p e below (T15.setTop (mkF m 116 #[vI p0, vI p1, vI p2, vI p3, vI p4, vI v5_4, vI v6_10, vI v7_16, vI v8_22, vI v9_30, vI v10_40, vI v11_50, vR r_1, vR r_3, vJ v14_111, .second, .unset, .unset] [(.int (1 : Int32)), (.int v11_50)])) t → SP p e below (s₁.setTop (entryFrame m #[(.int p0), (.int p1), (.int p2), (.int p3), (.int p4)] maxLocals)) t := by
      intro t k
      refine pre16 t ?_
      show SP p e below (T3.setTop (mkF m 108 #[vI p0, vI p1, vI p2, vI p3, vI p4, vI v5_4, vI v6_10, vI v7_16, vI v8_22, vI v9_30, vI v10_40, vI v11_50, vR r_1, vR r_3, vJ (-3750763034362895579 : Int64), .second, .unset, .unset] [(.int v6_10), (.int v5_4), (.int v9_30), (.long (-3750763034362895579 : Int64))])) _
      refine st15 _ ?_
      show SP p e below (T15.setTop (mkF m 111 #[vI p0, vI p1, vI p2, vI p3, vI p4, vI v5_4, vI v6_10, vI v7_16, vI v8_22, vI v9_30, vI v10_40, vI v11_50, vR r_1, vR r_3, vJ (-3750763034362895579 : Int64), .second, .unset, .unset] [(.long (f_14 (-3750763034362895579 : Int64) v9_30 v5_4 v6_10))])) _
      refine XS.lstore X15.here hx rfl (hb hby at_111) rfl (l' := #[vI p0, vI p1, vI p2, vI p3, vI p4, vI v5_4, vI v6_10, vI v7_16, vI v8_22, vI v9_30, vI v10_40, vI v11_50, vR r_1, vR r_3, vJ v14_111, .second, .unset, .unset]) (by rw [hv14_111]; rfl) ?_
      show SP p e below (T15.setTop (mkF m 113 #[vI p0, vI p1, vI p2, vI p3, vI p4, vI v5_4, vI v6_10, vI v7_16, vI v8_22, vI v9_30, vI v10_40, vI v11_50, vR r_1, vR r_3, vJ v14_111, .second, .unset, .unset] [])) _
      refine XS.iload X15.here hx rfl (hb hby at_113) rfl  ?_
      show SP p e below (T15.setTop (mkF m 115 #[vI p0, vI p1, vI p2, vI p3, vI p4, vI v5_4, vI v6_10, vI v7_16, vI v8_22, vI v9_30, vI v10_40, vI v11_50, vR r_1, vR r_3, vJ v14_111, .second, .unset, .unset] [(.int v11_50)])) _
      refine XS.iconst X15.here hx rfl (hb hby at_115) ?_
      exact k
    by_cases hc116 : v11_50 = (1 : Int32)
    · have pre18 : ∀ t, SP p e below (T15.setTop (mkF m 120 #[vI p0, vI p1, vI p2, vI p3, vI p4, vI v5_4, vI v6_10, vI v7_16, vI v8_22, vI v9_30, vI v10_40, vI v11_50, vR r_1, vR r_3, vJ v14_111, .second, .unset, .unset] [(.int (1 : Int32))])) t → SP p e below (s₁.setTop (entryFrame m #[(.int p0), (.int p1), (.int p2), (.int p3), (.int p4)] maxLocals)) t := by
        intro t k
        refine pre17 t ?_
        show SP p e below (T15.setTop (mkF m 116 #[vI p0, vI p1, vI p2, vI p3, vI p4, vI v5_4, vI v6_10, vI v7_16, vI v8_22, vI v9_30, vI v10_40, vI v11_50, vR r_1, vR r_3, vJ v14_111, .second, .unset, .unset] [(.int (1 : Int32)), (.int v11_50)])) _
        refine XS.icmpNo X15.here hx rfl (hb hby at_116) rfl (teq hc116).2 ?_
        show SP p e below (T15.setTop (mkF m 119 #[vI p0, vI p1, vI p2, vI p3, vI p4, vI v5_4, vI v6_10, vI v7_16, vI v8_22, vI v9_30, vI v10_40, vI v11_50, vR r_1, vR r_3, vJ v14_111, .second, .unset, .unset] [])) _
        refine XS.iconst X15.here hx rfl (hb hby at_119) ?_
        exact k
      obtain ⟨T19, h19, b19, k19, gb19, X19, e19, E19, A19, O19, st19⟩ := own_newR X15 hx hZ hown (ow hw 5 rfl) (ow hw 28 rfl) e15 (g := (mkF m 120 #[vI p0, vI p1, vI p2, vI p3, vI p4, vI v5_4, vI v6_10, vI v7_16, vI v8_22, vI v9_30, vI v10_40, vI v11_50, vR r_1, vR r_3, vJ v14_111, .second, .unset, .unset] [(.int (1 : Int32))])) rfl (hb hby at_120) rfl (by decide) (n := 1) rfl (by decide) (by decide) (by decide)
      have ne_r_1_b19 : r_1 ≠ b19 := Nat.ne_of_lt (Nat.lt_of_lt_of_le exa_r_1_3.lt (Nat.le_of_eq gb19.symm))
      have ne_w_1_b19 : w_1 ≠ b19 := Nat.ne_of_lt (Nat.lt_of_lt_of_le arr_w_1_3.lt (Nat.le_of_eq gb19.symm))
      have ne_r_3_b19 : r_3 ≠ b19 := Nat.ne_of_lt (Nat.lt_of_lt_of_le Q3_0.lt (Nat.le_of_eq gb19.symm))
      have ne_w_3_b19 : w_3 ≠ b19 := Nat.ne_of_lt (Nat.lt_of_lt_of_le Q3_3.lt (Nat.le_of_eq gb19.symm))
      have sz_b19 : h0.size ≤ b19 := Nat.le_trans K3.1 (Nat.le_of_eq gb19.symm)
      have ge_b19 : n0 ≤ b19 := Nat.le_trans Z3 (Nat.le_of_eq gb19.symm)
      have st_COMP_19 := st_COMP_3.ext E19
      have st_SIOO_19 := st_SIOO_3.ext E19
      have st__ass_19 := st__ass_3.ext E19
      have st_HI_B_19 := st_HI_B_3.ext E19
      have st_LO_B_19 := st_LO_B_3.ext E19
      have exa_r_1_19 := exa_r_1_3.ext E19
      have fld_r_1_value_19 := fld_r_1_value_3.ext E19
      have fld_r_1_coder_19 := fld_r_1_coder_3.ext E19
      have arr_w_1_19 := arr_w_1_3.ext E19
      have exa_r_3_19 := Q3_0.ext E19
      have fld_r_3_value_19 := Q3_1.ext E19
      have fld_r_3_coder_19 := Q3_2.ext E19
      have arr_w_3_19 := Q3_3.ext E19
      have K19 := K3.ext E19
      have Z19 := Nat.le_trans Z3 E19.1
      have szH_b19 : T3.heap.size ≤ b19 := Nat.le_trans (Keep.refl T3.heap []).1 (Nat.le_of_eq gb19.symm)
      have KH19 := (Keep.refl T3.heap []).ext E19
      have pre20 : ∀ t, SP p e below (T19.setTop (mkF m 127 #[vI p0, vI p1, vI p2, vI p3, vI p4, vI v5_4, vI v6_10, vI v7_16, vI v8_22, vI v9_30, vI v10_40, vI v11_50, vR r_1, vR r_3, vJ v14_111, .second, .unset, .unset] [(.ref r_1), (.int (0 : Int32)), (.ref b19), (.ref b19)])) t → SP p e below (s₁.setTop (entryFrame m #[(.int p0), (.int p1), (.int p2), (.int p3), (.int p4)] maxLocals)) t := by
        intro t k
        refine pre18 t ?_
        show SP p e below (T15.setTop (mkF m 120 #[vI p0, vI p1, vI p2, vI p3, vI p4, vI v5_4, vI v6_10, vI v7_16, vI v8_22, vI v9_30, vI v10_40, vI v11_50, vR r_1, vR r_3, vJ v14_111, .second, .unset, .unset] [(.int (1 : Int32))])) _
        refine st19 _ ?_
        show SP p e below (T19.setTop (mkF m 123 #[vI p0, vI p1, vI p2, vI p3, vI p4, vI v5_4, vI v6_10, vI v7_16, vI v8_22, vI v9_30, vI v10_40, vI v11_50, vR r_1, vR r_3, vJ v14_111, .second, .unset, .unset] [(.ref b19)])) _
        refine XS.dup X19.here hx rfl (hb hby at_123) rfl rfl ?_
        show SP p e below (T19.setTop (mkF m 124 #[vI p0, vI p1, vI p2, vI p3, vI p4, vI v5_4, vI v6_10, vI v7_16, vI v8_22, vI v9_30, vI v10_40, vI v11_50, vR r_1, vR r_3, vJ v14_111, .second, .unset, .unset] [(.ref b19), (.ref b19)])) _
        refine XS.iconst X19.here hx rfl (hb hby at_124) ?_
        show SP p e below (T19.setTop (mkF m 125 #[vI p0, vI p1, vI p2, vI p3, vI p4, vI v5_4, vI v6_10, vI v7_16, vI v8_22, vI v9_30, vI v10_40, vI v11_50, vR r_1, vR r_3, vJ v14_111, .second, .unset, .unset] [(.int (0 : Int32)), (.ref b19), (.ref b19)])) _
        refine XS.aload X19.here hx rfl (hb hby at_125) rfl rfl ?_
        exact k
      obtain ⟨T21, h21, X21, e21, W21, A21, st21⟩ := own_stR X19 hx hZ e19 A19 O19 (Ins.self exa_r_1_19) (j := (0 : Int32)) (k := 0) (by decide) (by decide) (by decide) (g := (mkF m 127 #[vI p0, vI p1, vI p2, vI p3, vI p4, vI v5_4, vI v6_10, vI v7_16, vI v8_22, vI v9_30, vI v10_40, vI v11_50, vR r_1, vR r_3, vJ v14_111, .second, .unset, .unset] [(.ref r_1), (.int (0 : Int32)), (.ref b19), (.ref b19)])) rfl rfl (hb hby at_127)
      obtain ⟨g_127, hg_127⟩ : ∃ z : Nat → Value, z = (own_upd own_zR 0 (Value.ref r_1)) := ⟨_, rfl⟩
      rw [← hg_127] at A21
      have st_COMP_21 := st_COMP_19.wr W21
      have st_SIOO_21 := st_SIOO_19.wr W21
      have st__ass_21 := st__ass_19.wr W21
      have st_HI_B_21 := st_HI_B_19.wr W21
      have st_LO_B_21 := st_LO_B_19.wr W21
      have exa_r_1_21 := exa_r_1_19.wr W21
      have fld_r_1_value_21 := fld_r_1_value_19.other W21 (Or.inl ne_r_1_b19)
      have fld_r_1_coder_21 := fld_r_1_coder_19.other W21 (Or.inl ne_r_1_b19)
      have arr_w_1_21 := arr_w_1_19.other W21 ne_w_1_b19
      have exa_r_3_21 := exa_r_3_19.wr W21
      have fld_r_3_value_21 := fld_r_3_value_19.other W21 (Or.inl ne_r_3_b19)
      have fld_r_3_coder_21 := fld_r_3_coder_19.other W21 (Or.inl ne_r_3_b19)
      have arr_w_3_21 := arr_w_3_19.other W21 ne_w_3_b19
      have K21 := K19.wr W21 (Or.inr sz_b19)
      have Z21 := Nat.le_trans Z19 (Nat.le_of_eq W21.size.symm)
      have N21 := Fr.snoc X21 N15 ge_b19
      have KH21 := KH19.wr W21 (Or.inr szH_b19)
      have pre22 : ∀ t, SP p e below (T21.setTop (mkF m 128 #[vI p0, vI p1, vI p2, vI p3, vI p4, vI v5_4, vI v6_10, vI v7_16, vI v8_22, vI v9_30, vI v10_40, vI v11_50, vR r_1, vR r_3, vJ v14_111, .second, .unset, .unset] [(.ref b19)])) t → SP p e below (s₁.setTop (entryFrame m #[(.int p0), (.int p1), (.int p2), (.int p3), (.int p4)] maxLocals)) t := by
        intro t k
        refine pre20 t ?_
        show SP p e below (T19.setTop (mkF m 127 #[vI p0, vI p1, vI p2, vI p3, vI p4, vI v5_4, vI v6_10, vI v7_16, vI v8_22, vI v9_30, vI v10_40, vI v11_50, vR r_1, vR r_3, vJ v14_111, .second, .unset, .unset] [(.ref r_1), (.int (0 : Int32)), (.ref b19), (.ref b19)])) _
        refine st21 _ ?_
        exact k
      have AR23 : own_A Z h21 b19 (.object "java/lang/String") 1 (fun i => (own_r1 r_1) i) := A21.toA.congr (fun i hi => by rw [hg_127]; exact own_r1_eq r_1 i hi)
      obtain ⟨_, _, ⟨T24, L24, k24, n24⟩, -, X24, ⟨Lc24, hQ24, l24, y24, z24⟩, st24⟩ := Jvm.LawKit.callS X21 hx (y := (⟨"com/example/tern/tern/store/HashIndex", "hash", "([Ljava/lang/String;)J"⟩ : MethodName)) hown (mvT hZ (ow hw 29 rfl)) (mvT hZ (ow hw 30 rfl)) (mvT hZ (ow hw 31 rfl)) (mvT hZ (ow hw 32 rfl)) (by decide) (backOf (W := 0) (rm_5k1 l Z a0 hw [] b19 r_1 w_1 (own_co v9_30 (v5_4.toUInt32.toUInt16.toUInt32.toInt32) (v6_10.toUInt32.toUInt16.toUInt32.toInt32)) (own_nb v9_30 (v5_4.toUInt32.toUInt16.toUInt32.toInt32) (v6_10.toUInt32.toUInt16.toUInt32.toInt32)) (own_by v9_30 (v5_4.toUInt32.toUInt16.toUInt32.toInt32) (v6_10.toUInt32.toUInt16.toUInt32.toInt32) cs_) cs_ fm_ h21 n0 Z21 AR23 exa_r_1_21 fld_r_1_value_21 fld_r_1_coder_21 arr_w_1_21 (own_kk _ _ _) st_COMP_21 hcs st_SIOO_21 hfm st__ass_21 st_HI_B_21 st_LO_B_21) hZ (ow hw 32 rfl) (ow hw 31 rfl) (by decide) (by decide)) (g := (mkF m 128 #[vI p0, vI p1, vI p2, vI p3, vI p4, vI v5_4, vI v6_10, vI v7_16, vI v8_22, vI v9_30, vI v10_40, vI v11_50, vR r_1, vR r_3, vJ v14_111, .second, .unset, .unset] [(.ref b19)])) rfl (by rw [hml]; rfl) (argsL := [(.ref b19)]) (rest := []) (lenOf pd_24 rfl) rfl own_le0 (hb hby at_128) (fun _ _ => ⟨rfl, e21, (by decide : 9 + 0 ≤ _), (by decide : 25 + 0 ≤ _)⟩)
      dsimp only [Pt.U, Pt.locs, Pt.cells, Pt.slots] at X24 l24 y24 z24 st24 hQ24
      rw [l24, y24, z24] at X24
      obtain ⟨rfl, N24q, e24⟩ := hQ24
      have N24 := Fr.app N21 N24q
      obtain ⟨v16_131, hv16_131⟩ : ∃ z : Int64, z = (f_5k1 (own_co v9_30 (v5_4.toUInt32.toUInt16.toUInt32.toInt32) (v6_10.toUInt32.toUInt16.toUInt32.toInt32)) (own_nb v9_30 (v5_4.toUInt32.toUInt16.toUInt32.toInt32) (v6_10.toUInt32.toUInt16.toUInt32.toInt32)) (own_by v9_30 (v5_4.toUInt32.toUInt16.toUInt32.toInt32) (v6_10.toUInt32.toUInt16.toUInt32.toInt32) cs_) cs_) := ⟨_, rfl⟩
      have pre26 : ∀ t, SP p e below (T24.setTop (mkF m 181 #[vI p0, vI p1, vI p2, vI p3, vI p4, vI v5_4, vI v6_10, vI v7_16, vI v8_22, vI v9_30, vI v10_40, vI v11_50, vR r_1, vR r_3, vJ v14_111, .second, vJ v16_131, .second] [(.long v14_111), (.long v16_131)])) t → SP p e below (s₁.setTop (entryFrame m #[(.int p0), (.int p1), (.int p2), (.int p3), (.int p4)] maxLocals)) t := by
        intro t k
        refine pre22 t ?_
        show SP p e below (T21.setTop (mkF m 128 #[vI p0, vI p1, vI p2, vI p3, vI p4, vI v5_4, vI v6_10, vI v7_16, vI v8_22, vI v9_30, vI v10_40, vI v11_50, vR r_1, vR r_3, vJ v14_111, .second, .unset, .unset] [(.ref b19)])) _
        refine st24 _ ?_
        show SP p e below (T24.setTop (mkF m 131 #[vI p0, vI p1, vI p2, vI p3, vI p4, vI v5_4, vI v6_10, vI v7_16, vI v8_22, vI v9_30, vI v10_40, vI v11_50, vR r_1, vR r_3, vJ v14_111, .second, .unset, .unset] [(.long (f_5k1 (own_co v9_30 (v5_4.toUInt32.toUInt16.toUInt32.toInt32) (v6_10.toUInt32.toUInt16.toUInt32.toInt32)) (own_nb v9_30 (v5_4.toUInt32.toUInt16.toUInt32.toInt32) (v6_10.toUInt32.toUInt16.toUInt32.toInt32)) (own_by v9_30 (v5_4.toUInt32.toUInt16.toUInt32.toInt32) (v6_10.toUInt32.toUInt16.toUInt32.toInt32) cs_) cs_))])) _
        refine XS.lstore X24.here hx rfl (hb hby at_131) rfl (l' := #[vI p0, vI p1, vI p2, vI p3, vI p4, vI v5_4, vI v6_10, vI v7_16, vI v8_22, vI v9_30, vI v10_40, vI v11_50, vR r_1, vR r_3, vJ v14_111, .second, vJ v16_131, .second]) (by rw [hv16_131]; rfl) ?_
        show SP p e below (T24.setTop (mkF m 133 #[vI p0, vI p1, vI p2, vI p3, vI p4, vI v5_4, vI v6_10, vI v7_16, vI v8_22, vI v9_30, vI v10_40, vI v11_50, vR r_1, vR r_3, vJ v14_111, .second, vJ v16_131, .second] [])) _
        refine XS.goto X24.here hx rfl (pc0 := 133) (pc' := 177) rfl (hb hby at_133) (by decide) (by decide) ?_
        show SP p e below (T24.setTop (mkF m 177 #[vI p0, vI p1, vI p2, vI p3, vI p4, vI v5_4, vI v6_10, vI v7_16, vI v8_22, vI v9_30, vI v10_40, vI v11_50, vR r_1, vR r_3, vJ v14_111, .second, vJ v16_131, .second] [])) _
        refine XS.lload X24.here hx rfl (hb hby at_177) rfl  ?_
        show SP p e below (T24.setTop (mkF m 179 #[vI p0, vI p1, vI p2, vI p3, vI p4, vI v5_4, vI v6_10, vI v7_16, vI v8_22, vI v9_30, vI v10_40, vI v11_50, vR r_1, vR r_3, vJ v14_111, .second, vJ v16_131, .second] [(.long v16_131)])) _
        refine XS.lload X24.here hx rfl (hb hby at_179) rfl  ?_
        exact k
      obtain ⟨_, _, ⟨T25, L25, k25, n25⟩, -, X25, ⟨Lc25, hQ25, l25, y25, z25⟩, st25⟩ := Jvm.LawKit.callS X24 hx (y := (⟨"com/example/tern/tern/store/HashIndexHashPinLaw", "mix", "(J)J"⟩ : MethodName)) hown (mvT hZ (ow hw 36 rfl)) (mvT hZ (ow hw 37 rfl)) (mvT hZ (ow hw 3 rfl)) (mvT hZ (ow hw 38 rfl)) (by decide) (backOf (W := 2) (rm_6 l Z a0 hw [] v14_111 h21 n0 Z21 ) hZ (ow hw 38 rfl) (ow hw 3 rfl) (by decide) (by decide)) (g := (mkF m 181 #[vI p0, vI p1, vI p2, vI p3, vI p4, vI v5_4, vI v6_10, vI v7_16, vI v8_22, vI v9_30, vI v10_40, vI v11_50, vR r_1, vR r_3, vJ v14_111, .second, vJ v16_131, .second] [(.long v14_111), (.long v16_131)])) rfl (by rw [hml]; rfl) (argsL := [(.long v14_111)]) (rest := [(.long v16_131)]) (lenOf pd_25 rfl) rfl own_le0 (hb hby at_181) (fun _ _ => ⟨rfl, e24, (by decide : 9 + 0 ≤ _), (by decide : 25 + 0 ≤ _)⟩)
      dsimp only [Pt.U, Pt.locs, Pt.cells, Pt.slots] at X25 l25 y25 z25 st25 hQ25
      rw [l25, y25, z25] at X25
      obtain ⟨rfl, N25q, e25⟩ := hQ25
      have N25 := Fr.app N24 N25q
      have pre27 : ∀ t, SP p e below (T25.setTop (mkF m 185 #[vI p0, vI p1, vI p2, vI p3, vI p4, vI v5_4, vI v6_10, vI v7_16, vI v8_22, vI v9_30, vI v10_40, vI v11_50, vR r_1, vR r_3, vJ v14_111, .second, vJ v16_131, .second] [(.int (lcmpW v16_131 (f_6 v14_111)))])) t → SP p e below (s₁.setTop (entryFrame m #[(.int p0), (.int p1), (.int p2), (.int p3), (.int p4)] maxLocals)) t := by
        intro t k
        refine pre26 t ?_
        show SP p e below (T24.setTop (mkF m 181 #[vI p0, vI p1, vI p2, vI p3, vI p4, vI v5_4, vI v6_10, vI v7_16, vI v8_22, vI v9_30, vI v10_40, vI v11_50, vR r_1, vR r_3, vJ v14_111, .second, vJ v16_131, .second] [(.long v14_111), (.long v16_131)])) _
        refine st25 _ ?_
        show SP p e below (T25.setTop (mkF m 184 #[vI p0, vI p1, vI p2, vI p3, vI p4, vI v5_4, vI v6_10, vI v7_16, vI v8_22, vI v9_30, vI v10_40, vI v11_50, vR r_1, vR r_3, vJ v14_111, .second, vJ v16_131, .second] [(.long (f_6 v14_111)), (.long v16_131)])) _
        refine XS.lcmp X25.here hx rfl (hb hby at_184) rfl ?_
        exact k
      obtain ⟨ms0_193, hms0_193⟩ : ∃ z : Int32, z = (if v16_131 = (f_6 v14_111) then (1 : Int32) else (0 : Int32)) := ⟨_, rfl⟩
      have pre28 : ∀ t, SP p e below (T25.setTop (mkF m 193 #[vI p0, vI p1, vI p2, vI p3, vI p4, vI v5_4, vI v6_10, vI v7_16, vI v8_22, vI v9_30, vI v10_40, vI v11_50, vR r_1, vR r_3, vJ v14_111, .second, vJ v16_131, .second] [(.int ms0_193)])) t → SP p e below (s₁.setTop (entryFrame m #[(.int p0), (.int p1), (.int p2), (.int p3), (.int p4)] maxLocals)) t := by
        intro t k
        refine pre27 t ?_
        by_cases hc185 : v16_131 = (f_6 v14_111)
        · show SP p e below (T25.setTop (mkF m 185 #[vI p0, vI p1, vI p2, vI p3, vI p4, vI v5_4, vI v6_10, vI v7_16, vI v8_22, vI v9_30, vI v10_40, vI v11_50, vR r_1, vR r_3, vJ v14_111, .second, vJ v16_131, .second] [(.int (lcmpW v16_131 (f_6 v14_111)))])) _
          refine XS.ifNo X25.here hx rfl (hb hby at_185) rfl ((if0 _ _).trans (teq ((lw_eq _ _).mpr hc185)).2) ?_
          show SP p e below (T25.setTop (mkF m 188 #[vI p0, vI p1, vI p2, vI p3, vI p4, vI v5_4, vI v6_10, vI v7_16, vI v8_22, vI v9_30, vI v10_40, vI v11_50, vR r_1, vR r_3, vJ v14_111, .second, vJ v16_131, .second] [])) _
          refine XS.iconst X25.here hx rfl (hb hby at_188) ?_
          show SP p e below (T25.setTop (mkF m 189 #[vI p0, vI p1, vI p2, vI p3, vI p4, vI v5_4, vI v6_10, vI v7_16, vI v8_22, vI v9_30, vI v10_40, vI v11_50, vR r_1, vR r_3, vJ v14_111, .second, vJ v16_131, .second] [(.int (1 : Int32))])) _
          refine XS.goto X25.here hx rfl (pc0 := 189) (pc' := 193) rfl (hb hby at_189) (by decide) (by decide) ?_
          have qms0_193 : ms0_193 = (1 : Int32) := by rw [hms0_193, if_pos hc185]
          rw [qms0_193] at k
          exact k
        · show SP p e below (T25.setTop (mkF m 185 #[vI p0, vI p1, vI p2, vI p3, vI p4, vI v5_4, vI v6_10, vI v7_16, vI v8_22, vI v9_30, vI v10_40, vI v11_50, vR r_1, vR r_3, vJ v14_111, .second, vJ v16_131, .second] [(.int (lcmpW v16_131 (f_6 v14_111)))])) _
          refine XS.ifYes X25.here hx rfl (pc0 := 185) (pc' := 192) rfl (hb hby at_185) rfl ((if0 _ _).trans (feq (fun q => hc185 ((lw_eq _ _).mp q))).2) (by decide) (by decide) ?_
          show SP p e below (T25.setTop (mkF m 192 #[vI p0, vI p1, vI p2, vI p3, vI p4, vI v5_4, vI v6_10, vI v7_16, vI v8_22, vI v9_30, vI v10_40, vI v11_50, vR r_1, vR r_3, vJ v14_111, .second, vJ v16_131, .second] [])) _
          refine XS.iconst X25.here hx rfl (hb hby at_192) ?_
          have qms0_193 : ms0_193 = (0 : Int32) := by rw [hms0_193, if_neg hc185]
          rw [qms0_193] at k
          exact k
      have hnar : nar .boolean ms0_193 = ms0_193 := by rw [hms0_193]; (repeat' split) <;> rfl
      obtain ⟨fs, hr, hrun, hended, hW1, hW2, hW3, hsame⟩ := X25.leaveW hS3 (Nat.le_trans KH21.1 (Nat.le_of_eq (congrArg Array.size (e25 : T25.heap = h21).symm))) (v := some (.int ms0_193)) (fun h => by rw [Bd.returns] at h; cases h) (BodyLoose.notSynchronized Bd)
      refine ⟨_, _, pre28 _ ?_, hrun, hended, _, _, rfl, ?_, ?_, hW1, hW2, hW3, hsame.mono (by decide) (by decide)⟩
      · show SP p e below (T25.setTop (mkF m 193 #[vI p0, vI p1, vI p2, vI p3, vI p4, vI v5_4, vI v6_10, vI v7_16, vI v8_22, vI v9_30, vI v10_40, vI v11_50, vR r_1, vR r_3, vJ v14_111, .second, vJ v16_131, .second] [(.int ms0_193)])) _
        exact retN X25 hx (t := .boolean) Bd.returns (by simp) (hb hby at_193) (by rw [hnar]; exact hr)
      · show Q_0 Z p0 p1 p2 p3 p4 cs_ fm_ h0 n0 _ T25.heap _
        rw [e25]
        exact ⟨congrArg (fun z => some (Value.int z)) (by subst hv5_4 hv6_10 hv7_16 hv8_22 hv9_30 hv10_40 hv11_50 hv14_111 hv16_131 hms0_193; exact ((if_neg hc85).trans (if_pos hc116)).symm : ms0_193 = f_0 p0 p1 p2 p3 p4 cs_), N25, trivial⟩
      · show own_H own_cs Z T25.vm T25.heap
        rw [e25]
        exact (hH3.go (B := (s.setVm T3.vm)) hZ wl X25.warmed KH21 all0)
    · have pre30 : ∀ t, SP p e below (T15.setTop (mkF m 140 #[vI p0, vI p1, vI p2, vI p3, vI p4, vI v5_4, vI v6_10, vI v7_16, vI v8_22, vI v9_30, vI v10_40, vI v11_50, vR r_1, vR r_3, vJ v14_111, .second, .unset, .unset] [(.int (65535 : Int32)), (.long v14_111)])) t → SP p e below (s₁.setTop (entryFrame m #[(.int p0), (.int p1), (.int p2), (.int p3), (.int p4)] maxLocals)) t := by
        intro t k
        refine pre17 t ?_
        show SP p e below (T15.setTop (mkF m 116 #[vI p0, vI p1, vI p2, vI p3, vI p4, vI v5_4, vI v6_10, vI v7_16, vI v8_22, vI v9_30, vI v10_40, vI v11_50, vR r_1, vR r_3, vJ v14_111, .second, .unset, .unset] [(.int (1 : Int32)), (.int v11_50)])) _
        refine XS.icmpYes X15.here hx rfl (pc0 := 116) (pc' := 136) rfl (hb hby at_116) rfl (feq hc116).2 (by decide) (by decide) ?_
        show SP p e below (T15.setTop (mkF m 136 #[vI p0, vI p1, vI p2, vI p3, vI p4, vI v5_4, vI v6_10, vI v7_16, vI v8_22, vI v9_30, vI v10_40, vI v11_50, vR r_1, vR r_3, vJ v14_111, .second, .unset, .unset] [])) _
        refine XS.lload X15.here hx rfl (hb hby at_136) rfl  ?_
        show SP p e below (T15.setTop (mkF m 138 #[vI p0, vI p1, vI p2, vI p3, vI p4, vI v5_4, vI v6_10, vI v7_16, vI v8_22, vI v9_30, vI v10_40, vI v11_50, vR r_1, vR r_3, vJ v14_111, .second, .unset, .unset] [(.long v14_111)])) _
        refine X15.ldcInt hx hown (mvT hZ (ow hw 0 rfl)) (g := (mkF m 138 #[vI p0, vI p1, vI p2, vI p3, vI p4, vI v5_4, vI v6_10, vI v7_16, vI v8_22, vI v9_30, vI v10_40, vI v11_50, vR r_1, vR r_3, vJ v14_111, .second, .unset, .unset] [(.long v14_111)])) rfl (hb hby at_138) _ ?_
        exact k
      obtain ⟨_, _, ⟨T29, L29, k29, n29⟩, -, X29, ⟨Lc29, hQ29, l29, y29, z29⟩, st29⟩ := Jvm.LawKit.callS X15 hx (y := (⟨"com/example/tern/tern/store/HashIndexHashPinLaw", "step", "(JI)J"⟩ : MethodName)) hown (mvT hZ (ow hw 69 rfl)) (mvT hZ (ow hw 70 rfl)) (mvT hZ (ow hw 3 rfl)) (mvT hZ (ow hw 71 rfl)) (by decide) (backOf (W := 0) (rm_15 l Z a0 hw [] v14_111 (65535 : Int32) T3.heap n0 Z3 ) hZ (ow hw 71 rfl) (ow hw 3 rfl) (by decide) (by decide)) (g := (mkF m 140 #[vI p0, vI p1, vI p2, vI p3, vI p4, vI v5_4, vI v6_10, vI v7_16, vI v8_22, vI v9_30, vI v10_40, vI v11_50, vR r_1, vR r_3, vJ v14_111, .second, .unset, .unset] [(.int (65535 : Int32)), (.long v14_111)])) rfl (by rw [hml]; rfl) (argsL := [(.long v14_111), (.int (65535 : Int32))]) (rest := []) (lenOf pd_0 rfl) rfl own_le0 (hb hby at_140) (fun _ _ => ⟨rfl, e15, (by decide : 8 + 0 ≤ _), (by decide : 24 + 0 ≤ _)⟩)
      dsimp only [Pt.U, Pt.locs, Pt.cells, Pt.slots] at X29 l29 y29 z29 st29 hQ29
      rw [l29, y29, z29] at X29
      obtain ⟨rfl, N29q, e29⟩ := hQ29
      have N29 := Fr.app N15 N29q
      obtain ⟨v14_143, hv14_143⟩ : ∃ z : Int64, z = (f_15 v14_111 (65535 : Int32)) := ⟨_, rfl⟩
      have pre32 : ∀ t, SP p e below (T29.setTop (mkF m 153 #[vI p0, vI p1, vI p2, vI p3, vI p4, vI v5_4, vI v6_10, vI v7_16, vI v8_22, vI v9_30, vI v10_40, vI v11_50, vR r_1, vR r_3, vJ v14_143, .second, .unset, .unset] [(.int v8_22), (.int v7_16), (.int v10_40), (.long v14_143)])) t → SP p e below (s₁.setTop (entryFrame m #[(.int p0), (.int p1), (.int p2), (.int p3), (.int p4)] maxLocals)) t := by
        intro t k
        refine pre30 t ?_
        show SP p e below (T15.setTop (mkF m 140 #[vI p0, vI p1, vI p2, vI p3, vI p4, vI v5_4, vI v6_10, vI v7_16, vI v8_22, vI v9_30, vI v10_40, vI v11_50, vR r_1, vR r_3, vJ v14_111, .second, .unset, .unset] [(.int (65535 : Int32)), (.long v14_111)])) _
        refine st29 _ ?_
        show SP p e below (T29.setTop (mkF m 143 #[vI p0, vI p1, vI p2, vI p3, vI p4, vI v5_4, vI v6_10, vI v7_16, vI v8_22, vI v9_30, vI v10_40, vI v11_50, vR r_1, vR r_3, vJ v14_111, .second, .unset, .unset] [(.long (f_15 v14_111 (65535 : Int32)))])) _
        refine XS.lstore X29.here hx rfl (hb hby at_143) rfl (l' := #[vI p0, vI p1, vI p2, vI p3, vI p4, vI v5_4, vI v6_10, vI v7_16, vI v8_22, vI v9_30, vI v10_40, vI v11_50, vR r_1, vR r_3, vJ v14_143, .second, .unset, .unset]) (by rw [hv14_143]; rfl) ?_
        show SP p e below (T29.setTop (mkF m 145 #[vI p0, vI p1, vI p2, vI p3, vI p4, vI v5_4, vI v6_10, vI v7_16, vI v8_22, vI v9_30, vI v10_40, vI v11_50, vR r_1, vR r_3, vJ v14_143, .second, .unset, .unset] [])) _
        refine XS.lload X29.here hx rfl (hb hby at_145) rfl  ?_
        show SP p e below (T29.setTop (mkF m 147 #[vI p0, vI p1, vI p2, vI p3, vI p4, vI v5_4, vI v6_10, vI v7_16, vI v8_22, vI v9_30, vI v10_40, vI v11_50, vR r_1, vR r_3, vJ v14_143, .second, .unset, .unset] [(.long v14_143)])) _
        refine XS.iload X29.here hx rfl (hb hby at_147) rfl  ?_
        show SP p e below (T29.setTop (mkF m 149 #[vI p0, vI p1, vI p2, vI p3, vI p4, vI v5_4, vI v6_10, vI v7_16, vI v8_22, vI v9_30, vI v10_40, vI v11_50, vR r_1, vR r_3, vJ v14_143, .second, .unset, .unset] [(.int v10_40), (.long v14_143)])) _
        refine XS.iload X29.here hx rfl (hb hby at_149) rfl  ?_
        show SP p e below (T29.setTop (mkF m 151 #[vI p0, vI p1, vI p2, vI p3, vI p4, vI v5_4, vI v6_10, vI v7_16, vI v8_22, vI v9_30, vI v10_40, vI v11_50, vR r_1, vR r_3, vJ v14_143, .second, .unset, .unset] [(.int v7_16), (.int v10_40), (.long v14_143)])) _
        refine XS.iload X29.here hx rfl (hb hby at_151) rfl  ?_
        exact k
      obtain ⟨_, _, ⟨T31, L31, k31, n31⟩, -, X31, ⟨Lc31, hQ31, l31, y31, z31⟩, st31⟩ := Jvm.LawKit.callS X29 hx (y := (⟨"com/example/tern/tern/store/HashIndexHashPinLaw", "feed", "(JIII)J"⟩ : MethodName)) hown (mvT hZ (ow hw 66 rfl)) (mvT hZ (ow hw 67 rfl)) (mvT hZ (ow hw 3 rfl)) (mvT hZ (ow hw 68 rfl)) (by decide) (backOf (W := 0) (rm_14 l Z a0 hw [] v14_143 v10_40 v7_16 v8_22 T3.heap n0 Z3 ) hZ (ow hw 68 rfl) (ow hw 3 rfl) (by decide) (by decide)) (g := (mkF m 153 #[vI p0, vI p1, vI p2, vI p3, vI p4, vI v5_4, vI v6_10, vI v7_16, vI v8_22, vI v9_30, vI v10_40, vI v11_50, vR r_1, vR r_3, vJ v14_143, .second, .unset, .unset] [(.int v8_22), (.int v7_16), (.int v10_40), (.long v14_143)])) rfl (by rw [hml]; rfl) (argsL := [(.long v14_143), (.int v10_40), (.int v7_16), (.int v8_22)]) (rest := []) (lenOf pd_26 rfl) rfl own_le0 (hb hby at_153) (fun _ _ => ⟨rfl, e29, (by decide : 8 + 0 ≤ _), (by decide : 24 + 0 ≤ _)⟩)
      dsimp only [Pt.U, Pt.locs, Pt.cells, Pt.slots] at X31 l31 y31 z31 st31 hQ31
      rw [l31, y31, z31] at X31
      obtain ⟨rfl, N31q, e31⟩ := hQ31
      have N31 := Fr.app N29 N31q
      obtain ⟨v14_156, hv14_156⟩ : ∃ z : Int64, z = (f_14 v14_143 v10_40 v7_16 v8_22) := ⟨_, rfl⟩
      have pre33 : ∀ t, SP p e below (T31.setTop (mkF m 159 #[vI p0, vI p1, vI p2, vI p3, vI p4, vI v5_4, vI v6_10, vI v7_16, vI v8_22, vI v9_30, vI v10_40, vI v11_50, vR r_1, vR r_3, vJ v14_156, .second, .unset, .unset] [(.int (2 : Int32))])) t → SP p e below (s₁.setTop (entryFrame m #[(.int p0), (.int p1), (.int p2), (.int p3), (.int p4)] maxLocals)) t := by
        intro t k
        refine pre32 t ?_
        show SP p e below (T29.setTop (mkF m 153 #[vI p0, vI p1, vI p2, vI p3, vI p4, vI v5_4, vI v6_10, vI v7_16, vI v8_22, vI v9_30, vI v10_40, vI v11_50, vR r_1, vR r_3, vJ v14_143, .second, .unset, .unset] [(.int v8_22), (.int v7_16), (.int v10_40), (.long v14_143)])) _
        refine st31 _ ?_
        show SP p e below (T31.setTop (mkF m 156 #[vI p0, vI p1, vI p2, vI p3, vI p4, vI v5_4, vI v6_10, vI v7_16, vI v8_22, vI v9_30, vI v10_40, vI v11_50, vR r_1, vR r_3, vJ v14_143, .second, .unset, .unset] [(.long (f_14 v14_143 v10_40 v7_16 v8_22))])) _
        refine XS.lstore X31.here hx rfl (hb hby at_156) rfl (l' := #[vI p0, vI p1, vI p2, vI p3, vI p4, vI v5_4, vI v6_10, vI v7_16, vI v8_22, vI v9_30, vI v10_40, vI v11_50, vR r_1, vR r_3, vJ v14_156, .second, .unset, .unset]) (by rw [hv14_156]; rfl) ?_
        show SP p e below (T31.setTop (mkF m 158 #[vI p0, vI p1, vI p2, vI p3, vI p4, vI v5_4, vI v6_10, vI v7_16, vI v8_22, vI v9_30, vI v10_40, vI v11_50, vR r_1, vR r_3, vJ v14_156, .second, .unset, .unset] [])) _
        refine XS.iconst X31.here hx rfl (hb hby at_158) ?_
        exact k
      obtain ⟨T34, h34, b34, k34, gb34, X34, e34, E34, A34, O34, st34⟩ := own_newR X31 hx hZ hown (ow hw 5 rfl) (ow hw 28 rfl) e31 (g := (mkF m 159 #[vI p0, vI p1, vI p2, vI p3, vI p4, vI v5_4, vI v6_10, vI v7_16, vI v8_22, vI v9_30, vI v10_40, vI v11_50, vR r_1, vR r_3, vJ v14_156, .second, .unset, .unset] [(.int (2 : Int32))])) rfl (hb hby at_159) rfl (by decide) (n := 2) rfl (by decide) (by decide) (by decide)
      have ne_r_1_b34 : r_1 ≠ b34 := Nat.ne_of_lt (Nat.lt_of_lt_of_le exa_r_1_3.lt (Nat.le_of_eq gb34.symm))
      have ne_w_1_b34 : w_1 ≠ b34 := Nat.ne_of_lt (Nat.lt_of_lt_of_le arr_w_1_3.lt (Nat.le_of_eq gb34.symm))
      have ne_r_3_b34 : r_3 ≠ b34 := Nat.ne_of_lt (Nat.lt_of_lt_of_le Q3_0.lt (Nat.le_of_eq gb34.symm))
      have ne_w_3_b34 : w_3 ≠ b34 := Nat.ne_of_lt (Nat.lt_of_lt_of_le Q3_3.lt (Nat.le_of_eq gb34.symm))
      have sz_b34 : h0.size ≤ b34 := Nat.le_trans K3.1 (Nat.le_of_eq gb34.symm)
      have ge_b34 : n0 ≤ b34 := Nat.le_trans Z3 (Nat.le_of_eq gb34.symm)
      have st_COMP_34 := st_COMP_3.ext E34
      have st_SIOO_34 := st_SIOO_3.ext E34
      have st__ass_34 := st__ass_3.ext E34
      have st_HI_B_34 := st_HI_B_3.ext E34
      have st_LO_B_34 := st_LO_B_3.ext E34
      have exa_r_1_34 := exa_r_1_3.ext E34
      have fld_r_1_value_34 := fld_r_1_value_3.ext E34
      have fld_r_1_coder_34 := fld_r_1_coder_3.ext E34
      have arr_w_1_34 := arr_w_1_3.ext E34
      have exa_r_3_34 := Q3_0.ext E34
      have fld_r_3_value_34 := Q3_1.ext E34
      have fld_r_3_coder_34 := Q3_2.ext E34
      have arr_w_3_34 := Q3_3.ext E34
      have K34 := K3.ext E34
      have Z34 := Nat.le_trans Z3 E34.1
      have szH_b34 : T3.heap.size ≤ b34 := Nat.le_trans (Keep.refl T3.heap []).1 (Nat.le_of_eq gb34.symm)
      have KH34 := (Keep.refl T3.heap []).ext E34
      have pre35 : ∀ t, SP p e below (T34.setTop (mkF m 166 #[vI p0, vI p1, vI p2, vI p3, vI p4, vI v5_4, vI v6_10, vI v7_16, vI v8_22, vI v9_30, vI v10_40, vI v11_50, vR r_1, vR r_3, vJ v14_156, .second, .unset, .unset] [(.ref r_1), (.int (0 : Int32)), (.ref b34), (.ref b34)])) t → SP p e below (s₁.setTop (entryFrame m #[(.int p0), (.int p1), (.int p2), (.int p3), (.int p4)] maxLocals)) t := by
        intro t k
        refine pre33 t ?_
        show SP p e below (T31.setTop (mkF m 159 #[vI p0, vI p1, vI p2, vI p3, vI p4, vI v5_4, vI v6_10, vI v7_16, vI v8_22, vI v9_30, vI v10_40, vI v11_50, vR r_1, vR r_3, vJ v14_156, .second, .unset, .unset] [(.int (2 : Int32))])) _
        refine st34 _ ?_
        show SP p e below (T34.setTop (mkF m 162 #[vI p0, vI p1, vI p2, vI p3, vI p4, vI v5_4, vI v6_10, vI v7_16, vI v8_22, vI v9_30, vI v10_40, vI v11_50, vR r_1, vR r_3, vJ v14_156, .second, .unset, .unset] [(.ref b34)])) _
        refine XS.dup X34.here hx rfl (hb hby at_162) rfl rfl ?_
        show SP p e below (T34.setTop (mkF m 163 #[vI p0, vI p1, vI p2, vI p3, vI p4, vI v5_4, vI v6_10, vI v7_16, vI v8_22, vI v9_30, vI v10_40, vI v11_50, vR r_1, vR r_3, vJ v14_156, .second, .unset, .unset] [(.ref b34), (.ref b34)])) _
        refine XS.iconst X34.here hx rfl (hb hby at_163) ?_
        show SP p e below (T34.setTop (mkF m 164 #[vI p0, vI p1, vI p2, vI p3, vI p4, vI v5_4, vI v6_10, vI v7_16, vI v8_22, vI v9_30, vI v10_40, vI v11_50, vR r_1, vR r_3, vJ v14_156, .second, .unset, .unset] [(.int (0 : Int32)), (.ref b34), (.ref b34)])) _
        refine XS.aload X34.here hx rfl (hb hby at_164) rfl rfl ?_
        exact k
      obtain ⟨T36, h36, X36, e36, W36, A36, st36⟩ := own_stR X34 hx hZ e34 A34 O34 (Ins.self exa_r_1_34) (j := (0 : Int32)) (k := 0) (by decide) (by decide) (by decide) (g := (mkF m 166 #[vI p0, vI p1, vI p2, vI p3, vI p4, vI v5_4, vI v6_10, vI v7_16, vI v8_22, vI v9_30, vI v10_40, vI v11_50, vR r_1, vR r_3, vJ v14_156, .second, .unset, .unset] [(.ref r_1), (.int (0 : Int32)), (.ref b34), (.ref b34)])) rfl rfl (hb hby at_166)
      obtain ⟨g_166, hg_166⟩ : ∃ z : Nat → Value, z = (own_upd own_zR 0 (Value.ref r_1)) := ⟨_, rfl⟩
      rw [← hg_166] at A36
      have st_COMP_36 := st_COMP_34.wr W36
      have st_SIOO_36 := st_SIOO_34.wr W36
      have st__ass_36 := st__ass_34.wr W36
      have st_HI_B_36 := st_HI_B_34.wr W36
      have st_LO_B_36 := st_LO_B_34.wr W36
      have exa_r_1_36 := exa_r_1_34.wr W36
      have fld_r_1_value_36 := fld_r_1_value_34.other W36 (Or.inl ne_r_1_b34)
      have fld_r_1_coder_36 := fld_r_1_coder_34.other W36 (Or.inl ne_r_1_b34)
      have arr_w_1_36 := arr_w_1_34.other W36 ne_w_1_b34
      have exa_r_3_36 := exa_r_3_34.wr W36
      have fld_r_3_value_36 := fld_r_3_value_34.other W36 (Or.inl ne_r_3_b34)
      have fld_r_3_coder_36 := fld_r_3_coder_34.other W36 (Or.inl ne_r_3_b34)
      have arr_w_3_36 := arr_w_3_34.other W36 ne_w_3_b34
      have K36 := K34.wr W36 (Or.inr sz_b34)
      have Z36 := Nat.le_trans Z34 (Nat.le_of_eq W36.size.symm)
      have N36 := Fr.snoc X36 N31 ge_b34
      have KH36 := KH34.wr W36 (Or.inr szH_b34)
      have pre37 : ∀ t, SP p e below (T36.setTop (mkF m 171 #[vI p0, vI p1, vI p2, vI p3, vI p4, vI v5_4, vI v6_10, vI v7_16, vI v8_22, vI v9_30, vI v10_40, vI v11_50, vR r_1, vR r_3, vJ v14_156, .second, .unset, .unset] [(.ref r_3), (.int (1 : Int32)), (.ref b34), (.ref b34)])) t → SP p e below (s₁.setTop (entryFrame m #[(.int p0), (.int p1), (.int p2), (.int p3), (.int p4)] maxLocals)) t := by
        intro t k
        refine pre35 t ?_
        show SP p e below (T34.setTop (mkF m 166 #[vI p0, vI p1, vI p2, vI p3, vI p4, vI v5_4, vI v6_10, vI v7_16, vI v8_22, vI v9_30, vI v10_40, vI v11_50, vR r_1, vR r_3, vJ v14_156, .second, .unset, .unset] [(.ref r_1), (.int (0 : Int32)), (.ref b34), (.ref b34)])) _
        refine st36 _ ?_
        show SP p e below (T36.setTop (mkF m 167 #[vI p0, vI p1, vI p2, vI p3, vI p4, vI v5_4, vI v6_10, vI v7_16, vI v8_22, vI v9_30, vI v10_40, vI v11_50, vR r_1, vR r_3, vJ v14_156, .second, .unset, .unset] [(.ref b34)])) _
        refine XS.dup X36.here hx rfl (hb hby at_167) rfl rfl ?_
        show SP p e below (T36.setTop (mkF m 168 #[vI p0, vI p1, vI p2, vI p3, vI p4, vI v5_4, vI v6_10, vI v7_16, vI v8_22, vI v9_30, vI v10_40, vI v11_50, vR r_1, vR r_3, vJ v14_156, .second, .unset, .unset] [(.ref b34), (.ref b34)])) _
        refine XS.iconst X36.here hx rfl (hb hby at_168) ?_
        show SP p e below (T36.setTop (mkF m 169 #[vI p0, vI p1, vI p2, vI p3, vI p4, vI v5_4, vI v6_10, vI v7_16, vI v8_22, vI v9_30, vI v10_40, vI v11_50, vR r_1, vR r_3, vJ v14_156, .second, .unset, .unset] [(.int (1 : Int32)), (.ref b34), (.ref b34)])) _
        refine XS.aload X36.here hx rfl (hb hby at_169) rfl rfl ?_
        exact k
      obtain ⟨T38, h38, X38, e38, W38, A38, st38⟩ := own_stR X36 hx hZ e36 A36 O34 (Ins.self exa_r_3_36) (j := (1 : Int32)) (k := 1) (by decide) (by decide) (by decide) (g := (mkF m 171 #[vI p0, vI p1, vI p2, vI p3, vI p4, vI v5_4, vI v6_10, vI v7_16, vI v8_22, vI v9_30, vI v10_40, vI v11_50, vR r_1, vR r_3, vJ v14_156, .second, .unset, .unset] [(.ref r_3), (.int (1 : Int32)), (.ref b34), (.ref b34)])) rfl rfl (hb hby at_171)
      obtain ⟨g_171, hg_171⟩ : ∃ z : Nat → Value, z = (own_upd g_166 1 (Value.ref r_3)) := ⟨_, rfl⟩
      rw [← hg_171] at A38
      have st_COMP_38 := st_COMP_36.wr W38
      have st_SIOO_38 := st_SIOO_36.wr W38
      have st__ass_38 := st__ass_36.wr W38
      have st_HI_B_38 := st_HI_B_36.wr W38
      have st_LO_B_38 := st_LO_B_36.wr W38
      have exa_r_1_38 := exa_r_1_36.wr W38
      have fld_r_1_value_38 := fld_r_1_value_36.other W38 (Or.inl ne_r_1_b34)
      have fld_r_1_coder_38 := fld_r_1_coder_36.other W38 (Or.inl ne_r_1_b34)
      have arr_w_1_38 := arr_w_1_36.other W38 ne_w_1_b34
      have exa_r_3_38 := exa_r_3_36.wr W38
      have fld_r_3_value_38 := fld_r_3_value_36.other W38 (Or.inl ne_r_3_b34)
      have fld_r_3_coder_38 := fld_r_3_coder_36.other W38 (Or.inl ne_r_3_b34)
      have arr_w_3_38 := arr_w_3_36.other W38 ne_w_3_b34
      have K38 := K36.wr W38 (Or.inr sz_b34)
      have Z38 := Nat.le_trans Z36 (Nat.le_of_eq W38.size.symm)
      have N38 := Fr.snoc X38 N36 ge_b34
      have KH38 := KH36.wr W38 (Or.inr szH_b34)
      have pre39 : ∀ t, SP p e below (T38.setTop (mkF m 172 #[vI p0, vI p1, vI p2, vI p3, vI p4, vI v5_4, vI v6_10, vI v7_16, vI v8_22, vI v9_30, vI v10_40, vI v11_50, vR r_1, vR r_3, vJ v14_156, .second, .unset, .unset] [(.ref b34)])) t → SP p e below (s₁.setTop (entryFrame m #[(.int p0), (.int p1), (.int p2), (.int p3), (.int p4)] maxLocals)) t := by
        intro t k
        refine pre37 t ?_
        show SP p e below (T36.setTop (mkF m 171 #[vI p0, vI p1, vI p2, vI p3, vI p4, vI v5_4, vI v6_10, vI v7_16, vI v8_22, vI v9_30, vI v10_40, vI v11_50, vR r_1, vR r_3, vJ v14_156, .second, .unset, .unset] [(.ref r_3), (.int (1 : Int32)), (.ref b34), (.ref b34)])) _
        refine st38 _ ?_
        exact k
      have AR40 : own_A Z h38 b34 (.object "java/lang/String") 2 (fun i => (own_r2 r_1 r_3) i) := A38.toA.congr (fun i hi => by rw [hg_171, hg_166]; exact own_r2_eq r_1 r_3 i hi)
      obtain ⟨_, _, ⟨T41, L41, k41, n41⟩, -, X41, ⟨Lc41, hQ41, l41, y41, z41⟩, st41⟩ := Jvm.LawKit.callS X38 hx (y := (⟨"com/example/tern/tern/store/HashIndex", "hash", "([Ljava/lang/String;)J"⟩ : MethodName)) hown (mvT hZ (ow hw 29 rfl)) (mvT hZ (ow hw 30 rfl)) (mvT hZ (ow hw 31 rfl)) (mvT hZ (ow hw 32 rfl)) (by decide) (backOf (W := 0) (rm_5k2 l Z a0 hw [] b34 r_1 r_3 w_1 (own_co v9_30 (v5_4.toUInt32.toUInt16.toUInt32.toInt32) (v6_10.toUInt32.toUInt16.toUInt32.toInt32)) (own_nb v9_30 (v5_4.toUInt32.toUInt16.toUInt32.toInt32) (v6_10.toUInt32.toUInt16.toUInt32.toInt32)) (own_by v9_30 (v5_4.toUInt32.toUInt16.toUInt32.toInt32) (v6_10.toUInt32.toUInt16.toUInt32.toInt32) cs_) w_3 (own_co v10_40 (v7_16.toUInt32.toUInt16.toUInt32.toInt32) (v8_22.toUInt32.toUInt16.toUInt32.toInt32)) (own_nb v10_40 (v7_16.toUInt32.toUInt16.toUInt32.toInt32) (v8_22.toUInt32.toUInt16.toUInt32.toInt32)) (own_by v10_40 (v7_16.toUInt32.toUInt16.toUInt32.toInt32) (v8_22.toUInt32.toUInt16.toUInt32.toInt32) cs_) cs_ fm_ h38 n0 Z38 AR40 exa_r_1_38 fld_r_1_value_38 fld_r_1_coder_38 arr_w_1_38 (own_kk _ _ _) exa_r_3_38 fld_r_3_value_38 fld_r_3_coder_38 arr_w_3_38 (own_kk _ _ _) st_COMP_38 hcs st_SIOO_38 hfm st__ass_38 st_HI_B_38 st_LO_B_38) hZ (ow hw 32 rfl) (ow hw 31 rfl) (by decide) (by decide)) (g := (mkF m 172 #[vI p0, vI p1, vI p2, vI p3, vI p4, vI v5_4, vI v6_10, vI v7_16, vI v8_22, vI v9_30, vI v10_40, vI v11_50, vR r_1, vR r_3, vJ v14_156, .second, .unset, .unset] [(.ref b34)])) rfl (by rw [hml]; rfl) (argsL := [(.ref b34)]) (rest := []) (lenOf pd_24 rfl) rfl own_le0 (hb hby at_172) (fun _ _ => ⟨rfl, e38, (by decide : 9 + 0 ≤ _), (by decide : 26 + 0 ≤ _)⟩)
      dsimp only [Pt.U, Pt.locs, Pt.cells, Pt.slots] at X41 l41 y41 z41 st41 hQ41
      rw [l41, y41, z41] at X41
      obtain ⟨rfl, N41q, e41⟩ := hQ41
      have N41 := Fr.app N38 N41q
      obtain ⟨v16_175, hv16_175⟩ : ∃ z : Int64, z = (f_5k2 (own_co v9_30 (v5_4.toUInt32.toUInt16.toUInt32.toInt32) (v6_10.toUInt32.toUInt16.toUInt32.toInt32)) (own_nb v9_30 (v5_4.toUInt32.toUInt16.toUInt32.toInt32) (v6_10.toUInt32.toUInt16.toUInt32.toInt32)) (own_by v9_30 (v5_4.toUInt32.toUInt16.toUInt32.toInt32) (v6_10.toUInt32.toUInt16.toUInt32.toInt32) cs_) (own_co v10_40 (v7_16.toUInt32.toUInt16.toUInt32.toInt32) (v8_22.toUInt32.toUInt16.toUInt32.toInt32)) (own_nb v10_40 (v7_16.toUInt32.toUInt16.toUInt32.toInt32) (v8_22.toUInt32.toUInt16.toUInt32.toInt32)) (own_by v10_40 (v7_16.toUInt32.toUInt16.toUInt32.toInt32) (v8_22.toUInt32.toUInt16.toUInt32.toInt32) cs_) cs_) := ⟨_, rfl⟩
      have pre43 : ∀ t, SP p e below (T41.setTop (mkF m 181 #[vI p0, vI p1, vI p2, vI p3, vI p4, vI v5_4, vI v6_10, vI v7_16, vI v8_22, vI v9_30, vI v10_40, vI v11_50, vR r_1, vR r_3, vJ v14_156, .second, vJ v16_175, .second] [(.long v14_156), (.long v16_175)])) t → SP p e below (s₁.setTop (entryFrame m #[(.int p0), (.int p1), (.int p2), (.int p3), (.int p4)] maxLocals)) t := by
        intro t k
        refine pre39 t ?_
        show SP p e below (T38.setTop (mkF m 172 #[vI p0, vI p1, vI p2, vI p3, vI p4, vI v5_4, vI v6_10, vI v7_16, vI v8_22, vI v9_30, vI v10_40, vI v11_50, vR r_1, vR r_3, vJ v14_156, .second, .unset, .unset] [(.ref b34)])) _
        refine st41 _ ?_
        show SP p e below (T41.setTop (mkF m 175 #[vI p0, vI p1, vI p2, vI p3, vI p4, vI v5_4, vI v6_10, vI v7_16, vI v8_22, vI v9_30, vI v10_40, vI v11_50, vR r_1, vR r_3, vJ v14_156, .second, .unset, .unset] [(.long (f_5k2 (own_co v9_30 (v5_4.toUInt32.toUInt16.toUInt32.toInt32) (v6_10.toUInt32.toUInt16.toUInt32.toInt32)) (own_nb v9_30 (v5_4.toUInt32.toUInt16.toUInt32.toInt32) (v6_10.toUInt32.toUInt16.toUInt32.toInt32)) (own_by v9_30 (v5_4.toUInt32.toUInt16.toUInt32.toInt32) (v6_10.toUInt32.toUInt16.toUInt32.toInt32) cs_) (own_co v10_40 (v7_16.toUInt32.toUInt16.toUInt32.toInt32) (v8_22.toUInt32.toUInt16.toUInt32.toInt32)) (own_nb v10_40 (v7_16.toUInt32.toUInt16.toUInt32.toInt32) (v8_22.toUInt32.toUInt16.toUInt32.toInt32)) (own_by v10_40 (v7_16.toUInt32.toUInt16.toUInt32.toInt32) (v8_22.toUInt32.toUInt16.toUInt32.toInt32) cs_) cs_))])) _
        refine XS.lstore X41.here hx rfl (hb hby at_175) rfl (l' := #[vI p0, vI p1, vI p2, vI p3, vI p4, vI v5_4, vI v6_10, vI v7_16, vI v8_22, vI v9_30, vI v10_40, vI v11_50, vR r_1, vR r_3, vJ v14_156, .second, vJ v16_175, .second]) (by rw [hv16_175]; rfl) ?_
        show SP p e below (T41.setTop (mkF m 177 #[vI p0, vI p1, vI p2, vI p3, vI p4, vI v5_4, vI v6_10, vI v7_16, vI v8_22, vI v9_30, vI v10_40, vI v11_50, vR r_1, vR r_3, vJ v14_156, .second, vJ v16_175, .second] [])) _
        refine XS.lload X41.here hx rfl (hb hby at_177) rfl  ?_
        show SP p e below (T41.setTop (mkF m 179 #[vI p0, vI p1, vI p2, vI p3, vI p4, vI v5_4, vI v6_10, vI v7_16, vI v8_22, vI v9_30, vI v10_40, vI v11_50, vR r_1, vR r_3, vJ v14_156, .second, vJ v16_175, .second] [(.long v16_175)])) _
        refine XS.lload X41.here hx rfl (hb hby at_179) rfl  ?_
        exact k
      obtain ⟨_, _, ⟨T42, L42, k42, n42⟩, -, X42, ⟨Lc42, hQ42, l42, y42, z42⟩, st42⟩ := Jvm.LawKit.callS X41 hx (y := (⟨"com/example/tern/tern/store/HashIndexHashPinLaw", "mix", "(J)J"⟩ : MethodName)) hown (mvT hZ (ow hw 36 rfl)) (mvT hZ (ow hw 37 rfl)) (mvT hZ (ow hw 3 rfl)) (mvT hZ (ow hw 38 rfl)) (by decide) (backOf (W := 2) (rm_6 l Z a0 hw [] v14_156 h38 n0 Z38 ) hZ (ow hw 38 rfl) (ow hw 3 rfl) (by decide) (by decide)) (g := (mkF m 181 #[vI p0, vI p1, vI p2, vI p3, vI p4, vI v5_4, vI v6_10, vI v7_16, vI v8_22, vI v9_30, vI v10_40, vI v11_50, vR r_1, vR r_3, vJ v14_156, .second, vJ v16_175, .second] [(.long v14_156), (.long v16_175)])) rfl (by rw [hml]; rfl) (argsL := [(.long v14_156)]) (rest := [(.long v16_175)]) (lenOf pd_25 rfl) rfl own_le0 (hb hby at_181) (fun _ _ => ⟨rfl, e41, (by decide : 9 + 0 ≤ _), (by decide : 26 + 0 ≤ _)⟩)
      dsimp only [Pt.U, Pt.locs, Pt.cells, Pt.slots] at X42 l42 y42 z42 st42 hQ42
      rw [l42, y42, z42] at X42
      obtain ⟨rfl, N42q, e42⟩ := hQ42
      have N42 := Fr.app N41 N42q
      have pre44 : ∀ t, SP p e below (T42.setTop (mkF m 185 #[vI p0, vI p1, vI p2, vI p3, vI p4, vI v5_4, vI v6_10, vI v7_16, vI v8_22, vI v9_30, vI v10_40, vI v11_50, vR r_1, vR r_3, vJ v14_156, .second, vJ v16_175, .second] [(.int (lcmpW v16_175 (f_6 v14_156)))])) t → SP p e below (s₁.setTop (entryFrame m #[(.int p0), (.int p1), (.int p2), (.int p3), (.int p4)] maxLocals)) t := by
        intro t k
        refine pre43 t ?_
        show SP p e below (T41.setTop (mkF m 181 #[vI p0, vI p1, vI p2, vI p3, vI p4, vI v5_4, vI v6_10, vI v7_16, vI v8_22, vI v9_30, vI v10_40, vI v11_50, vR r_1, vR r_3, vJ v14_156, .second, vJ v16_175, .second] [(.long v14_156), (.long v16_175)])) _
        refine st42 _ ?_
        show SP p e below (T42.setTop (mkF m 184 #[vI p0, vI p1, vI p2, vI p3, vI p4, vI v5_4, vI v6_10, vI v7_16, vI v8_22, vI v9_30, vI v10_40, vI v11_50, vR r_1, vR r_3, vJ v14_156, .second, vJ v16_175, .second] [(.long (f_6 v14_156)), (.long v16_175)])) _
        refine XS.lcmp X42.here hx rfl (hb hby at_184) rfl ?_
        exact k
      obtain ⟨ms0_193, hms0_193⟩ : ∃ z : Int32, z = (if v16_175 = (f_6 v14_156) then (1 : Int32) else (0 : Int32)) := ⟨_, rfl⟩
      have pre45 : ∀ t, SP p e below (T42.setTop (mkF m 193 #[vI p0, vI p1, vI p2, vI p3, vI p4, vI v5_4, vI v6_10, vI v7_16, vI v8_22, vI v9_30, vI v10_40, vI v11_50, vR r_1, vR r_3, vJ v14_156, .second, vJ v16_175, .second] [(.int ms0_193)])) t → SP p e below (s₁.setTop (entryFrame m #[(.int p0), (.int p1), (.int p2), (.int p3), (.int p4)] maxLocals)) t := by
        intro t k
        refine pre44 t ?_
        by_cases hc185 : v16_175 = (f_6 v14_156)
        · show SP p e below (T42.setTop (mkF m 185 #[vI p0, vI p1, vI p2, vI p3, vI p4, vI v5_4, vI v6_10, vI v7_16, vI v8_22, vI v9_30, vI v10_40, vI v11_50, vR r_1, vR r_3, vJ v14_156, .second, vJ v16_175, .second] [(.int (lcmpW v16_175 (f_6 v14_156)))])) _
          refine XS.ifNo X42.here hx rfl (hb hby at_185) rfl ((if0 _ _).trans (teq ((lw_eq _ _).mpr hc185)).2) ?_
          show SP p e below (T42.setTop (mkF m 188 #[vI p0, vI p1, vI p2, vI p3, vI p4, vI v5_4, vI v6_10, vI v7_16, vI v8_22, vI v9_30, vI v10_40, vI v11_50, vR r_1, vR r_3, vJ v14_156, .second, vJ v16_175, .second] [])) _
          refine XS.iconst X42.here hx rfl (hb hby at_188) ?_
          show SP p e below (T42.setTop (mkF m 189 #[vI p0, vI p1, vI p2, vI p3, vI p4, vI v5_4, vI v6_10, vI v7_16, vI v8_22, vI v9_30, vI v10_40, vI v11_50, vR r_1, vR r_3, vJ v14_156, .second, vJ v16_175, .second] [(.int (1 : Int32))])) _
          refine XS.goto X42.here hx rfl (pc0 := 189) (pc' := 193) rfl (hb hby at_189) (by decide) (by decide) ?_
          have qms0_193 : ms0_193 = (1 : Int32) := by rw [hms0_193, if_pos hc185]
          rw [qms0_193] at k
          exact k
        · show SP p e below (T42.setTop (mkF m 185 #[vI p0, vI p1, vI p2, vI p3, vI p4, vI v5_4, vI v6_10, vI v7_16, vI v8_22, vI v9_30, vI v10_40, vI v11_50, vR r_1, vR r_3, vJ v14_156, .second, vJ v16_175, .second] [(.int (lcmpW v16_175 (f_6 v14_156)))])) _
          refine XS.ifYes X42.here hx rfl (pc0 := 185) (pc' := 192) rfl (hb hby at_185) rfl ((if0 _ _).trans (feq (fun q => hc185 ((lw_eq _ _).mp q))).2) (by decide) (by decide) ?_
          show SP p e below (T42.setTop (mkF m 192 #[vI p0, vI p1, vI p2, vI p3, vI p4, vI v5_4, vI v6_10, vI v7_16, vI v8_22, vI v9_30, vI v10_40, vI v11_50, vR r_1, vR r_3, vJ v14_156, .second, vJ v16_175, .second] [])) _
          refine XS.iconst X42.here hx rfl (hb hby at_192) ?_
          have qms0_193 : ms0_193 = (0 : Int32) := by rw [hms0_193, if_neg hc185]
          rw [qms0_193] at k
          exact k
      have hnar : nar .boolean ms0_193 = ms0_193 := by rw [hms0_193]; (repeat' split) <;> rfl
      obtain ⟨fs, hr, hrun, hended, hW1, hW2, hW3, hsame⟩ := X42.leaveW hS3 (Nat.le_trans KH38.1 (Nat.le_of_eq (congrArg Array.size (e42 : T42.heap = h38).symm))) (v := some (.int ms0_193)) (fun h => by rw [Bd.returns] at h; cases h) (BodyLoose.notSynchronized Bd)
      refine ⟨_, _, pre45 _ ?_, hrun, hended, _, _, rfl, ?_, ?_, hW1, hW2, hW3, hsame.mono (by decide) (by decide)⟩
      · show SP p e below (T42.setTop (mkF m 193 #[vI p0, vI p1, vI p2, vI p3, vI p4, vI v5_4, vI v6_10, vI v7_16, vI v8_22, vI v9_30, vI v10_40, vI v11_50, vR r_1, vR r_3, vJ v14_156, .second, vJ v16_175, .second] [(.int ms0_193)])) _
        exact retN X42 hx (t := .boolean) Bd.returns (by simp) (hb hby at_193) (by rw [hnar]; exact hr)
      · show Q_0 Z p0 p1 p2 p3 p4 cs_ fm_ h0 n0 _ T42.heap _
        rw [e42]
        exact ⟨congrArg (fun z => some (Value.int z)) (by subst hv5_4 hv6_10 hv7_16 hv8_22 hv9_30 hv10_40 hv11_50 hv14_111 hv14_143 hv14_156 hv16_175 hms0_193; exact ((if_neg hc85).trans (if_neg hc116)).symm : ms0_193 = f_0 p0 p1 p2 p3 p4 cs_), N42, trivial⟩
      · show own_H own_cs Z T42.vm T42.heap
        rw [e42]
        exact (hH3.go (B := (s.setVm T3.vm)) hZ wl X42.warmed KH38 all0)
theorem own_isR {args : Array Value} {s : State} {t : Term} (h : (Jvm.Cond.isRef t).value args s none s [] = some true) : ∃ v, t.eval args s none [] s = some v ∧ (v = Value.null ∨ ∃ a, v = Value.ref a) := by
  obtain ⟨v, hv, hr⟩ := Cond.isRef_spec (Cond.before_iff.mpr h)
  exact ⟨v, hv, ref_cases hr⟩
theorem own_lat {a : Int32} (h0 : 0 ≤ a.toInt) (h1 : ¬ (255 : Int32) < a) : nar .char (nar .char (((a.toInt8.toInt32).toInt8.toInt32 &&& (255 : Int32)).toUInt32.toUInt16.toUInt32.toInt32)) = a := by
  rw [Int32.lt_iff_toInt_lt, show ((255 : Int32)).toInt = 255 from rfl] at h1
  have b := c_i2b a
  have b' := c_i2b a.toInt8.toInt32
  have m := c_mask ((a.toInt8.toInt32).toInt8.toInt32) 255 8 (by decide) (by decide)
  have e : ((a.toInt8.toInt32).toInt8.toInt32 &&& (255 : Int32)) = a := Int32.toInt_inj.mp (by omega)
  rw [e, own_i2c_r h0 (by omega)]
  show (a.toUInt32.toUInt16.toUInt32.toInt32).toUInt32.toUInt16.toUInt32.toInt32 = a
  rw [own_i2c_r h0 (by omega), own_i2c_r h0 (by omega)]
theorem own_n2 {a : Int32} (h : 0 ≤ a.toInt ∧ a.toInt < 65536) : nar .char (nar .char a) = a := by
  show (a.toUInt32.toUInt16.toUInt32.toInt32).toUInt32.toUInt16.toUInt32.toInt32 = a
  rw [own_i2c_r h.1 h.2, own_i2c_r h.1 h.2]
theorem own_f14_0 (h : Int64) (a b : Int32) : f_14 h 0 a b = h := by
  unfold f_14
  rw [if_pos (by decide), if_pos (by decide)]
theorem own_f14_1 (h : Int64) (a b : Int32) : f_14 h 1 a b = (h ^^^ a.toInt64) * 1099511628211 := by
  unfold f_14 f_15
  rw [if_neg (by decide), if_pos (by decide)]
theorem own_f14_2 (h : Int64) (a b : Int32) : f_14 h 2 a b = (((h ^^^ a.toInt64) * 1099511628211) ^^^ b.toInt64) * 1099511628211 := by
  unfold f_14 f_15
  rw [if_neg (by decide), if_neg (by decide)]
theorem own_f16_0 (h : Int64) (cs : Int32) (x : Nat → Int32) : f_16 h cs 0 0 x = h := by
  rw [f_16, if_pos rfl, if_pos rfl, f_16L0]
theorem own_f16_1 (h : Int64) (cs : Int32) (x : Nat → Int32) : f_16 h cs 0 1 x = (h ^^^ (f_19L10 cs x).toInt64) * 1099511628211 := by
  rw [f_16, if_pos rfl, if_neg (by decide), if_pos rfl, f_16L1]
theorem own_f16_2 (h : Int64) (cs : Int32) (x : Nat → Int32) : f_16 h cs 0 2 x = (((h ^^^ (f_19L20 cs x).toInt64) * 1099511628211) ^^^ (f_19L21 cs x).toInt64) * 1099511628211 := by
  rw [f_16, if_pos rfl, if_neg (by decide), if_neg (by decide), f_16L2]
theorem own_f16_3 (h : Int64) (cs : Int32) (x : Nat → Int32) : f_16 h cs 1 2 x = (h ^^^ (f_19U10 cs x).toInt64) * 1099511628211 := by
  rw [f_16, if_neg (by decide), if_pos rfl, f_16U1]
theorem own_f16_4 (h : Int64) (cs : Int32) (x : Nat → Int32) : f_16 h cs 1 4 x = (((h ^^^ (f_19U20 cs x).toInt64) * 1099511628211) ^^^ (f_19U21 cs x).toInt64) * 1099511628211 := by
  rw [f_16, if_neg (by decide), if_neg (by decide), f_16U2]
theorem own_feed (h : Int64) (cs l a b : Int32) (hl : l = 0 ∨ l = 1 ∨ l = 2) (ha : 0 ≤ a.toInt ∧ a.toInt < 65536) (hb : 0 ≤ b.toInt ∧ b.toInt < 65536) : f_16 h cs (own_co l a b) (own_nb l a b) (own_by l a b cs) = f_14 h l a b := by
  have ia := own_i2c_r ha.1 ha.2
  have ib := own_i2c_r hb.1 hb.2
  rcases hl with rfl | rfl | rfl
  · have e0 : own_co 0 a b = 0 := by rw [own_co, if_pos rfl]
    have e1 : own_nb 0 a b = 0 := by rw [own_nb, if_pos rfl]
    rw [e0, e1, own_f16_0, own_f14_0]
  · by_cases c : (255 : Int32) < a
    · have e0 : own_co 1 a b = 1 := by rw [own_co, if_neg (by decide), if_pos rfl, if_pos c]
      have e1 : own_nb 1 a b = 2 := by rw [own_nb, if_neg (by decide), if_pos rfl, if_pos c]
      have e2 : own_by 1 a b cs = f_29_1 a := by rw [own_by, if_neg (by decide), if_pos rfl, if_pos c]; rfl
      have ch : f_19U10 cs (f_29_1 a) = a := by show nar .char (nar .char (f_28a (f_29_1 a))) = a; rw [own_gca ha, own_n2 ha]
      rw [e0, e1, e2, own_f16_3, own_f14_1, ch]
    · have e0 : own_co 1 a b = 0 := by rw [own_co, if_neg (by decide), if_pos rfl, if_neg c]
      have e1 : own_nb 1 a b = 1 := by rw [own_nb, if_neg (by decide), if_pos rfl, if_neg c]
      have e2 : own_by 1 a b cs = f_9_1 a := by rw [own_by, if_neg (by decide), if_pos rfl, if_neg c]; rfl
      have ch : f_19L10 cs (f_9_1 a) = a := own_lat ha.1 c
      rw [e0, e1, e2, own_f16_1, own_f14_1, ch]
  · have hg : ∀ i, own_upd (own_upd own_zI 0 a.toUInt32.toUInt16.toUInt32.toInt32) 1 b.toUInt32.toUInt16.toUInt32.toInt32 i = own_upd (own_upd own_zI 0 a) 1 b i := fun i => by rw [ia, ib]
    have hU : ∀ (G : Nat → Int32), G = own_upd (own_upd own_zI 0 a) 1 b → f_16 h cs 1 4 (f_24t_1 G) = f_14 h 2 a b := fun G e => by
      have g0 : G 0 = a := by rw [e]; rfl
      have g1 : G 1 = b := by rw [e]; rfl
      have c0 : f_19U20 cs (f_24t_1 G) = a := by
        show nar .char (nar .char (f_28b (f_24t_1 G))) = a
        rw [own_gcb (by rw [g0]; exact ha), g0, own_n2 ha]
      have c1 : f_19U21 cs (f_24t_1 G) = b := by
        show nar .char (nar .char (f_28c (f_24t_1 G))) = b
        rw [own_gcc (by rw [g1]; exact hb), g1, own_n2 hb]
      rw [own_f16_4, own_f14_2, c0, c1]
    by_cases c : (255 : Int32) < a
    · have c' : (255 : Int32) < a.toUInt32.toUInt16.toUInt32.toInt32 := by rw [ia]; exact c
      have e0 : own_co 2 a b = 1 := by rw [own_co, if_neg (by decide), if_neg (by decide), if_pos c']
      have e1 : own_nb 2 a b = 4 := by rw [own_nb, if_neg (by decide), if_neg (by decide), if_pos c']
      have e2 : own_by 2 a b cs = f_1cA_1 2 a b cs := by rw [own_by, if_neg (by decide), if_neg (by decide), if_pos c']
      rw [e0, e1, e2]
      exact hU _ (funext hg)
    · have c' : ¬ (255 : Int32) < a.toUInt32.toUInt16.toUInt32.toInt32 := by rw [ia]; exact c
      by_cases d : (255 : Int32) < b
      · have d' : (255 : Int32) < b.toUInt32.toUInt16.toUInt32.toInt32 := by rw [ib]; exact d
        have e0 : own_co 2 a b = 1 := by rw [own_co, if_neg (by decide), if_neg (by decide), if_neg c', if_pos d']
        have e1 : own_nb 2 a b = 4 := by rw [own_nb, if_neg (by decide), if_neg (by decide), if_neg c', if_pos d']
        have e2 : own_by 2 a b cs = f_1cB_1 2 a b cs := by rw [own_by, if_neg (by decide), if_neg (by decide), if_neg c', if_pos d']
        rw [e0, e1, e2]
        exact hU _ (funext hg)
      · have d' : ¬ (255 : Int32) < b.toUInt32.toUInt16.toUInt32.toInt32 := by rw [ib]; exact d
        have e0 : own_co 2 a b = 0 := by rw [own_co, if_neg (by decide), if_neg (by decide), if_neg c', if_neg d']
        have e1 : own_nb 2 a b = 2 := by rw [own_nb, if_neg (by decide), if_neg (by decide), if_neg c', if_neg d']
        have e2 : own_by 2 a b cs = f_12L_1 (own_upd (own_upd own_zI 0 a) 1 b) own_zI := by
          rw [own_by, if_neg (by decide), if_neg (by decide), if_neg c', if_neg d']
          show f_12L_1 (own_upd (own_upd own_zI 0 a.toUInt32.toUInt16.toUInt32.toInt32) 1 b.toUInt32.toUInt16.toUInt32.toInt32) own_zI = _
          rw [ia, ib]
        have c0 : f_19L20 cs (f_12L_1 (own_upd (own_upd own_zI 0 a) 1 b) own_zI) = a := own_lat ha.1 c
        have c1 : f_19L21 cs (f_12L_1 (own_upd (own_upd own_zI 0 a) 1 b) own_zI) = b := own_lat hb.1 d
        rw [e0, e1, e2, own_f16_2, own_f14_2, c0, c1]
theorem own_m3 (x : Int32) : (x &&& (3 : Int32)) % (3 : Int32) = 0 ∨ (x &&& (3 : Int32)) % (3 : Int32) = 1 ∨ (x &&& (3 : Int32)) % (3 : Int32) = 2 := by
  have m := c_mask x 3 2 (by decide) (by decide)
  have r := c_irem (x &&& (3 : Int32)) 3 3 (by decide)
  have q := r.1 (by omega)
  have z : ((x &&& (3 : Int32)) % (3 : Int32)).toInt = 0 ∨ ((x &&& (3 : Int32)) % (3 : Int32)).toInt = 1 ∨ ((x &&& (3 : Int32)) % (3 : Int32)).toInt = 2 := by omega
  rcases z with z | z | z
  · exact .inl (Int32.toInt_inj.mp z)
  · exact .inr (.inl (Int32.toInt_inj.mp z))
  · exact .inr (.inr (Int32.toInt_inj.mp z))
theorem own_mc (x : Int32) : 0 ≤ (x &&& (65535 : Int32)).toInt ∧ (x &&& (65535 : Int32)).toInt < 65536 := by
  have m := c_mask x 65535 16 (by decide) (by decide)
  omega
theorem own_mix0 : f_5k0 = f_6 (-3750763034362895579) := rfl
theorem own_mix1 (c : Int32) (n : Nat) (x : Nat → Int32) (cs : Int32) : f_5k1 c n x cs = f_6 (f_16 (-3750763034362895579) cs c n x) := rfl
theorem own_mix2 (c : Int32) (n : Nat) (x : Nat → Int32) (d : Int32) (k : Nat) (y : Nat → Int32) (cs : Int32) : f_5k2 c n x d k y cs = f_6 (f_16 ((f_16 (-3750763034362895579) cs c n x ^^^ (65535 : Int64)) * (1099511628211 : Int64)) cs d k y) := rfl
theorem own_law (p0 p1 p2 p3 p4 cs_ : Int32) : f_0 p0 p1 p2 p3 p4 cs_ = 1 := by
  have r0 := own_mc p0
  have r1 := own_mc p1
  have r2 := own_mc p2
  have r3 := own_mc p3
  unfold f_0
  dsimp only
  rw [own_i2c_r r0.1 r0.2, own_i2c_r r1.1 r1.2, own_i2c_r r2.1 r2.2, own_i2c_r r3.1 r3.2]
  have m1 := own_m3 p4
  have m2 := own_m3 ((p4.toUInt32 >>> ((2 : Int32) &&& 31).toUInt32).toInt32)
  obtain ⟨l, hl⟩ : ∃ l, l = ((p4 &&& (3 : Int32)) % (3 : Int32)) := ⟨_, rfl⟩
  obtain ⟨k, hk⟩ : ∃ k, k = ((((p4.toUInt32 >>> ((2 : Int32) &&& 31).toUInt32).toInt32) &&& (3 : Int32)) % (3 : Int32)) := ⟨_, rfl⟩
  obtain ⟨n, hn⟩ : ∃ n, n = ((((p4.toUInt32 >>> ((4 : Int32) &&& 31).toUInt32).toInt32) &&& (3 : Int32)) % (3 : Int32)) := ⟨_, rfl⟩
  rw [← hl, ← hk, ← hn]
  rw [← hl] at m1
  rw [← hk] at m2
  by_cases z : n = 0
  · rw [if_pos z, own_mix0]
    exact if_pos rfl
  rw [if_neg z]
  rw [own_mix1, own_mix2, own_feed _ _ _ _ _ m1 r0 r1, own_feed _ _ _ _ _ m2 r2 r3]
  by_cases y : n = 1
  · rw [if_pos y]
    exact if_pos rfl
  rw [if_neg y]
  exact if_pos rfl
theorem own_nei {args : Array Value} {s : State} {t : Term} {i j : Int32} (e : t.eval args s none [] s = some (.int i)) (h : (Jvm.Cond.not (Jvm.Cond.eq t (.int j))).value args s none s [] = some true) : ¬ (i = j) := fun q => by
  subst q
  simp [Cond.value, e, Term.eval] at h
set_option maxRecDepth 65536 in
set_option maxHeartbeats 40000000 in
theorem comes_1 {Post : Tables → Env → Array Value → State → Outcome → State → Prop} (hpost : ∀ tb e args s v u, (limb_1_1.after args s (.returned v) u = true ∧ limb_1_2.after args s (.returned v) u = true ∧ True) → ReturnedEndW s (.returned v) u (Jvm.fieldLocs frame_1_writes args s ++ Jvm.arrayLocs frame_1_arrays args s ++ Jvm.staticLocs frame_1_statics s) 32 1152 → Post tb e args s (.returned v) u) :
    ArmFor flags0 classFile x code maxLocals ret World_1 tables_1 room_1 Calls_1 rest_1 Pre_1 Post := by
  intro l hfl _ _ p e ha hc hk s m args below hf hA hF happ hP
  obtain ⟨hcalls, hrest, hpre⟩ := hP
  obtain ⟨-, -, -, hnamed, -, -, -, hat⟩ := (Spec.applies_iff hf).mp happ
  obtain ⟨hg, hn⟩ := and_e (Cond.before_iff.mp (show (Jvm.Cond.and given_1 narrow_1).before args s = true from hpre))
  obtain ⟨g0, gt0⟩ := and_e hg
  obtain ⟨ga0, gt1⟩ := and_e gt0
  obtain ⟨ga1, gt2⟩ := and_e gt1
  obtain ⟨ga2, gt3⟩ := and_e gt2
  obtain ⟨ga3, gt4⟩ := and_e gt3
  obtain ⟨w0, w1, w2, w3, w4, rfl⟩ : ∃ w0 w1 w2 w3 w4 : Value, args = #[w0, w1, w2, w3, w4] := by
    have hs : args.size = 5 := by simpa [Cond.value, given_1] using g0
    obtain ⟨L⟩ := args
    match L, hs with
    | [w0, w1, w2, w3, w4], _ => exact ⟨w0, w1, w2, w3, w4, rfl⟩
  have hw := fun d (hd : d ∈ tables_1) => atoms_spec (ws := Jvm.Cond.code x code maxLocals ret :: tables_1) hat d (List.mem_cons_of_mem _ hd)
  have hfit : Fit s := fun {y c} hc i hi => by
    obtain ⟨ha, rfl⟩ := Array.getElem?_eq_some_iff.mp hc
    have q := List.all_eq_true.mp ((Array.all_eq_true_iff_forall_mem.mp hF) _ (Array.getElem_mem ha)) i (List.mem_range.mpr hi)
    simpa [Array.getElem?_eq_getElem hi] using q
  obtain ⟨i0, ei0⟩ := is_v ga0
  obtain rfl : w0 = (.int i0) := Option.some.inj ei0
  obtain ⟨i1, ei1⟩ := is_v ga1
  obtain rfl : w1 = (.int i1) := Option.some.inj ei1
  obtain ⟨i2, ei2⟩ := is_v ga2
  obtain rfl : w2 = (.int i2) := Option.some.inj ei2
  obtain ⟨i3, ei3⟩ := is_v ga3
  obtain rfl : w3 = (.int i3) := Option.some.inj ei3
  obtain ⟨i4, ei4⟩ := is_v gt4
  obtain rfl : w4 = (.int i4) := Option.some.inj ei4
  obtain ⟨hsets, hown0⟩ := atoms_of _ (rest_1_c_eq ▸ (show rest_1_c.before _ s = true from hrest))
  have hs := fun d (hd : d ∈ jdkStatics_1) => Cond.before_iff.mp (hsets d hd)
  obtain ⟨cs_, ecs⟩ := is_v (hs _ (List.mem_of_getElem? (i := 1) rfl))
  have SCS : Sta s s.heap "java/lang/String" "COMPACT_STRINGS" "Z" (.int cs_) := Sta.start ecs (Or.inl (hsets _ (List.mem_of_getElem? (i := 0) rfl)))
  have hcs : ¬ (cs_ = (0 : Int32)) := own_nei ecs (hs _ (List.mem_of_getElem? (i := 2) rfl))
  have hHs : own_H own_cs s s.vm s.heap := own_H.start (fun q hq => by
      simp only [own_cs, List.mem_cons, List.not_mem_nil, or_false] at hq
      rcases hq with rfl
      · exact hcalls.1 ("java/lang/String", 7) (by simp [consts_1])) (own_wl hw) (by decide) (hsets _ (List.mem_of_getElem? (i := 2) rfl)) (hw _ (List.mem_of_getElem? (i := 20) rfl)) (hw _ (List.mem_of_getElem? (i := 6) rfl))
  obtain ⟨fm_, efm, hfm⟩ := own_isR (hs _ (List.mem_of_getElem? (i := 8) rfl))
  have SFM : Sta s s.heap "jdk/internal/util/Preconditions" "SIOOBE_FORMATTER" "Ljava/util/function/BiFunction;" fm_ := Sta.start efm (Or.inl (hsets _ (List.mem_of_getElem? (i := 7) rfl)))
  have S11 : Sta s s.heap "java/lang/StringUTF16" "$assertionsDisabled" "Z" (.int (1 : Int32)) := Sta.start (own_eqi (hs _ (List.mem_of_getElem? (i := 12) rfl))) (Or.inl (hsets _ (List.mem_of_getElem? (i := 11) rfl)))
  have S14 : Sta s s.heap "java/lang/StringUTF16" "HI_BYTE_SHIFT" "I" (.int (0 : Int32)) := Sta.start (own_eqi (hs _ (List.mem_of_getElem? (i := 15) rfl))) (Or.inl (hsets _ (List.mem_of_getElem? (i := 14) rfl)))
  have S17 : Sta s s.heap "java/lang/StringUTF16" "LO_BYTE_SHIFT" "I" (.int (8 : Int32)) := Sta.start (own_eqi (hs _ (List.mem_of_getElem? (i := 18) rfl))) (Or.inl (hsets _ (List.mem_of_getElem? (i := 17) rfl)))
  obtain ⟨n, o, h1, h2, h3, _, L, rfl, ⟨rfl, N⟩, -, hq⟩ := rm_0 l s _ hw tables_1 i0 i1 i2 i3 i4 cs_ fm_ s.heap s.heap.size (Nat.le_refl _) SCS hcs SFM hfm S11 S14 S17 p e ha hc hk s m _ below hf ((Spec.applies_iff_loose hf).mp happ).1 ⟨rfl, State.Warmed39.refl s, rfl, hHs⟩ trivial
  refine ⟨n, _, h1, h2, h3, hpost _ _ _ _ _ _ ⟨Cond.after_iff.mpr rfl, Cond.after_iff.mpr (eq_i res_at (Term.int_eval (1)) (congrArg Value.int (own_law _ _ _ _ _ _))), trivial⟩ ⟨hq.1, hq.2.1, hq.2.2.1, (hq.2.2.2.sift fun y hy => Or.inr (N.1 y hy)).mono (by decide) (by decide)⟩⟩
theorem main_1_1 : Claimed_1_1 := comes_1 fun _ _ _ _ _ _ h hF => ⟨h.1, hF⟩
theorem main_1_2 : Claimed_1_2 := comes_1 fun _ _ _ _ _ _ h hF => ⟨h.2.1, hF⟩
end Jvm.Pilot.@@N@@
namespace Jvm.Pilot.@@N@@
open Jvm Jvm.ClassFile Sem Op Lib Jvm.Free Jvm.Stand Jvm.Pilot.@@N@@.Jvm.D
/-! MADE BY PROGRAM (witnessworld.py) out of the Statement's table words and the real class files: 21 classes; the members and pool entries that the words name. The judged class is class 1, her method 1. -/
namespace start1
open Jvm.ClassFile
def u (s : String) : CpInfo := .utf8 (stringToUtf16 s)
/-- a pool by its gaps: so many unusable entries, then the entry; so many at the end -/
def gap : Nat → List CpInfo → List CpInfo
  | 0, r => r
  | n + 1, r => .unusable :: gap n r
def poolList (es : List (Nat × CpInfo)) (last : Nat) : List CpInfo := es.foldr (fun e r => gap e.1 (e.2 :: r)) (gap last [])
def pool (es : List (Nat × CpInfo)) (last : Nat) : Array CpInfo := ⟨poolList es last⟩
def fileOf (pool : Array CpInfo) (this : Nat) (attrs : Array Attribute := #[]) (ms : Array MethodInfo := #[]) (fl : Nat := 33) (sup : Nat := 0) (ifs : Array Nat := #[]) (fds : Array FieldInfo := #[]) : ClassFile where
  minorVersion := 0
  majorVersion := 65
  constantPool := pool
  accessFlags := fl
  thisClass := this
  superClass := sup
  interfaces := ifs
  fields := fds
  methods := ms
  attributes := attrs
def plain (name : String) (sup : Option ClassId) : Class where
  name := name
  kind := .ordinary
  loader := none
  accessFlags := 33
  super := sup
  interfaces := #[]
  cf := none
  fields := #[]
  methods := #[]
  instanceTypes := #[]
  staticTypes := #[]
  resolved := #[]
  callSites := []
  init := .initialized
  statics := none
  mirror := none

def pool0 : Array CpInfo := pool [(5, u "<init>"), (0, u "()V"), (1, .class_ 10), (1, u "java/lang/Object")] 113

def k0c0 : Code := { maxStack := 0, maxLocals := 1, code := object_method_1_code, exceptionTable := #[], attributes := #[] }
def k0m0 : Method := { name := "<init>", desc := "()V", sig := { parameters := [], returnType := none }, accessFlags := 1, code := some k0c0 }
/-- java/lang/Object -/
def k0 : Class := { plain "java/lang/Object" none with
  accessFlags := 33
  interfaces := #[]
  cf := some (fileOf pool0 8 #[] #[{ accessFlags := 1, nameIndex := 5, descriptorIndex := 6, attributes := #[] }] 33 0 #[] #[])
  fields := #[]
  methods := #[k0m0]
  instanceTypes := #[]
  staticTypes := #[]
  resolved := Array.replicate 124 none
  statics := none }

def pool1 : Array CpInfo := pool [(2, .class_ 4), (1, u "java/lang/Object"), (0, u "<init>"), (0, u "()V"), (0, .integer 65535), (0, .methodref 9 10), (0, .class_ 11), (0, .nameAndType 12 13), (0, u "com/example/tern/tern/store/HashIndexHashPinLaw"), (0, u "text"), (0, u "(ICC)Ljava/lang/String;"), (0, .long 14695981039346656037), (1, .class_ 17), (0, u "java/lang/String"), (0, .methodref 19 20), (0, .class_ 21), (0, .nameAndType 22 23), (0, u "com/example/tern/tern/store/HashIndex"), (0, u "hash"), (0, u "([Ljava/lang/String;)J"), (0, .methodref 9 25), (0, .nameAndType 26 27), (0, u "feed"), (0, u "(JIII)J"), (0, .methodref 9 29), (0, .nameAndType 30 31), (0, u "step"), (0, u "(JI)J"), (0, .methodref 9 33), (0, .nameAndType 34 35), (0, u "mix"), (0, u "(J)J"), (0, .long 1099511628211), (1, .methodref 16 39), (0, .nameAndType 5 40), (0, u "([C)V"), (0, .methodref 16 42), (0, .nameAndType 43 44), (0, u "valueOf"), (0, u "(C)Ljava/lang/String;"), (0, .long 18397679294719823053), (1, .long 14181476777654086739), (3, u "law"), (0, u "(IIIII)Z")] 3

def k1m0 : Method := { name := "<init>", desc := "()V", sig := { parameters := [], returnType := none }, accessFlags := 1, code := none }
def k1c1 : Code := { maxStack := 5, maxLocals := 18, code := code, exceptionTable := #[], attributes := #[] }
def k1m1 : Method := { name := "law", desc := "(IIIII)Z", sig := { parameters := [.int, .int, .int, .int, .int], returnType := some .boolean }, accessFlags := 9, code := some k1c1 }
def k1c2 : Code := { maxStack := 4, maxLocals := 3, code := method_3_code, exceptionTable := #[], attributes := #[] }
def k1m2 : Method := { name := "step", desc := "(JI)J", sig := { parameters := [.long, .int], returnType := some .long }, accessFlags := 10, code := some k1c2 }
def k1c3 : Code := { maxStack := 3, maxLocals := 7, code := method_4_code, exceptionTable := #[], attributes := #[] }
def k1m3 : Method := { name := "feed", desc := "(JIII)J", sig := { parameters := [.long, .int, .int, .int], returnType := some .long }, accessFlags := 10, code := some k1c3 }
def k1c4 : Code := { maxStack := 6, maxLocals := 3, code := method_5_code, exceptionTable := #[], attributes := #[] }
def k1m4 : Method := { name := "text", desc := "(ICC)Ljava/lang/String;", sig := { parameters := [.int, .char, .char], returnType := some (.object "java/lang/String") }, accessFlags := 10, code := some k1c4 }
def k1c5 : Code := { maxStack := 5, maxLocals := 4, code := method_6_code, exceptionTable := #[], attributes := #[] }
def k1m5 : Method := { name := "mix", desc := "(J)J", sig := { parameters := [.long], returnType := some .long }, accessFlags := 10, code := some k1c5 }
/-- com/example/tern/tern/store/HashIndexHashPinLaw -/
def k1 : Class := { plain "com/example/tern/tern/store/HashIndexHashPinLaw" (some 0) with
  accessFlags := 49
  interfaces := #[]
  cf := some (fileOf pool1 9 #[] #[{ accessFlags := 1, nameIndex := 5, descriptorIndex := 6, attributes := #[] }, { accessFlags := 9, nameIndex := 51, descriptorIndex := 52, attributes := #[] }, { accessFlags := 10, nameIndex := 30, descriptorIndex := 31, attributes := #[] }, { accessFlags := 10, nameIndex := 26, descriptorIndex := 27, attributes := #[] }, { accessFlags := 10, nameIndex := 12, descriptorIndex := 13, attributes := #[] }, { accessFlags := 10, nameIndex := 34, descriptorIndex := 35, attributes := #[] }] 49 2 #[] #[])
  fields := #[]
  methods := #[k1m0, k1m1, k1m2, k1m3, k1m4, k1m5]
  instanceTypes := #[]
  staticTypes := #[]
  resolved := Array.replicate 56 none
  statics := none }

def pool2 : Array CpInfo := pool [(1, .class_ 2), (0, u "java/io/Serializable"), (0, .class_ 4), (0, u "java/lang/Object")] 2

/-- java/io/Serializable -/
def k2 : Class := { plain "java/io/Serializable" (some 0) with
  accessFlags := 1537
  interfaces := #[]
  cf := some (fileOf pool2 1 #[] #[] 1537 3 #[] #[])
  fields := #[]
  methods := #[]
  instanceTypes := #[]
  staticTypes := #[]
  resolved := Array.replicate 7 none
  statics := none }

def pool3 : Array CpInfo := pool [(1, .class_ 2), (0, u "java/lang/Comparable"), (0, .class_ 4), (0, u "java/lang/Object")] 7

/-- java/lang/Comparable -/
def k3 : Class := { plain "java/lang/Comparable" (some 0) with
  accessFlags := 1537
  interfaces := #[]
  cf := some (fileOf pool3 1 #[] #[] 1537 3 #[] #[])
  fields := #[]
  methods := #[]
  instanceTypes := #[]
  staticTypes := #[]
  resolved := Array.replicate 12 none
  statics := none }

def pool4 : Array CpInfo := pool [(2, .class_ 4), (1, u "java/lang/CharSequence"), (42, .class_ 48), (0, u "java/lang/CharSequence$1CodePointIterator"), (10, .class_ 60), (0, u "java/lang/CharSequence$1CharIterator"), (5, .class_ 67), (0, u "java/lang/Object")] 63

/-- java/lang/CharSequence -/
def k4 : Class := { plain "java/lang/CharSequence" (some 0) with
  accessFlags := 1537
  interfaces := #[]
  cf := some (fileOf pool4 2 #[.nestMembers #[47, 59]] #[] 1537 66 #[] #[])
  fields := #[]
  methods := #[]
  instanceTypes := #[]
  staticTypes := #[]
  resolved := Array.replicate 131 none
  statics := none }

def pool5 : Array CpInfo := pool [(1, .class_ 2), (0, u "java/lang/constant/Constable"), (0, .class_ 4), (0, u "java/lang/Object")] 6

/-- java/lang/constant/Constable -/
def k5 : Class := { plain "java/lang/constant/Constable" (some 0) with
  accessFlags := 1537
  interfaces := #[]
  cf := some (fileOf pool5 1 #[] #[] 1537 3 #[] #[])
  fields := #[]
  methods := #[]
  instanceTypes := #[]
  staticTypes := #[]
  resolved := Array.replicate 11 none
  statics := none }

def pool6 : Array CpInfo := pool [(1, .class_ 2), (0, u "java/lang/constant/ConstantDesc"), (0, .class_ 4), (0, u "java/lang/Object")] 32

/-- java/lang/constant/ConstantDesc -/
def k6 : Class := { plain "java/lang/constant/ConstantDesc" (some 0) with
  accessFlags := 1537
  interfaces := #[]
  cf := some (fileOf pool6 1 #[] #[] 1537 3 #[] #[])
  fields := #[]
  methods := #[]
  instanceTypes := #[]
  staticTypes := #[]
  resolved := Array.replicate 37 none
  statics := none }

def pool7 : Array CpInfo := pool [(1, .methodref 2 3), (0, .class_ 4), (0, .nameAndType 5 6), (0, u "java/lang/Object"), (0, u "<init>"), (0, u "()V"), (0, .string 8), (0, u ""), (0, .fieldref 10 11), (0, .class_ 12), (0, .nameAndType 13 14), (0, u "java/lang/String"), (0, u "value"), (0, u "[B"), (0, .fieldref 10 16), (0, .nameAndType 17 18), (0, u "coder"), (0, u "B"), (2, u "hash"), (0, u "I"), (2, u "hashIsZero"), (0, u "Z"), (0, .methodref 10 28), (0, .nameAndType 5 29), (0, u "([CIILjava/lang/Void;)V"), (8, .fieldref 10 39), (0, .nameAndType 40 26), (0, u "COMPACT_STRINGS"), (1, .class_ 44), (1, u "java/lang/StringUTF16"), (0, u "compress"), (1, .methodref 42 48), (0, .nameAndType 49 50), (0, u "coderFromArrayLen"), (0, u "([BI)B"), (2, u "toBytes"), (53, .class_ 109), (1, u "java/lang/StringLatin1"), (32, u "()Z"), (34, .methodref 42 178), (0, .nameAndType 45 179), (0, u "([CII)[B"), (29, .methodref 10 210), (0, .nameAndType 5 211), (0, u "([BB)V"), (122, u "()I"), (0, .methodref 10 336), (0, .nameAndType 17 337), (0, u "()B"), (25, u "([BI)C"), (5, u "(C)Z"), (21, u "(II)V"), (35, u "(I)C"), (64, .methodref 10 493), (0, .nameAndType 494 142), (0, u "isLatin1"), (0, .methodref 107 496), (0, .nameAndType 497 363), (0, u "charAt"), (0, .methodref 42 496), (2, u "checkIndex"), (5, u "length"), (67, .class_ 576), (0, u "java/lang/CharSequence"), (22, u "CASE_INSENSITIVE_ORDER"), (0, u "Ljava/util/Comparator;"), (181, u "valueOf"), (0, u "(C)Ljava/lang/String;"), (226, u "([C)V"), (4, .methodref 107 1016), (0, .nameAndType 1017 369), (0, u "canEncode"), (0, .methodref 107 1019), (0, .nameAndType 53 1020), (0, u "(C)[B"), (0, .methodref 42 1019), (31, .fieldref 1054 1055), (0, .class_ 1056), (0, .nameAndType 1057 1058), (0, u "jdk/internal/util/Preconditions"), (0, u "SIOOBE_FORMATTER"), (0, u "Ljava/util/function/BiFunction;"), (0, .methodref 1054 1060), (0, .nameAndType 501 1061), (0, u "(IILjava/util/function/BiFunction;)I"), (39, u "serialPersistentFields"), (0, u "[Ljava/io/ObjectStreamField;"), (0, .class_ 1104), (0, u "java/lang/String$CaseInsensitiveComparator"), (1, .class_ 1107), (0, u "java/io/Serializable"), (0, .class_ 1109), (0, u "java/lang/Comparable"), (0, .class_ 1111), (0, u "java/lang/constant/Constable"), (0, .class_ 1113), (0, u "java/lang/constant/ConstantDesc"), (2, u "serialVersionUID"), (0, u "J"), (3, u "REPL"), (0, u "C"), (2, u "LATIN1"), (1, u "UTF16")] 323

def k7m0 : Method := { name := "<init>", desc := "()V", sig := { parameters := [], returnType := none }, accessFlags := 1, code := none }
def k7c1 : Code := { maxStack := 5, maxLocals := 2, code := jdk_42_method_3_code, exceptionTable := #[], attributes := #[] }
def k7m1 : Method := { name := "<init>", desc := "([C)V", sig := { parameters := [(.array .char)], returnType := none }, accessFlags := 1, code := some k7c1 }
def k7c2 : Code := { maxStack := 2, maxLocals := 1, code := jdk_42_method_54_code, exceptionTable := #[], attributes := #[] }
def k7m2 : Method := { name := "length", desc := "()I", sig := { parameters := [], returnType := some .int }, accessFlags := 1, code := some k7c2 }
def k7c3 : Code := { maxStack := 2, maxLocals := 2, code := jdk_42_method_56_code, exceptionTable := #[], attributes := #[] }
def k7m3 : Method := { name := "charAt", desc := "(I)C", sig := { parameters := [.int], returnType := some .char }, accessFlags := 1, code := some k7c3 }
def k7c4 : Code := { maxStack := 4, maxLocals := 1, code := jdk_42_method_139_code, exceptionTable := #[], attributes := #[] }
def k7m4 : Method := { name := "valueOf", desc := "(C)Ljava/lang/String;", sig := { parameters := [.char], returnType := some (.object "java/lang/String") }, accessFlags := 9, code := some k7c4 }
def k7c5 : Code := { maxStack := 4, maxLocals := 6, code := jdk_42_method_149_code, exceptionTable := #[], attributes := #[] }
def k7m5 : Method := { name := "<init>", desc := "([CIILjava/lang/Void;)V", sig := { parameters := [(.array .char), .int, .int, (.object "java/lang/Void")], returnType := none }, accessFlags := 2, code := some k7c5 }
def k7c6 : Code := { maxStack := 2, maxLocals := 3, code := jdk_42_method_151_code, exceptionTable := #[], attributes := #[] }
def k7m6 : Method := { name := "<init>", desc := "([BB)V", sig := { parameters := [(.array .byte), .byte], returnType := none }, accessFlags := 0, code := some k7c6 }
def k7c7 : Code := { maxStack := 1, maxLocals := 1, code := jdk_42_method_152_code, exceptionTable := #[], attributes := #[] }
def k7m7 : Method := { name := "coder", desc := "()B", sig := { parameters := [], returnType := some .byte }, accessFlags := 0, code := some k7c7 }
def k7c8 : Code := { maxStack := 1, maxLocals := 1, code := jdk_42_method_154_code, exceptionTable := #[], attributes := #[] }
def k7m8 : Method := { name := "isLatin1", desc := "()Z", sig := { parameters := [], returnType := some .boolean }, accessFlags := 0, code := some k7c8 }
def k7c9 : Code := { maxStack := 3, maxLocals := 2, code := jdk_42_method_155_code, exceptionTable := #[], attributes := #[] }
def k7m9 : Method := { name := "checkIndex", desc := "(II)V", sig := { parameters := [.int, .int], returnType := none }, accessFlags := 8, code := some k7c9 }
/-- java/lang/String -/
def k7 : Class := { plain "java/lang/String" (some 0) with
  accessFlags := 49
  interfaces := #[2, 3, 4, 5, 6]
  cf := some (fileOf pool7 10 #[.nestMembers #[1103]] #[{ accessFlags := 1, nameIndex := 5, descriptorIndex := 6, attributes := #[] }, { accessFlags := 1, nameIndex := 5, descriptorIndex := 1010, attributes := #[] }, { accessFlags := 1, nameIndex := 507, descriptorIndex := 334, attributes := #[] }, { accessFlags := 1, nameIndex := 497, descriptorIndex := 427, attributes := #[] }, { accessFlags := 9, nameIndex := 782, descriptorIndex := 783, attributes := #[] }, { accessFlags := 2, nameIndex := 5, descriptorIndex := 29, attributes := #[] }, { accessFlags := 0, nameIndex := 5, descriptorIndex := 211, attributes := #[] }, { accessFlags := 0, nameIndex := 17, descriptorIndex := 337, attributes := #[] }, { accessFlags := 0, nameIndex := 494, descriptorIndex := 142, attributes := #[] }, { accessFlags := 8, nameIndex := 501, descriptorIndex := 391, attributes := #[] }] 49 2 #[1106, 1108, 575, 1110, 1112] #[{ accessFlags := 18, nameIndex := 13, descriptorIndex := 14, attributes := #[] }, { accessFlags := 18, nameIndex := 17, descriptorIndex := 18, attributes := #[] }, { accessFlags := 2, nameIndex := 21, descriptorIndex := 22, attributes := #[] }, { accessFlags := 2, nameIndex := 25, descriptorIndex := 26, attributes := #[] }, { accessFlags := 26, nameIndex := 1116, descriptorIndex := 1117, attributes := #[] }, { accessFlags := 24, nameIndex := 40, descriptorIndex := 26, attributes := #[] }, { accessFlags := 26, nameIndex := 1101, descriptorIndex := 1102, attributes := #[] }, { accessFlags := 26, nameIndex := 1121, descriptorIndex := 1122, attributes := #[] }, { accessFlags := 25, nameIndex := 599, descriptorIndex := 600, attributes := #[] }, { accessFlags := 24, nameIndex := 1125, descriptorIndex := 18, attributes := #[] }, { accessFlags := 24, nameIndex := 1127, descriptorIndex := 18, attributes := #[] }])
  fields := #[{ name := "value", type := (.array .byte), accessFlags := 18, slot := 0, constantValue := 0 }, { name := "coder", type := .byte, accessFlags := 18, slot := 1, constantValue := 0 }, { name := "hash", type := .int, accessFlags := 2, slot := 2, constantValue := 0 }, { name := "hashIsZero", type := .boolean, accessFlags := 2, slot := 3, constantValue := 0 }, { name := "serialVersionUID", type := .long, accessFlags := 26, slot := 0, constantValue := 0 }, { name := "COMPACT_STRINGS", type := .boolean, accessFlags := 24, slot := 1, constantValue := 0 }, { name := "serialPersistentFields", type := (.array (.object "java/io/ObjectStreamField")), accessFlags := 26, slot := 2, constantValue := 0 }, { name := "REPL", type := .char, accessFlags := 26, slot := 3, constantValue := 0 }, { name := "CASE_INSENSITIVE_ORDER", type := (.object "java/util/Comparator"), accessFlags := 25, slot := 4, constantValue := 0 }, { name := "LATIN1", type := .byte, accessFlags := 24, slot := 5, constantValue := 0 }, { name := "UTF16", type := .byte, accessFlags := 24, slot := 6, constantValue := 0 }]
  methods := #[k7m0, k7m1, k7m2, k7m3, k7m4, k7m5, k7m6, k7m7, k7m8, k7m9]
  instanceTypes := #[(.array .byte), .byte, .int, .boolean]
  staticTypes := #[.long, .boolean, (.array (.object "java/io/ObjectStreamField")), .char, (.object "java/util/Comparator"), .byte, .byte]
  resolved := Array.replicate 1451 none
  statics := some 0 }

def pool8 : Array CpInfo := pool [(2, .class_ 4), (1, u "java/lang/Object"), (0, u "<init>"), (0, u "()V"), (0, .class_ 8), (0, u "com/example/tern/tern/store/HashIndex"), (0, .class_ 10), (0, u "com/example/tern/tern/store/HashIndex$Table"), (2, u "tables"), (0, u "[Lcom/example/tern/tern/store/HashIndex$Table;"), (1, .long 14695981039346656037), (1, .long 65535), (1, .long 1099511628211), (1, .methodref 7 23), (0, .nameAndType 24 25), (0, u "hash"), (0, u "(JLjava/lang/String;)J"), (0, .long 18397679294719823053), (1, .long 14181476777654086739), (19, u "TABLE_SHIFT"), (0, u "I"), (0, .methodref 51 52), (0, .class_ 53), (0, .nameAndType 54 55), (0, u "java/lang/String"), (0, u "length"), (0, u "()I"), (0, .methodref 51 57), (0, .nameAndType 58 59), (0, u "charAt"), (0, u "(I)C"), (8, u "TABLES"), (5, u "([Ljava/lang/String;)J")] 6

def k8m0 : Method := { name := "<init>", desc := "()V", sig := { parameters := [], returnType := none }, accessFlags := 1, code := none }
def k8c1 : Code := { maxStack := 5, maxLocals := 4, code := prog_23_method_2_code, exceptionTable := #[], attributes := #[] }
def k8m1 : Method := { name := "hash", desc := "([Ljava/lang/String;)J", sig := { parameters := [(.array (.object "java/lang/String"))], returnType := some .long }, accessFlags := 137, code := some k8c1 }
def k8c2 : Code := { maxStack := 4, maxLocals := 6, code := prog_23_method_7_code, exceptionTable := #[], attributes := #[] }
def k8m2 : Method := { name := "hash", desc := "(JLjava/lang/String;)J", sig := { parameters := [.long, (.object "java/lang/String")], returnType := some .long }, accessFlags := 10, code := some k8c2 }
/-- com/example/tern/tern/store/HashIndex -/
def k8 : Class := { plain "com/example/tern/tern/store/HashIndex" (some 0) with
  accessFlags := 48
  interfaces := #[]
  cf := some (fileOf pool8 7 #[.nestMembers #[9]] #[{ accessFlags := 1, nameIndex := 5, descriptorIndex := 6, attributes := #[] }, { accessFlags := 137, nameIndex := 24, descriptorIndex := 74, attributes := #[] }, { accessFlags := 10, nameIndex := 24, descriptorIndex := 25, attributes := #[] }] 48 2 #[] #[{ accessFlags := 26, nameIndex := 68, descriptorIndex := 49, attributes := #[] }, { accessFlags := 26, nameIndex := 48, descriptorIndex := 49, attributes := #[] }, { accessFlags := 18, nameIndex := 13, descriptorIndex := 14, attributes := #[] }])
  fields := #[{ name := "TABLES", type := .int, accessFlags := 26, slot := 0, constantValue := 0 }, { name := "TABLE_SHIFT", type := .int, accessFlags := 26, slot := 1, constantValue := 0 }, { name := "tables", type := (.array (.object "com/example/tern/tern/store/HashIndex$Table")), accessFlags := 18, slot := 0, constantValue := 0 }]
  methods := #[k8m0, k8m1, k8m2]
  instanceTypes := #[(.array (.object "com/example/tern/tern/store/HashIndex$Table"))]
  staticTypes := #[.int, .int]
  resolved := Array.replicate 81 none
  statics := none }

def pool9 : Array CpInfo := pool [(1, .class_ 2), (0, u "java/lang/String"), (1, .class_ 6), (1, u "java/lang/Object"), (0, u "<init>"), (0, u "()V"), (0, .methodref 1 10), (0, .nameAndType 11 12), (0, u "checkIndex"), (0, u "(II)V"), (1, .class_ 16), (1, u "java/lang/StringLatin1"), (36, u "([BI)C"), (36, u "canEncode"), (14, u "(C)Z"), (15, u "$assertionsDisabled"), (0, u "Z"), (98, .class_ 223), (1, u "java/lang/StringLatin1$LinesSpliterator"), (28, u "charAt"), (127, u "toBytes"), (1, u "(C)[B"), (7, .class_ 391), (0, u "java/lang/StringLatin1$CharsSpliterator")] 3

def k9m0 : Method := { name := "<init>", desc := "()V", sig := { parameters := [], returnType := none }, accessFlags := 0, code := none }
def k9c1 : Code := { maxStack := 2, maxLocals := 2, code := jdk_43_method_2_code, exceptionTable := #[], attributes := #[] }
def k9m1 : Method := { name := "charAt", desc := "([BI)C", sig := { parameters := [(.array .byte), .int], returnType := some .char }, accessFlags := 9, code := some k9c1 }
def k9c2 : Code := { maxStack := 2, maxLocals := 1, code := jdk_43_method_3_code, exceptionTable := #[], attributes := #[] }
def k9m2 : Method := { name := "canEncode", desc := "(C)Z", sig := { parameters := [.char], returnType := some .boolean }, accessFlags := 9, code := some k9c2 }
def k9c3 : Code := { maxStack := 4, maxLocals := 1, code := jdk_43_method_46_code, exceptionTable := #[], attributes := #[] }
def k9m3 : Method := { name := "toBytes", desc := "(C)[B", sig := { parameters := [.char], returnType := some (.array .byte) }, accessFlags := 9, code := some k9c3 }
/-- java/lang/StringLatin1 -/
def k9 : Class := { plain "java/lang/StringLatin1" (some 0) with
  accessFlags := 48
  interfaces := #[]
  cf := some (fileOf pool9 14 #[.nestMembers #[390, 221]] #[{ accessFlags := 0, nameIndex := 7, descriptorIndex := 8, attributes := #[] }, { accessFlags := 9, nameIndex := 252, descriptorIndex := 53, attributes := #[] }, { accessFlags := 9, nameIndex := 90, descriptorIndex := 105, attributes := #[] }, { accessFlags := 9, nameIndex := 380, descriptorIndex := 382, attributes := #[] }] 48 4 #[] #[{ accessFlags := 4120, nameIndex := 121, descriptorIndex := 122, attributes := #[] }])
  fields := #[{ name := "$assertionsDisabled", type := .boolean, accessFlags := 4120, slot := 0, constantValue := 0 }]
  methods := #[k9m0, k9m1, k9m2, k9m3]
  instanceTypes := #[]
  staticTypes := #[.boolean]
  resolved := Array.replicate 395 none
  statics := none }

def pool10 : Array CpInfo := pool [(3, .class_ 4), (0, u "java/lang/String"), (1, .class_ 8), (1, u "java/lang/Object"), (0, u "<init>"), (0, u "()V"), (0, .methodref 12 13), (0, .class_ 14), (0, .nameAndType 15 16), (0, u "java/lang/StringUTF16"), (0, u "newBytesLength"), (0, u "(I)I"), (3, .integer 1073741823), (23, .fieldref 12 45), (0, .nameAndType 46 47), (0, u "$assertionsDisabled"), (0, u "Z"), (0, .methodref 12 49), (0, .nameAndType 50 51), (0, u "length"), (0, u "([B)I"), (7, .fieldref 12 60), (0, .nameAndType 61 62), (0, u "HI_BYTE_SHIFT"), (0, u "I"), (0, .fieldref 12 64), (0, .nameAndType 65 62), (0, u "LO_BYTE_SHIFT"), (1, .methodref 12 68), (0, .nameAndType 69 70), (0, u "checkIndex"), (0, u "(I[B)V"), (0, .methodref 12 72), (0, .nameAndType 73 74), (0, u "getChar"), (0, u "([BI)C"), (32, .methodref 12 108), (0, .nameAndType 109 110), (0, u "newBytesFor"), (0, u "(I)[B"), (0, .methodref 12 112), (0, .nameAndType 113 114), (0, u "putChar"), (0, u "([BII)V"), (0, .methodref 12 116), (0, .nameAndType 117 118), (0, u "compress"), (0, u "([CI[BII)I"), (0, .methodref 12 120), (0, .nameAndType 121 122), (0, u "toBytes"), (0, u "([CII)[B"), (138, u "coderFromArrayLen"), (0, u "([BI)B"), (106, .class_ 371), (1, u "java/lang/StringUTF16$LinesSpliterator"), (20, u "charAt"), (21, .methodref 3 415), (0, .nameAndType 69 416), (0, u "(II)V"), (13, u "MAX_LENGTH"), (44, u "(C)[B"), (151, .class_ 628), (0, u "java/lang/StringUTF16$CodePointsSpliterator"), (0, .class_ 630), (0, u "java/lang/StringUTF16$CharsSpliterator")] 4

def k10m0 : Method := { name := "<init>", desc := "()V", sig := { parameters := [], returnType := none }, accessFlags := 0, code := none }
def k10c1 : Code := { maxStack := 1, maxLocals := 1, code := jdk_52_method_2_code, exceptionTable := #[], attributes := #[] }
def k10m1 : Method := { name := "newBytesFor", desc := "(I)[B", sig := { parameters := [.int], returnType := some (.array .byte) }, accessFlags := 9, code := some k10c1 }
def k10c2 : Code := { maxStack := 4, maxLocals := 1, code := jdk_52_method_3_code, exceptionTable := #[], attributes := #[] }
def k10m2 : Method := { name := "newBytesLength", desc := "(I)I", sig := { parameters := [.int], returnType := some .int }, accessFlags := 9, code := some k10c2 }
def k10c3 : Code := { maxStack := 4, maxLocals := 3, code := jdk_52_method_4_code, exceptionTable := #[], attributes := #[] }
def k10m3 : Method := { name := "putChar", desc := "([BII)V", sig := { parameters := [(.array .byte), .int, .int], returnType := none }, accessFlags := 8, code := some k10c3 }
def k10c4 : Code := { maxStack := 3, maxLocals := 2, code := jdk_52_method_5_code, exceptionTable := #[], attributes := #[] }
def k10m4 : Method := { name := "getChar", desc := "([BI)C", sig := { parameters := [(.array .byte), .int], returnType := some .char }, accessFlags := 8, code := some k10c4 }
def k10c5 : Code := { maxStack := 2, maxLocals := 1, code := jdk_52_method_6_code, exceptionTable := #[], attributes := #[] }
def k10m5 : Method := { name := "length", desc := "([B)I", sig := { parameters := [(.array .byte)], returnType := some .int }, accessFlags := 9, code := some k10c5 }
def k10c6 : Code := { maxStack := 4, maxLocals := 5, code := jdk_52_method_14_code, exceptionTable := #[], attributes := #[] }
def k10m6 : Method := { name := "toBytes", desc := "([CII)[B", sig := { parameters := [(.array .char), .int, .int], returnType := some (.array .byte) }, accessFlags := 9, code := some k10c6 }
def k10c7 : Code := { maxStack := 2, maxLocals := 2, code := jdk_52_method_15_code, exceptionTable := #[], attributes := #[] }
def k10m7 : Method := { name := "coderFromArrayLen", desc := "([BI)B", sig := { parameters := [(.array .byte), .int], returnType := some .byte }, accessFlags := 8, code := some k10c7 }
def k10c8 : Code := { maxStack := 5, maxLocals := 6, code := jdk_52_method_16_code, exceptionTable := #[], attributes := #[] }
def k10m8 : Method := { name := "compress", desc := "([CII)[B", sig := { parameters := [(.array .char), .int, .int], returnType := some (.array .byte) }, accessFlags := 9, code := some k10c8 }
def k10c9 : Code := { maxStack := 3, maxLocals := 7, code := jdk_52_method_21_code, exceptionTable := #[], attributes := #[] }
def k10m9 : Method := { name := "compress", desc := "([CI[BII)I", sig := { parameters := [(.array .char), .int, (.array .byte), .int, .int], returnType := some .int }, accessFlags := 9, code := some k10c9 }
def k10c10 : Code := { maxStack := 3, maxLocals := 2, code := jdk_52_method_24_code, exceptionTable := #[], attributes := #[] }
def k10m10 : Method := { name := "toBytes", desc := "(C)[B", sig := { parameters := [.char], returnType := some (.array .byte) }, accessFlags := 9, code := some k10c10 }
def k10c11 : Code := { maxStack := 2, maxLocals := 2, code := jdk_52_method_83_code, exceptionTable := #[], attributes := #[] }
def k10m11 : Method := { name := "charAt", desc := "([BI)C", sig := { parameters := [(.array .byte), .int], returnType := some .char }, accessFlags := 9, code := some k10c11 }
def k10c12 : Code := { maxStack := 2, maxLocals := 2, code := jdk_52_method_91_code, exceptionTable := #[], attributes := #[] }
def k10m12 : Method := { name := "checkIndex", desc := "(I[B)V", sig := { parameters := [.int, (.array .byte)], returnType := none }, accessFlags := 9, code := some k10c12 }
/-- java/lang/StringUTF16 -/
def k10 : Class := { plain "java/lang/StringUTF16" (some 0) with
  accessFlags := 48
  interfaces := #[]
  cf := some (fileOf pool10 12 #[.nestMembers #[627, 629, 369]] #[{ accessFlags := 0, nameIndex := 9, descriptorIndex := 10, attributes := #[] }, { accessFlags := 9, nameIndex := 109, descriptorIndex := 110, attributes := #[] }, { accessFlags := 9, nameIndex := 15, descriptorIndex := 16, attributes := #[] }, { accessFlags := 8, nameIndex := 113, descriptorIndex := 114, attributes := #[] }, { accessFlags := 8, nameIndex := 73, descriptorIndex := 74, attributes := #[] }, { accessFlags := 9, nameIndex := 50, descriptorIndex := 51, attributes := #[] }, { accessFlags := 9, nameIndex := 121, descriptorIndex := 122, attributes := #[] }, { accessFlags := 8, nameIndex := 261, descriptorIndex := 262, attributes := #[] }, { accessFlags := 9, nameIndex := 117, descriptorIndex := 122, attributes := #[] }, { accessFlags := 9, nameIndex := 117, descriptorIndex := 118, attributes := #[] }, { accessFlags := 9, nameIndex := 121, descriptorIndex := 475, attributes := #[] }, { accessFlags := 9, nameIndex := 392, descriptorIndex := 74, attributes := #[] }, { accessFlags := 9, nameIndex := 69, descriptorIndex := 70, attributes := #[] }] 48 6 #[] #[{ accessFlags := 26, nameIndex := 61, descriptorIndex := 62, attributes := #[] }, { accessFlags := 26, nameIndex := 65, descriptorIndex := 62, attributes := #[] }, { accessFlags := 24, nameIndex := 430, descriptorIndex := 62, attributes := #[] }, { accessFlags := 4120, nameIndex := 46, descriptorIndex := 47, attributes := #[] }])
  fields := #[{ name := "HI_BYTE_SHIFT", type := .int, accessFlags := 26, slot := 0, constantValue := 0 }, { name := "LO_BYTE_SHIFT", type := .int, accessFlags := 26, slot := 1, constantValue := 0 }, { name := "MAX_LENGTH", type := .int, accessFlags := 24, slot := 2, constantValue := 0 }, { name := "$assertionsDisabled", type := .boolean, accessFlags := 4120, slot := 3, constantValue := 0 }]
  methods := #[k10m0, k10m1, k10m2, k10m3, k10m4, k10m5, k10m6, k10m7, k10m8, k10m9, k10m10, k10m11, k10m12]
  instanceTypes := #[]
  staticTypes := #[.int, .int, .int, .boolean]
  resolved := Array.replicate 635 none
  statics := some 1 }

def pool11 : Array CpInfo := pool [(2, .class_ 4), (1, u "java/lang/Object"), (0, u "<init>"), (0, u "()V"), (17, .class_ 26), (1, u "jdk/internal/util/Preconditions"), (6, u "checkIndex"), (21, .class_ 56), (0, u "jdk/internal/util/Preconditions$4"), (57, .class_ 115), (0, u "jdk/internal/util/Preconditions$1"), (7, u "SIOOBE_FORMATTER"), (0, u "Ljava/util/function/BiFunction;"), (0, .class_ 126), (0, u "jdk/internal/util/Preconditions$2"), (3, u "AIOOBE_FORMATTER"), (0, .class_ 132), (0, u "jdk/internal/util/Preconditions$3"), (3, u "IOOBE_FORMATTER"), (41, u "(IILjava/util/function/BiFunction;)I")] 15

def k11m0 : Method := { name := "<init>", desc := "()V", sig := { parameters := [], returnType := none }, accessFlags := 1, code := none }
def k11c1 : Code := { maxStack := 3, maxLocals := 3, code := jdk_41_method_11_code, exceptionTable := #[], attributes := #[] }
def k11m1 : Method := { name := "checkIndex", desc := "(IILjava/util/function/BiFunction;)I", sig := { parameters := [.int, .int, (.object "java/util/function/BiFunction")], returnType := some .int }, accessFlags := 9, code := some k11c1 }
/-- jdk/internal/util/Preconditions -/
def k11 : Class := { plain "jdk/internal/util/Preconditions" (some 0) with
  accessFlags := 33
  interfaces := #[]
  cf := some (fileOf pool11 24 #[.nestMembers #[55, 131, 125, 114]] #[{ accessFlags := 1, nameIndex := 5, descriptorIndex := 6, attributes := #[] }, { accessFlags := 9, nameIndex := 33, descriptorIndex := 178, attributes := #[] }] 33 2 #[] #[{ accessFlags := 25, nameIndex := 123, descriptorIndex := 124, attributes := #[] }, { accessFlags := 25, nameIndex := 130, descriptorIndex := 124, attributes := #[] }, { accessFlags := 25, nameIndex := 136, descriptorIndex := 124, attributes := #[] }])
  fields := #[{ name := "SIOOBE_FORMATTER", type := (.object "java/util/function/BiFunction"), accessFlags := 25, slot := 0, constantValue := 0 }, { name := "AIOOBE_FORMATTER", type := (.object "java/util/function/BiFunction"), accessFlags := 25, slot := 1, constantValue := 0 }, { name := "IOOBE_FORMATTER", type := (.object "java/util/function/BiFunction"), accessFlags := 25, slot := 2, constantValue := 0 }]
  methods := #[k11m0, k11m1]
  instanceTypes := #[]
  staticTypes := #[(.object "java/util/function/BiFunction"), (.object "java/util/function/BiFunction"), (.object "java/util/function/BiFunction")]
  resolved := Array.replicate 194 none
  statics := some 2 }

def pool12 : Array CpInfo := pool [(9, u "<init>"), (6, .class_ 18), (1, u "java/lang/Object"), (0, u "()V"), (1, .class_ 23), (1, u "jdk/internal/util/ArraysSupport"), (0, u "LOG2_ARRAY_LONG_INDEX_SCALE"), (0, u "I"), (2, u "U"), (0, u "Ljdk/internal/misc/Unsafe;"), (8, u "BIG_ENDIAN"), (0, u "Z"), (8, u "LOG2_BYTE_BIT_SIZE"), (4, u "LOG2_ARRAY_INT_INDEX_SCALE"), (54, u "JLA"), (0, u "Ljdk/internal/access/JavaLangAccess;"), (11, u "LOG2_ARRAY_BOOLEAN_INDEX_SCALE"), (9, u "LOG2_ARRAY_BYTE_INDEX_SCALE"), (5, u "LOG2_ARRAY_CHAR_INDEX_SCALE"), (5, u "LOG2_ARRAY_SHORT_INDEX_SCALE"), (18, u "LOG2_ARRAY_FLOAT_INDEX_SCALE"), (24, u "LOG2_ARRAY_DOUBLE_INDEX_SCALE"), (89, u "T_BOOLEAN"), (2, u "T_CHAR"), (1, u "T_FLOAT"), (1, u "T_DOUBLE"), (1, u "T_BYTE"), (1, u "T_SHORT"), (1, u "T_INT"), (1, u "T_LONG"), (1, u "SOFT_MAX_ARRAY_LENGTH")] 83

def k12m0 : Method := { name := "<init>", desc := "()V", sig := { parameters := [], returnType := none }, accessFlags := 2, code := none }
/-- jdk/internal/util/ArraysSupport -/
def k12 : Class := { plain "jdk/internal/util/ArraysSupport" (some 0) with
  accessFlags := 33
  interfaces := #[]
  cf := some (fileOf pool12 21 #[] #[{ accessFlags := 2, nameIndex := 9, descriptorIndex := 19, attributes := #[] }] 33 16 #[] #[{ accessFlags := 24, nameIndex := 28, descriptorIndex := 29, attributes := #[] }, { accessFlags := 26, nameIndex := 38, descriptorIndex := 39, attributes := #[] }, { accessFlags := 25, nameIndex := 121, descriptorIndex := 25, attributes := #[] }, { accessFlags := 25, nameIndex := 131, descriptorIndex := 25, attributes := #[] }, { accessFlags := 25, nameIndex := 137, descriptorIndex := 25, attributes := #[] }, { accessFlags := 25, nameIndex := 143, descriptorIndex := 25, attributes := #[] }, { accessFlags := 25, nameIndex := 53, descriptorIndex := 25, attributes := #[] }, { accessFlags := 25, nameIndex := 24, descriptorIndex := 25, attributes := #[] }, { accessFlags := 25, nameIndex := 162, descriptorIndex := 25, attributes := #[] }, { accessFlags := 25, nameIndex := 187, descriptorIndex := 25, attributes := #[] }, { accessFlags := 26, nameIndex := 48, descriptorIndex := 25, attributes := #[] }, { accessFlags := 25, nameIndex := 277, descriptorIndex := 25, attributes := #[] }, { accessFlags := 25, nameIndex := 280, descriptorIndex := 25, attributes := #[] }, { accessFlags := 25, nameIndex := 282, descriptorIndex := 25, attributes := #[] }, { accessFlags := 25, nameIndex := 284, descriptorIndex := 25, attributes := #[] }, { accessFlags := 25, nameIndex := 286, descriptorIndex := 25, attributes := #[] }, { accessFlags := 25, nameIndex := 288, descriptorIndex := 25, attributes := #[] }, { accessFlags := 25, nameIndex := 290, descriptorIndex := 25, attributes := #[] }, { accessFlags := 25, nameIndex := 292, descriptorIndex := 25, attributes := #[] }, { accessFlags := 26, nameIndex := 108, descriptorIndex := 109, attributes := #[] }, { accessFlags := 25, nameIndex := 294, descriptorIndex := 25, attributes := #[] }])
  fields := #[{ name := "U", type := (.object "jdk/internal/misc/Unsafe"), accessFlags := 24, slot := 0, constantValue := 0 }, { name := "BIG_ENDIAN", type := .boolean, accessFlags := 26, slot := 1, constantValue := 0 }, { name := "LOG2_ARRAY_BOOLEAN_INDEX_SCALE", type := .int, accessFlags := 25, slot := 2, constantValue := 0 }, { name := "LOG2_ARRAY_BYTE_INDEX_SCALE", type := .int, accessFlags := 25, slot := 3, constantValue := 0 }, { name := "LOG2_ARRAY_CHAR_INDEX_SCALE", type := .int, accessFlags := 25, slot := 4, constantValue := 0 }, { name := "LOG2_ARRAY_SHORT_INDEX_SCALE", type := .int, accessFlags := 25, slot := 5, constantValue := 0 }, { name := "LOG2_ARRAY_INT_INDEX_SCALE", type := .int, accessFlags := 25, slot := 6, constantValue := 0 }, { name := "LOG2_ARRAY_LONG_INDEX_SCALE", type := .int, accessFlags := 25, slot := 7, constantValue := 0 }, { name := "LOG2_ARRAY_FLOAT_INDEX_SCALE", type := .int, accessFlags := 25, slot := 8, constantValue := 0 }, { name := "LOG2_ARRAY_DOUBLE_INDEX_SCALE", type := .int, accessFlags := 25, slot := 9, constantValue := 0 }, { name := "LOG2_BYTE_BIT_SIZE", type := .int, accessFlags := 26, slot := 10, constantValue := 0 }, { name := "T_BOOLEAN", type := .int, accessFlags := 25, slot := 11, constantValue := 0 }, { name := "T_CHAR", type := .int, accessFlags := 25, slot := 12, constantValue := 0 }, { name := "T_FLOAT", type := .int, accessFlags := 25, slot := 13, constantValue := 0 }, { name := "T_DOUBLE", type := .int, accessFlags := 25, slot := 14, constantValue := 0 }, { name := "T_BYTE", type := .int, accessFlags := 25, slot := 15, constantValue := 0 }, { name := "T_SHORT", type := .int, accessFlags := 25, slot := 16, constantValue := 0 }, { name := "T_INT", type := .int, accessFlags := 25, slot := 17, constantValue := 0 }, { name := "T_LONG", type := .int, accessFlags := 25, slot := 18, constantValue := 0 }, { name := "JLA", type := (.object "jdk/internal/access/JavaLangAccess"), accessFlags := 26, slot := 19, constantValue := 0 }, { name := "SOFT_MAX_ARRAY_LENGTH", type := .int, accessFlags := 25, slot := 20, constantValue := 0 }]
  methods := #[k12m0]
  instanceTypes := #[]
  staticTypes := #[(.object "jdk/internal/misc/Unsafe"), .boolean, .int, .int, .int, .int, .int, .int, .int, .int, .int, .int, .int, .int, .int, .int, .int, .int, .int, (.object "jdk/internal/access/JavaLangAccess"), .int]
  resolved := Array.replicate 378 none
  statics := none }

def pool13 : Array CpInfo := pool [(1, u "java/lang/Cloneable"), (0, .class_ 1), (0, u "java/lang/Object"), (0, .class_ 3)] 3

/-- java/lang/Cloneable -/
def k13 : Class := { plain "java/lang/Cloneable" (some 0) with
  accessFlags := 1537
  interfaces := #[]
  cf := some (fileOf pool13 2 #[] #[] 1537 4 #[] #[])
  fields := #[]
  methods := #[]
  instanceTypes := #[]
  staticTypes := #[]
  resolved := Array.replicate 8 none
  statics := none }

/-- the primitive byte -/
def k14 : Class := { plain "byte" none with kind := .primitive 'B', accessFlags := 0x411 }
/-- [B -/
def k15 : Class := { plain "[B" (some 0) with kind := .array 14 .byte, interfaces := #[13, 2], accessFlags := 1041 }

/-- the primitive char -/
def k16 : Class := { plain "char" none with kind := .primitive 'C', accessFlags := 0x411 }
/-- [C -/
def k17 : Class := { plain "[C" (some 0) with kind := .array 16 .char, interfaces := #[13, 2], accessFlags := 1041 }

/-- the primitive int -/
def k18 : Class := { plain "int" none with kind := .primitive 'I', accessFlags := 0x411 }
/-- [I -/
def k19 : Class := { plain "[I" (some 0) with kind := .array 18 .int, interfaces := #[13, 2], accessFlags := 1041 }

/-- [Ljava/lang/String; -/
def k20 : Class := { plain "[Ljava/lang/String;" (some 0) with kind := .array 7 (.object "java/lang/String"), interfaces := #[13, 2], accessFlags := 1041 }

def heap : Heap := #[{ cls := 7, slots := #[.long 0, .int 1, .null, .int 0, .null, .int 0, .int 0], vm := .statics 7 },
  { cls := 10, slots := #[.int 0, .int 8, .int 0, .int 1], vm := .statics 10 },
  { cls := 11, slots := #[.null, .null, .null], vm := .statics 11 }]
def classes : Array Class := #[k0, k1, k2, k3, k4, k5, k6, k7, k8, k9, k10, k11, k12, k13, k14, k15, k16, k17, k18, k19, k20]
def interned : List (Array UInt16 × Addr) := []
def slotsUsed : Nat := 14
def theMethod : MethodId := ⟨1, 1⟩
def args0 : Array Value := #[.int 5, .int 300, .int 9, .int 400, .int 38]
def aboutOver (below : List Frame) : State where
  vm := { classes := classes, interned := interned.toArray }
  heap := heap
  slotsUsed := slotsUsed
  threads := #[{ frames := .invoking theMethod args0 :: below }]
def below0 : List Frame := [.native { method := ⟨0, 0⟩, args := #[] }]
def about1 : State := aboutOver below0
def p0 : Program := .bare "" "" ""
def e0 : Env := launch0.env 0 0 0
theorem w_frames : about1.frames = Frame.invoking theMethod args0 :: below0 := rfl
set_option maxRecDepth 65536 in
theorem w_args : argsFit about1.vm theMethod args0 = true := by decide +kernel
set_option maxRecDepth 65536 in
theorem w_heap : heapFits about1 = true := by decide +kernel
set_option maxRecDepth 65536 in
theorem w_runnable : about1.curStatus? = some .runnable := by decide +kernel
set_option maxRecDepth 65536 in
theorem w_alone : about1.alone = true := by decide +kernel
set_option maxRecDepth 65536 in
theorem w_named : about1.methodNamed? x = some theMethod := by decide +kernel
set_option maxRecDepth 65536 in
theorem w_hears : about1.hears theMethod below0 = true := by decide +kernel
set_option maxRecDepth 65536 in
theorem w_ripe : about1.ripe theMethod args0 below0 = true := by decide +kernel
theorem w_running : about1.status = .running := rfl
set_option maxRecDepth 65536 in
theorem w_room : about1.hasRoom e0.platform room_1 = true :=
  launch0.hasRoom_least _ room_1 (by decide +kernel) (by decide +kernel) (by decide +kernel) (by decide +kernel) (by decide +kernel) (by decide +kernel)
theorem allAtoms_all (ts : List Jvm.Cond) (a : Array Jvm.Value) (st : Jvm.State) : (allAtoms ts).before a st = ts.all (fun c => c.before a st) := by
  induction ts with
  | nil => rfl
  | cons c t ih =>
    show (Jvm.Cond.and c (allAtoms t)).before a st = _
    rw [Jvm.Cond.before_and, ih, List.all_cons]
def words1 : List Jvm.Cond := Jvm.Cond.code x code maxLocals ret :: tables_1
/-- a 'code' word, met by the world's own term for the bytes: nothing is compared byte by byte -/
theorem code_word {y : MethodName} {bytes : ByteArray} {mx : Nat} {rt : Option FieldType} {a : Array Value} {s : State} {m : MethodId} {meth : Method} {c : Code} (h1 : s.methodNamed? y = some m) (h2 : s.vm.method? m = some meth) (h3 : meth.code = some c) (h4 : c.code = bytes)
    (h5 : (c.maxLocals == mx && c.exceptionTable.isEmpty && decide (c.maxStack ≤ mostOperands) && decide (meth.sig.returnType = rt) && !meth.locks && decide (parseMethodDescriptor y.desc = some meth.sig)) = true) : (Jvm.Cond.code y bytes mx rt).before a s = true := by
  simp only [Bool.and_eq_true, beq_iff_eq, Bool.not_eq_true', decide_eq_true_eq] at h5
  obtain ⟨⟨⟨⟨⟨g1, g2⟩, g3⟩, g4⟩, g5⟩, g6⟩ := h5
  simp [Cond.before, Cond.holds, Cond.value, h1, h2, h3, h4, g1, g2, g3, g4, g5, g6]
def isCode : Jvm.Cond → Bool
  | .code _ _ _ _ => true
  | _ => false
theorem all_split {L : List Jvm.Cond} {P : Jvm.Cond → Bool} (h1 : L.all (fun c => isCode c || P c) = true) (h2 : ∀ c ∈ L.filter isCode, P c = true) : L.all P = true := by
  refine List.all_eq_true.mpr fun c hc => ?_
  have h := List.all_eq_true.mp h1 c hc
  rcases Bool.eq_false_or_eq_true (isCode c) with hi | hi
  · exact h2 c (List.mem_filter.mpr ⟨hc, hi⟩)
  · simpa [hi] using h
set_option maxRecDepth 65536 in
theorem w_c0 : (Jvm.Cond.code x code maxLocals ret).before args0 about1 = true := code_word (m := ⟨1, 1⟩) (meth := k1m1) (c := k1c1) (by decide +kernel) rfl rfl rfl (by decide +kernel)
set_option maxRecDepth 65536 in
theorem w_c1 : (Jvm.Cond.code ({ cls := "com/example/tern/tern/store/HashIndexHashPinLaw", name := "text", desc := "(ICC)Ljava/lang/String;" } : Jvm.MethodName) method_5_code (3 : Nat) (Option.some (Jvm.ClassFile.FieldType.object "java/lang/String"))).before args0 about1 = true := code_word (m := ⟨1, 4⟩) (meth := k1m4) (c := k1c4) (by decide +kernel) rfl rfl rfl (by decide +kernel)
set_option maxRecDepth 65536 in
theorem w_c2 : (Jvm.Cond.code ({ cls := "java/lang/String", name := "<init>", desc := "([C)V" } : Jvm.MethodName) jdk_42_method_3_code (2 : Nat) (Option.none : Option Jvm.ClassFile.FieldType)).before args0 about1 = true := code_word (m := ⟨7, 1⟩) (meth := k7m1) (c := k7c1) (by decide +kernel) rfl rfl rfl (by decide +kernel)
set_option maxRecDepth 65536 in
theorem w_c3 : (Jvm.Cond.code ({ cls := "java/lang/String", name := "<init>", desc := "([CIILjava/lang/Void;)V" } : Jvm.MethodName) jdk_42_method_149_code (6 : Nat) (Option.none : Option Jvm.ClassFile.FieldType)).before args0 about1 = true := code_word (m := ⟨7, 5⟩) (meth := k7m5) (c := k7c5) (by decide +kernel) rfl rfl rfl (by decide +kernel)
set_option maxRecDepth 65536 in
theorem w_c4 : (Jvm.Cond.code ({ cls := "java/lang/Object", name := "<init>", desc := "()V" } : Jvm.MethodName) object_method_1_code (1 : Nat) (Option.none : Option Jvm.ClassFile.FieldType)).before args0 about1 = true := code_word (m := ⟨0, 0⟩) (meth := k0m0) (c := k0c0) (by decide +kernel) rfl rfl rfl (by decide +kernel)
set_option maxRecDepth 65536 in
theorem w_c5 : (Jvm.Cond.code ({ cls := "com/example/tern/tern/store/HashIndex", name := "hash", desc := "([Ljava/lang/String;)J" } : Jvm.MethodName) prog_23_method_2_code (4 : Nat) (Option.some Jvm.ClassFile.FieldType.long)).before args0 about1 = true := code_word (m := ⟨8, 1⟩) (meth := k8m1) (c := k8c1) (by decide +kernel) rfl rfl rfl (by decide +kernel)
set_option maxRecDepth 65536 in
theorem w_c6 : (Jvm.Cond.code ({ cls := "com/example/tern/tern/store/HashIndexHashPinLaw", name := "mix", desc := "(J)J" } : Jvm.MethodName) method_6_code (4 : Nat) (Option.some Jvm.ClassFile.FieldType.long)).before args0 about1 = true := code_word (m := ⟨1, 5⟩) (meth := k1m5) (c := k1c5) (by decide +kernel) rfl rfl rfl (by decide +kernel)
set_option maxRecDepth 65536 in
theorem w_c7 : (Jvm.Cond.code ({ cls := "java/lang/String", name := "valueOf", desc := "(C)Ljava/lang/String;" } : Jvm.MethodName) jdk_42_method_139_code (1 : Nat) (Option.some (Jvm.ClassFile.FieldType.object "java/lang/String"))).before args0 about1 = true := code_word (m := ⟨7, 4⟩) (meth := k7m4) (c := k7c4) (by decide +kernel) rfl rfl rfl (by decide +kernel)
set_option maxRecDepth 65536 in
theorem w_c8 : (Jvm.Cond.code ({ cls := "java/lang/StringLatin1", name := "canEncode", desc := "(C)Z" } : Jvm.MethodName) jdk_43_method_3_code (1 : Nat) (Option.some Jvm.ClassFile.FieldType.boolean)).before args0 about1 = true := code_word (m := ⟨9, 2⟩) (meth := k9m2) (c := k9c2) (by decide +kernel) rfl rfl rfl (by decide +kernel)
set_option maxRecDepth 65536 in
theorem w_c9 : (Jvm.Cond.code ({ cls := "java/lang/StringLatin1", name := "toBytes", desc := "(C)[B" } : Jvm.MethodName) jdk_43_method_46_code (1 : Nat) (Option.some (Jvm.ClassFile.FieldType.array Jvm.ClassFile.FieldType.byte))).before args0 about1 = true := code_word (m := ⟨9, 3⟩) (meth := k9m3) (c := k9c3) (by decide +kernel) rfl rfl rfl (by decide +kernel)
set_option maxRecDepth 65536 in
theorem w_c10 : (Jvm.Cond.code ({ cls := "java/lang/String", name := "<init>", desc := "([BB)V" } : Jvm.MethodName) jdk_42_method_151_code (3 : Nat) (Option.none : Option Jvm.ClassFile.FieldType)).before args0 about1 = true := code_word (m := ⟨7, 6⟩) (meth := k7m6) (c := k7c6) (by decide +kernel) rfl rfl rfl (by decide +kernel)
set_option maxRecDepth 65536 in
theorem w_c11 : (Jvm.Cond.code ({ cls := "java/lang/StringUTF16", name := "compress", desc := "([CII)[B" } : Jvm.MethodName) jdk_52_method_16_code (6 : Nat) (Option.some (Jvm.ClassFile.FieldType.array Jvm.ClassFile.FieldType.byte))).before args0 about1 = true := code_word (m := ⟨10, 8⟩) (meth := k10m8) (c := k10c8) (by decide +kernel) rfl rfl rfl (by decide +kernel)
set_option maxRecDepth 65536 in
theorem w_c12 : (Jvm.Cond.code ({ cls := "java/lang/StringUTF16", name := "compress", desc := "([CI[BII)I" } : Jvm.MethodName) jdk_52_method_21_code (7 : Nat) (Option.some Jvm.ClassFile.FieldType.int)).before args0 about1 = true := code_word (m := ⟨10, 9⟩) (meth := k10m9) (c := k10c9) (by decide +kernel) rfl rfl rfl (by decide +kernel)
set_option maxRecDepth 65536 in
theorem w_c13 : (Jvm.Cond.code ({ cls := "java/lang/StringUTF16", name := "coderFromArrayLen", desc := "([BI)B" } : Jvm.MethodName) jdk_52_method_15_code (2 : Nat) (Option.some Jvm.ClassFile.FieldType.byte)).before args0 about1 = true := code_word (m := ⟨10, 7⟩) (meth := k10m7) (c := k10c7) (by decide +kernel) rfl rfl rfl (by decide +kernel)
set_option maxRecDepth 65536 in
theorem w_c14 : (Jvm.Cond.code ({ cls := "com/example/tern/tern/store/HashIndexHashPinLaw", name := "feed", desc := "(JIII)J" } : Jvm.MethodName) method_4_code (7 : Nat) (Option.some Jvm.ClassFile.FieldType.long)).before args0 about1 = true := code_word (m := ⟨1, 3⟩) (meth := k1m3) (c := k1c3) (by decide +kernel) rfl rfl rfl (by decide +kernel)
set_option maxRecDepth 65536 in
theorem w_c15 : (Jvm.Cond.code ({ cls := "com/example/tern/tern/store/HashIndexHashPinLaw", name := "step", desc := "(JI)J" } : Jvm.MethodName) method_3_code (3 : Nat) (Option.some Jvm.ClassFile.FieldType.long)).before args0 about1 = true := code_word (m := ⟨1, 2⟩) (meth := k1m2) (c := k1c2) (by decide +kernel) rfl rfl rfl (by decide +kernel)
set_option maxRecDepth 65536 in
theorem w_c16 : (Jvm.Cond.code ({ cls := "com/example/tern/tern/store/HashIndex", name := "hash", desc := "(JLjava/lang/String;)J" } : Jvm.MethodName) prog_23_method_7_code (6 : Nat) (Option.some Jvm.ClassFile.FieldType.long)).before args0 about1 = true := code_word (m := ⟨8, 2⟩) (meth := k8m2) (c := k8c2) (by decide +kernel) rfl rfl rfl (by decide +kernel)
set_option maxRecDepth 65536 in
theorem w_c17 : (Jvm.Cond.code ({ cls := "java/lang/String", name := "length", desc := "()I" } : Jvm.MethodName) jdk_42_method_54_code (1 : Nat) (Option.some Jvm.ClassFile.FieldType.int)).before args0 about1 = true := code_word (m := ⟨7, 2⟩) (meth := k7m2) (c := k7c2) (by decide +kernel) rfl rfl rfl (by decide +kernel)
set_option maxRecDepth 65536 in
theorem w_c18 : (Jvm.Cond.code ({ cls := "java/lang/String", name := "coder", desc := "()B" } : Jvm.MethodName) jdk_42_method_152_code (1 : Nat) (Option.some Jvm.ClassFile.FieldType.byte)).before args0 about1 = true := code_word (m := ⟨7, 7⟩) (meth := k7m7) (c := k7c7) (by decide +kernel) rfl rfl rfl (by decide +kernel)
set_option maxRecDepth 65536 in
theorem w_c19 : (Jvm.Cond.code ({ cls := "java/lang/String", name := "charAt", desc := "(I)C" } : Jvm.MethodName) jdk_42_method_56_code (2 : Nat) (Option.some Jvm.ClassFile.FieldType.char)).before args0 about1 = true := code_word (m := ⟨7, 3⟩) (meth := k7m3) (c := k7c3) (by decide +kernel) rfl rfl rfl (by decide +kernel)
set_option maxRecDepth 65536 in
theorem w_c20 : (Jvm.Cond.code ({ cls := "java/lang/String", name := "isLatin1", desc := "()Z" } : Jvm.MethodName) jdk_42_method_154_code (1 : Nat) (Option.some Jvm.ClassFile.FieldType.boolean)).before args0 about1 = true := code_word (m := ⟨7, 8⟩) (meth := k7m8) (c := k7c8) (by decide +kernel) rfl rfl rfl (by decide +kernel)
set_option maxRecDepth 65536 in
theorem w_c21 : (Jvm.Cond.code ({ cls := "java/lang/StringLatin1", name := "charAt", desc := "([BI)C" } : Jvm.MethodName) jdk_43_method_2_code (2 : Nat) (Option.some Jvm.ClassFile.FieldType.char)).before args0 about1 = true := code_word (m := ⟨9, 1⟩) (meth := k9m1) (c := k9c1) (by decide +kernel) rfl rfl rfl (by decide +kernel)
set_option maxRecDepth 65536 in
theorem w_c22 : (Jvm.Cond.code ({ cls := "java/lang/String", name := "checkIndex", desc := "(II)V" } : Jvm.MethodName) jdk_42_method_155_code (2 : Nat) (Option.none : Option Jvm.ClassFile.FieldType)).before args0 about1 = true := code_word (m := ⟨7, 9⟩) (meth := k7m9) (c := k7c9) (by decide +kernel) rfl rfl rfl (by decide +kernel)
set_option maxRecDepth 65536 in
theorem w_c23 : (Jvm.Cond.code ({ cls := "jdk/internal/util/Preconditions", name := "checkIndex", desc := "(IILjava/util/function/BiFunction;)I" } : Jvm.MethodName) jdk_41_method_11_code (3 : Nat) (Option.some Jvm.ClassFile.FieldType.int)).before args0 about1 = true := code_word (m := ⟨11, 1⟩) (meth := k11m1) (c := k11c1) (by decide +kernel) rfl rfl rfl (by decide +kernel)
set_option maxRecDepth 65536 in
theorem w_c24 : (Jvm.Cond.code ({ cls := "java/lang/StringUTF16", name := "toBytes", desc := "([CII)[B" } : Jvm.MethodName) jdk_52_method_14_code (5 : Nat) (Option.some (Jvm.ClassFile.FieldType.array Jvm.ClassFile.FieldType.byte))).before args0 about1 = true := code_word (m := ⟨10, 6⟩) (meth := k10m6) (c := k10c6) (by decide +kernel) rfl rfl rfl (by decide +kernel)
set_option maxRecDepth 65536 in
theorem w_c25 : (Jvm.Cond.code ({ cls := "java/lang/StringUTF16", name := "newBytesFor", desc := "(I)[B" } : Jvm.MethodName) jdk_52_method_2_code (1 : Nat) (Option.some (Jvm.ClassFile.FieldType.array Jvm.ClassFile.FieldType.byte))).before args0 about1 = true := code_word (m := ⟨10, 1⟩) (meth := k10m1) (c := k10c1) (by decide +kernel) rfl rfl rfl (by decide +kernel)
set_option maxRecDepth 65536 in
theorem w_c26 : (Jvm.Cond.code ({ cls := "java/lang/StringUTF16", name := "newBytesLength", desc := "(I)I" } : Jvm.MethodName) jdk_52_method_3_code (1 : Nat) (Option.some Jvm.ClassFile.FieldType.int)).before args0 about1 = true := code_word (m := ⟨10, 2⟩) (meth := k10m2) (c := k10c2) (by decide +kernel) rfl rfl rfl (by decide +kernel)
set_option maxRecDepth 65536 in
theorem w_c27 : (Jvm.Cond.code ({ cls := "java/lang/StringUTF16", name := "putChar", desc := "([BII)V" } : Jvm.MethodName) jdk_52_method_4_code (3 : Nat) (Option.none : Option Jvm.ClassFile.FieldType)).before args0 about1 = true := code_word (m := ⟨10, 3⟩) (meth := k10m3) (c := k10c3) (by decide +kernel) rfl rfl rfl (by decide +kernel)
set_option maxRecDepth 65536 in
theorem w_c28 : (Jvm.Cond.code ({ cls := "java/lang/StringUTF16", name := "getChar", desc := "([BI)C" } : Jvm.MethodName) jdk_52_method_5_code (2 : Nat) (Option.some Jvm.ClassFile.FieldType.char)).before args0 about1 = true := code_word (m := ⟨10, 4⟩) (meth := k10m4) (c := k10c4) (by decide +kernel) rfl rfl rfl (by decide +kernel)
set_option maxRecDepth 65536 in
theorem w_c29 : (Jvm.Cond.code ({ cls := "java/lang/StringUTF16", name := "toBytes", desc := "(C)[B" } : Jvm.MethodName) jdk_52_method_24_code (2 : Nat) (Option.some (Jvm.ClassFile.FieldType.array Jvm.ClassFile.FieldType.byte))).before args0 about1 = true := code_word (m := ⟨10, 10⟩) (meth := k10m10) (c := k10c10) (by decide +kernel) rfl rfl rfl (by decide +kernel)
set_option maxRecDepth 65536 in
theorem w_c30 : (Jvm.Cond.code ({ cls := "java/lang/StringUTF16", name := "charAt", desc := "([BI)C" } : Jvm.MethodName) jdk_52_method_83_code (2 : Nat) (Option.some Jvm.ClassFile.FieldType.char)).before args0 about1 = true := code_word (m := ⟨10, 11⟩) (meth := k10m11) (c := k10c11) (by decide +kernel) rfl rfl rfl (by decide +kernel)
set_option maxRecDepth 65536 in
theorem w_c31 : (Jvm.Cond.code ({ cls := "java/lang/StringUTF16", name := "checkIndex", desc := "(I[B)V" } : Jvm.MethodName) jdk_52_method_91_code (2 : Nat) (Option.none : Option Jvm.ClassFile.FieldType)).before args0 about1 = true := code_word (m := ⟨10, 12⟩) (meth := k10m12) (c := k10c12) (by decide +kernel) rfl rfl rfl (by decide +kernel)
set_option maxRecDepth 65536 in
theorem w_c32 : (Jvm.Cond.code ({ cls := "java/lang/StringUTF16", name := "length", desc := "([B)I" } : Jvm.MethodName) jdk_52_method_6_code (1 : Nat) (Option.some Jvm.ClassFile.FieldType.int)).before args0 about1 = true := code_word (m := ⟨10, 5⟩) (meth := k10m5) (c := k10c5) (by decide +kernel) rfl rfl rfl (by decide +kernel)
def codes1 : List Jvm.Cond := [Jvm.Cond.code x code maxLocals ret, Jvm.Cond.code ({ cls := "com/example/tern/tern/store/HashIndexHashPinLaw", name := "text", desc := "(ICC)Ljava/lang/String;" } : Jvm.MethodName) method_5_code (3 : Nat) (Option.some (Jvm.ClassFile.FieldType.object "java/lang/String")), Jvm.Cond.code ({ cls := "java/lang/String", name := "<init>", desc := "([C)V" } : Jvm.MethodName) jdk_42_method_3_code (2 : Nat) (Option.none : Option Jvm.ClassFile.FieldType), Jvm.Cond.code ({ cls := "java/lang/String", name := "<init>", desc := "([CIILjava/lang/Void;)V" } : Jvm.MethodName) jdk_42_method_149_code (6 : Nat) (Option.none : Option Jvm.ClassFile.FieldType), Jvm.Cond.code ({ cls := "java/lang/Object", name := "<init>", desc := "()V" } : Jvm.MethodName) object_method_1_code (1 : Nat) (Option.none : Option Jvm.ClassFile.FieldType), Jvm.Cond.code ({ cls := "com/example/tern/tern/store/HashIndex", name := "hash", desc := "([Ljava/lang/String;)J" } : Jvm.MethodName) prog_23_method_2_code (4 : Nat) (Option.some Jvm.ClassFile.FieldType.long), Jvm.Cond.code ({ cls := "com/example/tern/tern/store/HashIndexHashPinLaw", name := "mix", desc := "(J)J" } : Jvm.MethodName) method_6_code (4 : Nat) (Option.some Jvm.ClassFile.FieldType.long), Jvm.Cond.code ({ cls := "java/lang/String", name := "valueOf", desc := "(C)Ljava/lang/String;" } : Jvm.MethodName) jdk_42_method_139_code (1 : Nat) (Option.some (Jvm.ClassFile.FieldType.object "java/lang/String")), Jvm.Cond.code ({ cls := "java/lang/StringLatin1", name := "canEncode", desc := "(C)Z" } : Jvm.MethodName) jdk_43_method_3_code (1 : Nat) (Option.some Jvm.ClassFile.FieldType.boolean), Jvm.Cond.code ({ cls := "java/lang/StringLatin1", name := "toBytes", desc := "(C)[B" } : Jvm.MethodName) jdk_43_method_46_code (1 : Nat) (Option.some (Jvm.ClassFile.FieldType.array Jvm.ClassFile.FieldType.byte)), Jvm.Cond.code ({ cls := "java/lang/String", name := "<init>", desc := "([BB)V" } : Jvm.MethodName) jdk_42_method_151_code (3 : Nat) (Option.none : Option Jvm.ClassFile.FieldType), Jvm.Cond.code ({ cls := "java/lang/StringUTF16", name := "compress", desc := "([CII)[B" } : Jvm.MethodName) jdk_52_method_16_code (6 : Nat) (Option.some (Jvm.ClassFile.FieldType.array Jvm.ClassFile.FieldType.byte)), Jvm.Cond.code ({ cls := "java/lang/StringUTF16", name := "compress", desc := "([CI[BII)I" } : Jvm.MethodName) jdk_52_method_21_code (7 : Nat) (Option.some Jvm.ClassFile.FieldType.int), Jvm.Cond.code ({ cls := "java/lang/StringUTF16", name := "coderFromArrayLen", desc := "([BI)B" } : Jvm.MethodName) jdk_52_method_15_code (2 : Nat) (Option.some Jvm.ClassFile.FieldType.byte), Jvm.Cond.code ({ cls := "com/example/tern/tern/store/HashIndexHashPinLaw", name := "feed", desc := "(JIII)J" } : Jvm.MethodName) method_4_code (7 : Nat) (Option.some Jvm.ClassFile.FieldType.long), Jvm.Cond.code ({ cls := "com/example/tern/tern/store/HashIndexHashPinLaw", name := "step", desc := "(JI)J" } : Jvm.MethodName) method_3_code (3 : Nat) (Option.some Jvm.ClassFile.FieldType.long), Jvm.Cond.code ({ cls := "com/example/tern/tern/store/HashIndex", name := "hash", desc := "(JLjava/lang/String;)J" } : Jvm.MethodName) prog_23_method_7_code (6 : Nat) (Option.some Jvm.ClassFile.FieldType.long), Jvm.Cond.code ({ cls := "java/lang/String", name := "length", desc := "()I" } : Jvm.MethodName) jdk_42_method_54_code (1 : Nat) (Option.some Jvm.ClassFile.FieldType.int), Jvm.Cond.code ({ cls := "java/lang/String", name := "coder", desc := "()B" } : Jvm.MethodName) jdk_42_method_152_code (1 : Nat) (Option.some Jvm.ClassFile.FieldType.byte), Jvm.Cond.code ({ cls := "java/lang/String", name := "charAt", desc := "(I)C" } : Jvm.MethodName) jdk_42_method_56_code (2 : Nat) (Option.some Jvm.ClassFile.FieldType.char), Jvm.Cond.code ({ cls := "java/lang/String", name := "isLatin1", desc := "()Z" } : Jvm.MethodName) jdk_42_method_154_code (1 : Nat) (Option.some Jvm.ClassFile.FieldType.boolean), Jvm.Cond.code ({ cls := "java/lang/StringLatin1", name := "charAt", desc := "([BI)C" } : Jvm.MethodName) jdk_43_method_2_code (2 : Nat) (Option.some Jvm.ClassFile.FieldType.char), Jvm.Cond.code ({ cls := "java/lang/String", name := "checkIndex", desc := "(II)V" } : Jvm.MethodName) jdk_42_method_155_code (2 : Nat) (Option.none : Option Jvm.ClassFile.FieldType), Jvm.Cond.code ({ cls := "jdk/internal/util/Preconditions", name := "checkIndex", desc := "(IILjava/util/function/BiFunction;)I" } : Jvm.MethodName) jdk_41_method_11_code (3 : Nat) (Option.some Jvm.ClassFile.FieldType.int), Jvm.Cond.code ({ cls := "java/lang/StringUTF16", name := "toBytes", desc := "([CII)[B" } : Jvm.MethodName) jdk_52_method_14_code (5 : Nat) (Option.some (Jvm.ClassFile.FieldType.array Jvm.ClassFile.FieldType.byte)), Jvm.Cond.code ({ cls := "java/lang/StringUTF16", name := "newBytesFor", desc := "(I)[B" } : Jvm.MethodName) jdk_52_method_2_code (1 : Nat) (Option.some (Jvm.ClassFile.FieldType.array Jvm.ClassFile.FieldType.byte)), Jvm.Cond.code ({ cls := "java/lang/StringUTF16", name := "newBytesLength", desc := "(I)I" } : Jvm.MethodName) jdk_52_method_3_code (1 : Nat) (Option.some Jvm.ClassFile.FieldType.int), Jvm.Cond.code ({ cls := "java/lang/StringUTF16", name := "putChar", desc := "([BII)V" } : Jvm.MethodName) jdk_52_method_4_code (3 : Nat) (Option.none : Option Jvm.ClassFile.FieldType), Jvm.Cond.code ({ cls := "java/lang/StringUTF16", name := "getChar", desc := "([BI)C" } : Jvm.MethodName) jdk_52_method_5_code (2 : Nat) (Option.some Jvm.ClassFile.FieldType.char), Jvm.Cond.code ({ cls := "java/lang/StringUTF16", name := "toBytes", desc := "(C)[B" } : Jvm.MethodName) jdk_52_method_24_code (2 : Nat) (Option.some (Jvm.ClassFile.FieldType.array Jvm.ClassFile.FieldType.byte)), Jvm.Cond.code ({ cls := "java/lang/StringUTF16", name := "charAt", desc := "([BI)C" } : Jvm.MethodName) jdk_52_method_83_code (2 : Nat) (Option.some Jvm.ClassFile.FieldType.char), Jvm.Cond.code ({ cls := "java/lang/StringUTF16", name := "checkIndex", desc := "(I[B)V" } : Jvm.MethodName) jdk_52_method_91_code (2 : Nat) (Option.none : Option Jvm.ClassFile.FieldType), Jvm.Cond.code ({ cls := "java/lang/StringUTF16", name := "length", desc := "([B)I" } : Jvm.MethodName) jdk_52_method_6_code (1 : Nat) (Option.some Jvm.ClassFile.FieldType.int)]
set_option maxRecDepth 65536 in
theorem codes_eq : words1.filter isCode = codes1 := rfl
theorem w_codes : ∀ c ∈ words1.filter isCode, c.before args0 about1 = true := by
  rw [codes_eq]
  intro c hc
  simp only [codes1, List.mem_cons, List.not_mem_nil, or_false] at hc
  rcases hc with rfl | rfl | rfl | rfl | rfl | rfl | rfl | rfl | rfl | rfl | rfl | rfl | rfl | rfl | rfl | rfl | rfl | rfl | rfl | rfl | rfl | rfl | rfl | rfl | rfl | rfl | rfl | rfl | rfl | rfl | rfl | rfl | rfl
  · exact w_c0
  · exact w_c1
  · exact w_c2
  · exact w_c3
  · exact w_c4
  · exact w_c5
  · exact w_c6
  · exact w_c7
  · exact w_c8
  · exact w_c9
  · exact w_c10
  · exact w_c11
  · exact w_c12
  · exact w_c13
  · exact w_c14
  · exact w_c15
  · exact w_c16
  · exact w_c17
  · exact w_c18
  · exact w_c19
  · exact w_c20
  · exact w_c21
  · exact w_c22
  · exact w_c23
  · exact w_c24
  · exact w_c25
  · exact w_c26
  · exact w_c27
  · exact w_c28
  · exact w_c29
  · exact w_c30
  · exact w_c31
  · exact w_c32
set_option maxRecDepth 65536 in
theorem w_t1 : (words1.take 24).all (fun c => isCode c || c.before args0 about1) = true := by decide +kernel
set_option maxRecDepth 65536 in
theorem w_t2 : ((words1.drop 24).take 24).all (fun c => isCode c || c.before args0 about1) = true := by decide +kernel
set_option maxRecDepth 65536 in
theorem w_t3 : (((words1.drop 24).drop 24).take 24).all (fun c => isCode c || c.before args0 about1) = true := by decide +kernel
set_option maxRecDepth 65536 in
theorem w_t4 : ((((words1.drop 24).drop 24).drop 24).take 24).all (fun c => isCode c || c.before args0 about1) = true := by decide +kernel
set_option maxRecDepth 65536 in
theorem w_t5 : (((((words1.drop 24).drop 24).drop 24).drop 24).take 24).all (fun c => isCode c || c.before args0 about1) = true := by decide +kernel
set_option maxRecDepth 65536 in
theorem w_t6 : (((((words1.drop 24).drop 24).drop 24).drop 24).drop 24).all (fun c => isCode c || c.before args0 about1) = true := by decide +kernel
theorem w_tables : (allAtoms (Jvm.Cond.code x code maxLocals ret :: tables_1)).before args0 about1 = true := by
  rw [allAtoms_all]
  show words1.all (fun c => c.before args0 about1) = true
  refine all_split ?_ w_codes
  rw [← List.take_append_drop 24 words1, List.all_append, w_t1, ← List.take_append_drop 24 (words1.drop 24), List.all_append, w_t2, ← List.take_append_drop 24 ((words1.drop 24).drop 24), List.all_append, w_t3, ← List.take_append_drop 24 (((words1.drop 24).drop 24).drop 24), List.all_append, w_t4, ← List.take_append_drop 24 ((((words1.drop 24).drop 24).drop 24).drop 24), List.all_append, w_t5, w_t6]
  rfl
set_option maxRecDepth 65536 in
theorem w_rest : rest_1_c.before args0 about1 = true := by decide +kernel
set_option maxRecDepth 65536 in
theorem w_case : (Jvm.Cond.and given_1 narrow_1).before args0 about1 = true := by decide +kernel
set_option maxRecDepth 65536 in
theorem w_consts : constsHeld consts_1 about1 := Jvm.Lit.constsHeldB_iff.mp (by decide +kernel)
theorem w_applies : (headSpec (Jvm.Cond.code x code maxLocals ret :: tables_1) room_1).applies x e0.platform about1 = true :=
  (Spec.applies_iff w_frames).mpr ⟨w_running, w_runnable, w_alone, w_named, w_hears, w_ripe, w_room, w_tables⟩
theorem atStart : AtStart classFile x code maxLocals ret World_1 tables_1 room_1 Calls_1 rest_1 Pre_1 launch0 p0 e0 about1 theMethod args0 below0 :=
  ⟨lists_1, trivial, launch0.admits_env _ _ _, launch0.least_env, fairChoices_fair.cas, fairChoices_fair.clock, w_frames, w_args, w_heap, w_applies, ⟨w_consts, trivial⟩, w_rest, w_case⟩
end start1
theorem witness_1 : WitnessClaimed_1 := ⟨start1.p0, start1.e0, start1.about1, start1.theMethod, start1.args0, start1.below0, start1.atStart⟩
end Jvm.Pilot.@@N@@
