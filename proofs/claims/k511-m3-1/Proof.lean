import JvmDerived
import JvmDerived.Pilot.@@N@@Statement
import JvmDerived.Pilot.@@N@@Code
set_option linter.unusedVariables false
set_option linter.unusedSimpArgs false
namespace Jvm.RoadKit
open Sem ClassFile Op Lib Jvm.Stand Jvm.Free Jvm.LawKit
section New
variable {p : Program} {l : Launch} {e : Env} {R : Room} {s : State} {m : MethodId} {args : Array Value} {below : List Frame} {meth : Method} {c : Code} {T : State} {locs : List Loc} {cells slots : Nat}
theorem retI (X : Stand p l e R s m args below meth c T locs cells slots) (hx : p.tables.exec = Jvm.exec) {pc : Nat} {Ls : Array Slot} {z : Int32} {rest : List Value} (hret : meth.sig.returnType = some .int) (hd : decode c.code pc = .ok (.ireturn, 1)) {fs : List Frame}
    (hl : ∀ (f : JFrame) (acts : List Action), f.method = m → f.locked = none → f.entered = [] → (doReturn e (T.setTop f) acts (some (.int z))).1 = T.setFrames fs) : Steps p.tables e below (T.setTop (mkF m pc Ls (.int z :: rest))) (T.setFrames fs) := by
  have hm' : T.vm.method? m = some meth := X.method'
  have hn : narrow .int (.int z) = .int z := rfl
  show Steps p.tables e below (T.setTop { method := m, pc := pc, locals := Ls, stack := _ :: rest, locked := none }) _
  jvm_step X.here [X.here.top, hx, hd, hm', hret, hn]
  first | (intro acts; rw [hl _ acts rfl rfl rfl]) | rw [hl _ _ rfl rfl rfl]
  exact Steps.refl _
/-- from here the walk comes to a good end -/
def Go (p : Program) (e : Env) (below : List Frame) (s : State) (Q : Option Value → Heap → List Loc → Prop) (C S : Nat) (T : State) (f : JFrame) : Prop :=
  ∃ s₂ o, Steps p.tables e below (T.setTop f) s₂ ∧ s₂.status = .running ∧ Ended s₂ below o ∧ ∃ v L, o = .returned v ∧ Q v s₂.heap L ∧ FrameEnd s o s₂ L C S
theorem Go.step {Q : Option Value → Heap → List Loc → Prop} {C S : Nat} {T' : State} {f f' : JFrame} (k : ∀ t, Steps p.tables e below (T'.setTop f') t → Steps p.tables e below (T.setTop f) t) (h : Go p e below s Q C S T' f') : Go p e below s Q C S T f := by
  obtain ⟨s₂, o, h1, h2⟩ := h
  exact ⟨s₂, o, k _ h1, h2⟩
theorem Go.cast {Q : Option Value → Heap → List Loc → Prop} {C S : Nat} {f f' : JFrame} (q : f = f') (h : Go p e below s Q C S T f') : Go p e below s Q C S T f := q ▸ h
theorem Go.fin (X : Stand p l e R s m args below meth c T locs cells slots) {Q : Option Value → Heap → List Loc → Prop} {C S : Nat} {f : JFrame} {v : Option Value} (hv : meth.sig.returnType = none → v = none) (hl : meth.locks = false) (hQ : Q v T.heap locs) (hc : cells ≤ C) (hs : slots ≤ S)
    (k : ∀ fs, (∀ (f : JFrame) (acts : List Action), f.method = m → f.locked = none → f.entered = [] → (doReturn e (T.setTop f) acts v).1 = T.setFrames fs) → Steps p.tables e below (T.setTop f) (T.setFrames fs)) : Go p e below s Q C S T f := by
  obtain ⟨fs, hr, hrun, hended, hW, hsame⟩ := X.leave (v := v) hv hl
  exact ⟨_, _, k fs hr, hrun, hended, v, locs, rfl, hQ, ⟨_, rfl⟩, hW, hsame.mono hc hs⟩
theorem own_lrem (x y : Int64) : x - (x / y) * y = x % y := lrem_mod x y
theorem own_irem (x y : Int32) : x - (x / y) * y = x % y := by
  apply Int32.toInt_inj.mp
  have h1 := Int32.le_toInt (x % y)
  have h2 := Int32.toInt_lt (x % y)
  rw [Int32.toInt_sub, Int32.toInt_mul, Int32.toInt_div, Int.bmod_mul_bmod, Int.sub_bmod_bmod, Int.mul_comm (x.toInt.tdiv y.toInt), ← Int.tmod_def, ← Int32.toInt_mod]
  exact Int.bmod_eq_of_le_mul_two (by omega) (by omega)
theorem own_fin {x : Int32} {n : Nat} (h0 : 0 ≤ x.toInt) (h1 : x.toInt < n) (h2 : n ≤ 2147483648) : ∃ k : Fin n, x = Int32.ofNat k.val := by
  refine ⟨⟨x.toInt.toNat, by omega⟩, Int32.toInt_inj.mp ?_⟩
  have q : (x.toInt.toNat).toInt32.toInt = x.toInt.toNat := len_toInt (by omega)
  show x.toInt = (x.toInt.toNat).toInt32.toInt
  rw [q]; omega
theorem own_i2c {x : Int32} (h0 : 0 ≤ x.toInt) (h1 : x.toInt < 65536) : x.toUInt32.toUInt16.toUInt32.toInt32 = x := Int32.toInt_inj.mp (by have := c_i2c x; omega)
theorem own_rem (x y : Int32) (h0 : 0 ≤ x.toInt) : (x % y).toInt = x.toInt % y.toInt := by rw [Int32.toInt_mod, (tr _ _).1 h0]
theorem own_remL (x y : Int64) (h0 : 0 ≤ x.toInt) : (x % y).toInt = x.toInt % y.toInt := by rw [Int64.toInt_mod, (tr _ _).1 h0]
theorem own_div (x y : Int32) (h0 : 0 ≤ x.toInt) (h1 : 0 < y.toInt) : (x / y).toInt = x.toInt / y.toInt := (c_idiv x y _ rfl (fun q => by rw [q] at h1; exact absurd h1 (by decide))).1 h0
theorem own_add {x y : Int32} (h0 : -2147483648 ≤ x.toInt + y.toInt) (h1 : x.toInt + y.toInt < 2147483648) : (x + y).toInt = x.toInt + y.toInt := by have := c_iadd x y; have := rng32 (x + y); omega
theorem own_sub {x y : Int32} (h0 : -2147483648 ≤ x.toInt - y.toInt) (h1 : x.toInt - y.toInt < 2147483648) : (x - y).toInt = x.toInt - y.toInt := by have := c_isub x y; have := rng32 (x - y); omega
theorem own_mul {x y : Int32} (h0 : -2147483648 ≤ x.toInt * y.toInt) (h1 : x.toInt * y.toInt < 2147483648) : (x * y).toInt = x.toInt * y.toInt := by have := c_imul x y; have := rng32 (x * y); omega
theorem own_nat {j : Int32} (h0 : 0 ≤ j.toInt) : (j.toNatClampNeg : Int) = j.toInt := by simp only [Int32.toNatClampNeg]; omega
section Heaps
variable {Z : State} {h h' : Heap} {a b : Addr} {ty : FieldType} {vs : List Value} {sl : Nat} {v : Value} {ws : List Addr}
/-- an array and all that lies in it -/
def VA (Z : State) (h : Heap) (a : Addr) (ty : FieldType) (vs : List Value) : Prop := ∃ c : Cell, Arr Z h a c ty ∧ c.slots.toList = vs ∧ vs.length < 2 ^ 31
theorem VA.lt (F : VA Z h a ty vs) : a < h.size := by obtain ⟨c, A, -⟩ := F; exact A.lt
theorem VA.len (F : VA Z h a ty vs) : vs.length < 2 ^ 31 := by obtain ⟨c, A, -, r⟩ := F; exact r
theorem VA.ext (F : VA Z h a ty vs) (E : Ext h h') : VA Z h' a ty vs := by obtain ⟨c, A, r⟩ := F; exact ⟨c, A.ext E, r⟩
theorem VA.other (F : VA Z h b ty vs) (W : Wr h h' a sl v) (q : b ≠ a) : VA Z h' b ty vs := by obtain ⟨c, A, r⟩ := F; exact ⟨c, A.other W q, r⟩
theorem VA.keep (F : VA Z h a ty vs) (K : Keep h h' ws) (q : a ∉ ws) : VA Z h' a ty vs := by obtain ⟨c, A, r⟩ := F; exact ⟨c, ⟨K.2.1 a c A.1 q, A.2⟩, r⟩
theorem VA.new {k : ClassId} {n : Int32} (A : Arr Z h a (newA k ty n) ty) (q : ¬ n < 0) : VA Z h a ty (List.replicate n.toNatClampNeg (defaultValue ty)) :=
  ⟨_, A, by simp [newA], by rw [List.length_replicate]; exact (back32 q).2⟩
theorem VA.inb (F : VA Z h a ty vs) {j : Int32} (h0 : 0 ≤ j.toInt) (h1 : j.toInt < vs.length) : ∃ c : Cell, Arr Z h a c ty ∧ ¬ (j < 0 ∨ c.slots.size ≤ j.toNatClampNeg) ∧ c.slots[j.toNatClampNeg]? = vs[j.toNatClampNeg]? ∧ ∀ h' v, Wr h h' a j.toNatClampNeg v → VA Z h' a ty (vs.set j.toNatClampNeg v) := by
  obtain ⟨c, A, rfl, r⟩ := F
  have hj := own_nat h0
  rw [Array.length_toList] at h1
  refine ⟨c, A, ?_, (Array.getElem?_toList ..).symm, fun h' v W => ⟨_, A.same W, ?_, ?_⟩⟩
  · rw [Int32.lt_iff_toInt_lt]
    have k0 : (0 : Int32).toInt = 0 := rfl
    omega
  · simp [Cell.setSlot]
  · rw [List.length_set]; exact r
theorem VA.ne_exa {C : String} {a0 : Array Value} {k : Nat} (F : VA Z h b ty vs) (G : Exa Z h a C) (wi : (Cond.instantiable C k).before a0 Z = true) : a ≠ b := by obtain ⟨c, A, -⟩ := F; exact ne_arr G wi A
end Heaps
theorem own_cat1 {v : Value} (h : v.isRef = true) : v.category = 1 := by cases v <;> simp_all [Value.isRef, Value.category]
theorem own_psel {y : MethodName} {n : Nat} (wi : (Cond.instantiable y.cls n).before args s = true) (hpriv : s.PrivateAt y) (hinst : (Cond.instanceMethod y).before args s = true) (hy : y.cls ≠ "java/lang/invoke/MethodHandle" ∧ y.cls ≠ "java/lang/invoke/VarHandle") : (Cond.selects y.cls y y).before args s = true := by
  obtain ⟨c, k, h1, h2, -, h4, -, -⟩ := Cond.instantiable_spec wi
  exact selects_self_of_private h1 h2 (by cases q : k.isInterface; rfl; rw [q] at h4; simp at h4) hpriv hinst hy
section Steps2
variable {Z : State} {h : Heap} {a : Addr} {a0 : Array Value}
theorem ldI (X : Stand p l e R s m args below meth c T locs cells slots) (hx : p.tables.exec = Jvm.exec) (hZ : Z.Warmed39 s.vm) (eT : T.heap = h) {vs : List Int32} (F : VA Z h a .int (vs.map Value.int)) {j : Int32} (h0 : 0 ≤ j.toInt) (h1 : j.toInt < vs.length)
    {g : JFrame} (hg : g.method = m) {rest : List Value} (hs : g.stack = .int j :: .ref a :: rest) (hd : decode c.code g.pc = .ok (.iaload, 1)) (target : State)
    (k : Steps p.tables e below (T.setTop { g with pc := g.pc + 1, stack := .int (vs.getD j.toNatClampNeg 0) :: rest }) target) : Steps p.tables e below (T.setTop g) target := by
  obtain ⟨cl, A, q1, q2, -⟩ := F.inb h0 (by rw [List.length_map]; exact h1)
  have hj := own_nat h0
  refine X.iaload hx (j := j) (v := .int (vs.getD j.toNatClampNeg 0)) (by rw [eT]; exact A.1) (State.isArrayOf_alike hZ.alike A.2.1) A.2.2 q1 ?_ hg hs hd target k
  rw [q2, List.getElem?_map, List.getD_eq_getElem?_getD, List.getElem?_eq_getElem (by omega)]; rfl
theorem ldJ (X : Stand p l e R s m args below meth c T locs cells slots) (hx : p.tables.exec = Jvm.exec) (hZ : Z.Warmed39 s.vm) (eT : T.heap = h) {vs : List Int64} (F : VA Z h a .long (vs.map Value.long)) {j : Int32} (h0 : 0 ≤ j.toInt) (h1 : j.toInt < vs.length)
    {g : JFrame} (hg : g.method = m) {rest : List Value} (hs : g.stack = .int j :: .ref a :: rest) (hd : decode c.code g.pc = .ok (.laload, 1)) (target : State)
    (k : Steps p.tables e below (T.setTop { g with pc := g.pc + 1, stack := .long (vs.getD j.toNatClampNeg 0) :: rest }) target) : Steps p.tables e below (T.setTop g) target := by
  obtain ⟨cl, A, q1, q2, -⟩ := F.inb h0 (by rw [List.length_map]; exact h1)
  have hj := own_nat h0
  refine X.laload hx (j := j) (v := .long (vs.getD j.toNatClampNeg 0)) (by rw [eT]; exact A.1) (State.isArrayOf_alike hZ.alike A.2.1) A.2.2 q1 ?_ hg hs hd target k
  rw [q2, List.getElem?_map, List.getD_eq_getElem?_getD, List.getElem?_eq_getElem (by omega)]; rfl
theorem ldB (X : Stand p l e R s m args below meth c T locs cells slots) (hx : p.tables.exec = Jvm.exec) (hZ : Z.Warmed39 s.vm) (eT : T.heap = h) {vs : List Int32} (F : VA Z h a .byte (vs.map Value.int)) {j : Int32} (h0 : 0 ≤ j.toInt) (h1 : j.toInt < vs.length)
    {g : JFrame} (hg : g.method = m) {rest : List Value} (hs : g.stack = .int j :: .ref a :: rest) (hd : decode c.code g.pc = .ok (.baload, 1)) (target : State)
    (k : Steps p.tables e below (T.setTop { g with pc := g.pc + 1, stack := .int (vs.getD j.toNatClampNeg 0) :: rest }) target) : Steps p.tables e below (T.setTop g) target := by
  obtain ⟨cl, A, q1, q2, -⟩ := F.inb h0 (by rw [List.length_map]; exact h1)
  have hj := own_nat h0
  refine X.baloadBytes hx (j := j) (v := .int (vs.getD j.toNatClampNeg 0)) (by rw [eT]; exact A.1) (State.isArrayOf_alike hZ.alike A.2.1) A.2.2 q1 ?_ hg hs hd target k
  rw [q2, List.getElem?_map, List.getD_eq_getElem?_getD, List.getElem?_eq_getElem (by omega)]; rfl
theorem ldR (X : Stand p l e R s m args below meth c T locs cells slots) (hx : p.tables.exec = Jvm.exec) (hZ : Z.Warmed39 s.vm) (eT : T.heap = h) {ty : FieldType} {vs : List Addr} (F : VA Z h a ty (vs.map Value.ref)) (hty : ty.isReference = true) {j : Int32} (h0 : 0 ≤ j.toInt) (h1 : j.toInt < vs.length)
    {g : JFrame} (hg : g.method = m) {rest : List Value} (hs : g.stack = .int j :: .ref a :: rest) (hd : decode c.code g.pc = .ok (.aaload, 1)) (target : State)
    (k : Steps p.tables e below (T.setTop { g with pc := g.pc + 1, stack := .ref (vs.getD j.toNatClampNeg 0) :: rest }) target) : Steps p.tables e below (T.setTop g) target := by
  obtain ⟨cl, A, q1, q2, -⟩ := F.inb h0 (by rw [List.length_map]; exact h1)
  have hj := own_nat h0
  refine X.aaload hx (j := j) (v := .ref (vs.getD j.toNatClampNeg 0)) (by rw [eT]; exact A.1) (State.isArrayOf_alike hZ.alike A.2.1) hty A.2.2 q1 ?_ hg hs hd target k
  rw [q2, List.getElem?_map, List.getD_eq_getElem?_getD, List.getElem?_eq_getElem (by omega)]; rfl
theorem lenA (X : Stand p l e R s m args below meth c T locs cells slots) (hx : p.tables.exec = Jvm.exec) (hZ : Z.Warmed39 s.vm) (eT : T.heap = h) {ty : FieldType} {vs : List Value} (F : VA Z h a ty vs) {n : Int32} (hn : (vs.length : Int) = n.toInt)
    {g : JFrame} (hg : g.method = m) {rest : List Value} (hs : g.stack = .ref a :: rest) (hd : decode c.code g.pc = .ok (.arraylength, 1)) (target : State)
    (k : Steps p.tables e below (T.setTop { g with pc := g.pc + 1, stack := .int n :: rest }) target) : Steps p.tables e below (T.setTop g) target := by
  obtain ⟨cl, A, rfl, r⟩ := F
  refine X.arraylength hx (by rw [eT]; exact A.1) (State.isArrayOf_alike hZ.alike A.2.1) hg hs hd target ?_
  have e : cl.slots.size.toInt32 = n := Int32.toInt_inj.mp (by rw [len_toInt (by rw [← Array.length_toList]; exact r), ← hn, Array.length_toList])
  rw [e]; exact k
theorem putI (X : Stand p l e R s m args below meth c T locs cells slots) (hx : p.tables.exec = Jvm.exec) (hZ : Z.Warmed39 s.vm) (eT : T.heap = h) {vs : List Int32} (F : VA Z h a .int (vs.map Value.int)) {j x : Int32} (h0 : 0 ≤ j.toInt) (h1 : j.toInt < vs.length)
    {g : JFrame} (hg : g.method = m) {rest : List Value} (hs : g.stack = .int x :: .int j :: .ref a :: rest) (hd : decode c.code g.pc = .ok (.iastore, 1)) :
    ∃ T' h', Stand p l e R s m args below meth c T' (locs ++ [⟨a, j.toNatClampNeg⟩]) cells slots ∧ T'.heap = h' ∧ Wr h h' a j.toNatClampNeg (.int x) ∧ VA Z h' a .int ((vs.set j.toNatClampNeg x).map Value.int) ∧ ∀ target, Steps p.tables e below (T'.setTop { g with pc := g.pc + 1, stack := rest }) target → Steps p.tables e below (T.setTop g) target := by
  obtain ⟨cl, A, q1, q2, q3⟩ := F.inb h0 (by rw [List.length_map]; exact h1)
  obtain ⟨T', h', X', e', W, st⟩ := stI X hx hZ eT A q1 hg hs hd
  exact ⟨T', h', X', e', W, by rw [List.map_set]; exact q3 _ _ W, st⟩
theorem putJ (X : Stand p l e R s m args below meth c T locs cells slots) (hx : p.tables.exec = Jvm.exec) (hZ : Z.Warmed39 s.vm) (eT : T.heap = h) {vs : List Int64} (F : VA Z h a .long (vs.map Value.long)) {j : Int32} {x : Int64} (h0 : 0 ≤ j.toInt) (h1 : j.toInt < vs.length)
    {g : JFrame} (hg : g.method = m) {rest : List Value} (hs : g.stack = .long x :: .int j :: .ref a :: rest) (hd : decode c.code g.pc = .ok (.lastore, 1)) :
    ∃ T' h', Stand p l e R s m args below meth c T' (locs ++ [⟨a, j.toNatClampNeg⟩]) cells slots ∧ T'.heap = h' ∧ Wr h h' a j.toNatClampNeg (.long x) ∧ VA Z h' a .long ((vs.set j.toNatClampNeg x).map Value.long) ∧ ∀ target, Steps p.tables e below (T'.setTop { g with pc := g.pc + 1, stack := rest }) target → Steps p.tables e below (T.setTop g) target := by
  obtain ⟨cl, A, q1, q2, q3⟩ := F.inb h0 (by rw [List.length_map]; exact h1)
  obtain ⟨T', h', X', e', W, st⟩ := stJ X hx hZ eT A q1 hg hs hd
  exact ⟨T', h', X', e', W, by rw [List.map_set]; exact q3 _ _ W, st⟩
theorem putB (X : Stand p l e R s m args below meth c T locs cells slots) (hx : p.tables.exec = Jvm.exec) (hZ : Z.Warmed39 s.vm) (eT : T.heap = h) {vs : List Int32} (F : VA Z h a .byte (vs.map Value.int)) {j x : Int32} (h0 : 0 ≤ j.toInt) (h1 : j.toInt < vs.length)
    {g : JFrame} (hg : g.method = m) {rest : List Value} (hs : g.stack = .int x :: .int j :: .ref a :: rest) (hd : decode c.code g.pc = .ok (.bastore, 1)) :
    ∃ T' h', Stand p l e R s m args below meth c T' (locs ++ [⟨a, j.toNatClampNeg⟩]) cells slots ∧ T'.heap = h' ∧ Wr h h' a j.toNatClampNeg (.int (nar .byte x)) ∧ VA Z h' a .byte ((vs.set j.toNatClampNeg (nar .byte x)).map Value.int) ∧ ∀ target, Steps p.tables e below (T'.setTop { g with pc := g.pc + 1, stack := rest }) target → Steps p.tables e below (T.setTop g) target := by
  obtain ⟨cl, A, q1, q2, q3⟩ := F.inb h0 (by rw [List.length_map]; exact h1)
  obtain ⟨T', h', X', e', W, st⟩ := stB X hx hZ eT A q1 hg hs hd
  exact ⟨T', h', X', e', W, by rw [List.map_set]; exact q3 _ _ W, st⟩
theorem newI (X : Stand p l e R s m args below meth c T locs cells slots) (hx : p.tables.exec = Jvm.exec) (hZ : Z.Warmed39 s.vm) (w : (Cond.arrayClass .int).before a0 Z = true) (eT : T.heap = h) {g : JFrame} (hg : g.method = m) (hd : decode c.code g.pc = .ok (.newarray .int, 2)) {n : Int32} {rest : List Value} (hs : g.stack = .int n :: rest)
    (hn : 0 ≤ n.toInt) {cap : Nat} (hcap : n.toInt ≤ cap) (hb : cap * 8 ≤ 536870912) (hc : cells + 1 ≤ R.cells) (hl : slots + cap ≤ R.slots) :
    ∃ T' h', Stand p l e R s m args below meth c T' locs (cells + 1) (slots + cap) ∧ T'.heap = h' ∧ Ext h h' ∧ VA Z h' h.size .int ((List.replicate n.toInt.toNat (0 : Int32)).map Value.int) ∧
      ∀ target, Steps p.tables e below (T'.setTop { g with pc := g.pc + 2, stack := .ref h.size :: rest }) target → Steps p.tables e below (T.setTop g) target := by
  have q : ¬ n < 0 := by rw [Int32.lt_iff_toInt_lt]; have k0 : (0 : Int32).toInt = 0 := rfl; omega
  have en : n.toNatClampNeg = n.toInt.toNat := rfl
  obtain ⟨T', h', cA, X', e', E, A, st⟩ := newP X hx hZ (aty := .int) w eT hg hd hs q (cap := cap) (by rw [en]; omega) hb hc hl
  have V1 : VA Z h' h.size .int (List.replicate n.toNatClampNeg (Value.int (0 : Int32))) := VA.new A q
  rw [en] at V1
  refine ⟨T', h', X', e', E, ?_, st⟩
  rw [List.map_replicate]
  exact V1
theorem newJ (X : Stand p l e R s m args below meth c T locs cells slots) (hx : p.tables.exec = Jvm.exec) (hZ : Z.Warmed39 s.vm) (w : (Cond.arrayClass .long).before a0 Z = true) (eT : T.heap = h) {g : JFrame} (hg : g.method = m) (hd : decode c.code g.pc = .ok (.newarray .long, 2)) {n : Int32} {rest : List Value} (hs : g.stack = .int n :: rest)
    (hn : 0 ≤ n.toInt) {cap : Nat} (hcap : n.toInt ≤ cap) (hb : cap * 8 ≤ 536870912) (hc : cells + 1 ≤ R.cells) (hl : slots + cap ≤ R.slots) :
    ∃ T' h', Stand p l e R s m args below meth c T' locs (cells + 1) (slots + cap) ∧ T'.heap = h' ∧ Ext h h' ∧ VA Z h' h.size .long ((List.replicate n.toInt.toNat (0 : Int64)).map Value.long) ∧
      ∀ target, Steps p.tables e below (T'.setTop { g with pc := g.pc + 2, stack := .ref h.size :: rest }) target → Steps p.tables e below (T.setTop g) target := by
  have q : ¬ n < 0 := by rw [Int32.lt_iff_toInt_lt]; have k0 : (0 : Int32).toInt = 0 := rfl; omega
  have en : n.toNatClampNeg = n.toInt.toNat := rfl
  obtain ⟨T', h', cA, X', e', E, A, st⟩ := newP X hx hZ (aty := .long) w eT hg hd hs q (cap := cap) (by rw [en]; omega) hb hc hl
  have V1 : VA Z h' h.size .long (List.replicate n.toNatClampNeg (Value.long (0 : Int64))) := VA.new A q
  rw [en] at V1
  refine ⟨T', h', X', e', E, ?_, st⟩
  rw [List.map_replicate]
  exact V1
theorem newB (X : Stand p l e R s m args below meth c T locs cells slots) (hx : p.tables.exec = Jvm.exec) (hZ : Z.Warmed39 s.vm) (w : (Cond.arrayClass .byte).before a0 Z = true) (eT : T.heap = h) {g : JFrame} (hg : g.method = m) (hd : decode c.code g.pc = .ok (.newarray .byte, 2)) {n : Int32} {rest : List Value} (hs : g.stack = .int n :: rest)
    (hn : 0 ≤ n.toInt) {cap : Nat} (hcap : n.toInt ≤ cap) (hb : cap * 8 ≤ 536870912) (hc : cells + 1 ≤ R.cells) (hl : slots + cap ≤ R.slots) :
    ∃ T' h', Stand p l e R s m args below meth c T' locs (cells + 1) (slots + cap) ∧ T'.heap = h' ∧ Ext h h' ∧ VA Z h' h.size .byte ((List.replicate n.toInt.toNat (0 : Int32)).map Value.int) ∧
      ∀ target, Steps p.tables e below (T'.setTop { g with pc := g.pc + 2, stack := .ref h.size :: rest }) target → Steps p.tables e below (T.setTop g) target := by
  have q : ¬ n < 0 := by rw [Int32.lt_iff_toInt_lt]; have k0 : (0 : Int32).toInt = 0 := rfl; omega
  have en : n.toNatClampNeg = n.toInt.toNat := rfl
  obtain ⟨T', h', cA, X', e', E, A, st⟩ := newP X hx hZ (aty := .byte) w eT hg hd hs q (cap := cap) (by rw [en]; omega) hb hc hl
  have V1 : VA Z h' h.size .byte (List.replicate n.toNatClampNeg (Value.int (0 : Int32))) := VA.new A q
  rw [en] at V1
  refine ⟨T', h', X', e', E, ?_, st⟩
  rw [List.map_replicate]
  exact V1
theorem ldZ (X : Stand p l e R s m args below meth c T locs cells slots) (hx : p.tables.exec = Jvm.exec) (hZ : Z.Warmed39 s.vm) (eT : T.heap = h) {vs : List Int32} (F : VA Z h a .boolean (vs.map Value.int)) {j : Int32} (h0 : 0 ≤ j.toInt) (h1 : j.toInt < vs.length)
    {g : JFrame} (hg : g.method = m) {rest : List Value} (hs : g.stack = .int j :: .ref a :: rest) (hd : decode c.code g.pc = .ok (.baload, 1)) (target : State)
    (k : Steps p.tables e below (T.setTop { g with pc := g.pc + 1, stack := .int (vs.getD j.toNatClampNeg 0) :: rest }) target) : Steps p.tables e below (T.setTop g) target := by
  obtain ⟨cl, A, q1, q2, -⟩ := F.inb h0 (by rw [List.length_map]; exact h1)
  have hj := own_nat h0
  refine X.baloadBooleans hx (j := j) (v := .int (vs.getD j.toNatClampNeg 0)) (by rw [eT]; exact A.1) (State.isArrayOf_alike hZ.alike A.2.1) A.2.2 q1 ?_ hg hs hd target k
  rw [q2, List.getElem?_map, List.getD_eq_getElem?_getD, List.getElem?_eq_getElem (by omega)]; rfl
theorem putZ (X : Stand p l e R s m args below meth c T locs cells slots) (hx : p.tables.exec = Jvm.exec) (hZ : Z.Warmed39 s.vm) (eT : T.heap = h) {vs : List Int32} (F : VA Z h a .boolean (vs.map Value.int)) {j x : Int32} (h0 : 0 ≤ j.toInt) (h1 : j.toInt < vs.length)
    {g : JFrame} (hg : g.method = m) {rest : List Value} (hs : g.stack = .int x :: .int j :: .ref a :: rest) (hd : decode c.code g.pc = .ok (.bastore, 1)) :
    ∃ T' h', Stand p l e R s m args below meth c T' (locs ++ [⟨a, j.toNatClampNeg⟩]) cells slots ∧ T'.heap = h' ∧ Wr h h' a j.toNatClampNeg (.int (nar .boolean x)) ∧ VA Z h' a .boolean ((vs.set j.toNatClampNeg (nar .boolean x)).map Value.int) ∧ ∀ target, Steps p.tables e below (T'.setTop { g with pc := g.pc + 1, stack := rest }) target → Steps p.tables e below (T.setTop g) target := by
  obtain ⟨cl, A, q1, q2, q3⟩ := F.inb h0 (by rw [List.length_map]; exact h1)
  obtain ⟨T', h', X', e', W, st⟩ := stZ X hx hZ eT A q1 hg hs hd
  exact ⟨T', h', X', e', W, by rw [List.map_set]; exact q3 _ _ W, st⟩
theorem newZ (X : Stand p l e R s m args below meth c T locs cells slots) (hx : p.tables.exec = Jvm.exec) (hZ : Z.Warmed39 s.vm) (w : (Cond.arrayClass .boolean).before a0 Z = true) (eT : T.heap = h) {g : JFrame} (hg : g.method = m) (hd : decode c.code g.pc = .ok (.newarray .boolean, 2)) {n : Int32} {rest : List Value} (hs : g.stack = .int n :: rest)
    (hn : 0 ≤ n.toInt) {cap : Nat} (hcap : n.toInt ≤ cap) (hb : cap * 8 ≤ 536870912) (hc : cells + 1 ≤ R.cells) (hl : slots + cap ≤ R.slots) :
    ∃ T' h', Stand p l e R s m args below meth c T' locs (cells + 1) (slots + cap) ∧ T'.heap = h' ∧ Ext h h' ∧ VA Z h' h.size .boolean ((List.replicate n.toInt.toNat (0 : Int32)).map Value.int) ∧
      ∀ target, Steps p.tables e below (T'.setTop { g with pc := g.pc + 2, stack := .ref h.size :: rest }) target → Steps p.tables e below (T.setTop g) target := by
  have q : ¬ n < 0 := by rw [Int32.lt_iff_toInt_lt]; have k0 : (0 : Int32).toInt = 0 := rfl; omega
  have en : n.toNatClampNeg = n.toInt.toNat := rfl
  obtain ⟨T', h', cA, X', e', E, A, st⟩ := newP X hx hZ (aty := .boolean) w eT hg hd hs q (cap := cap) (by rw [en]; omega) hb hc hl
  have V1 : VA Z h' h.size .boolean (List.replicate n.toNatClampNeg (Value.int (0 : Int32))) := VA.new A q
  rw [en] at V1
  refine ⟨T', h', X', e', E, ?_, st⟩
  rw [List.map_replicate]
  exact V1
end Steps2
def GoC (p : Program) (e : Env) (below : List Frame) (s : State) (Z : State) (EL : List (String × Nat)) (Q : Option Value → Heap → List Loc → Prop) (C S : Nat) (T : State) (f : JFrame) : Prop :=
  ∃ s₂ o, Steps p.tables e below (T.setTop f) s₂ ∧ s₂.status = .running ∧ Ended s₂ below o ∧ ∃ v L, o = .returned v ∧ Q v s₂.heap L ∧ CHr Z EL s.vm s.heap s₂.vm s₂.heap ∧ ReturnedEndW s o s₂ L C S
theorem GoC.step {Z : State} {EL : List (String × Nat)} {Q : Option Value → Heap → List Loc → Prop} {C S : Nat} {T' : State} {f f' : JFrame} (k : ∀ t, Steps p.tables e below (T'.setTop f') t → Steps p.tables e below (T.setTop f) t) (h : GoC p e below s Z EL Q C S T' f') : GoC p e below s Z EL Q C S T f := by
  obtain ⟨s₂, o, h1, h2⟩ := h
  exact ⟨s₂, o, k _ h1, h2⟩
theorem GoC.cast {Z : State} {EL : List (String × Nat)} {Q : Option Value → Heap → List Loc → Prop} {C S : Nat} {f f' : JFrame} (q : f = f') (h : GoC p e below s Z EL Q C S T f') : GoC p e below s Z EL Q C S T f := q ▸ h
theorem GoC.fin {vm₁ : Vm} (X : Stand p l e R (s.setVm vm₁) m args below meth c T locs cells slots) {Z : State} {a0 : Array Value} {EL : List (String × Nat)} (hZ : Z.Warmed39 vm₁) (hEL : EW Z a0 EL) {n : Nat} (hS : s.Since vm₁ n) {h : Heap} (eT : T.heap = h) (hk : n ≤ h.size) (HC : CHr Z EL s.vm s.heap vm₁ h) {Q : Option Value → Heap → List Loc → Prop} {C S : Nat} {f : JFrame} {v : Option Value} (hv : meth.sig.returnType = none → v = none) (hl : meth.locks = false) (hQ : Q v T.heap locs) (hc : cells ≤ C) (hs : slots ≤ S)
    (k : ∀ fs, (∀ (f : JFrame) (acts : List Action), f.method = m → f.locked = none → f.entered = [] → (doReturn e (T.setTop f) acts v).1 = T.setFrames fs) → Steps p.tables e below (T.setTop f) (T.setFrames fs)) : GoC p e below s Z EL Q C S T f := by
  obtain ⟨fs, hr, hrun, hended, r1, r2, r3, r4⟩ := X.leaveW hS (by rw [eT]; exact hk) (v := v) hv hl
  have A := HC.trans (CHv.at X hZ hEL HC.1)
  subst eT
  exact ⟨_, _, k fs hr, hrun, hended, v, locs, rfl, hQ, A, r1, r2, r3, r4.mono hc hs⟩
theorem own_since {s : State} {n : Nat} : s.Since s.vm n := ⟨State.Warmed39.refl s, fun j q hj hq => by rw [Array.getElem?_eq_none hj] at hq; cases hq⟩
theorem Sta.keep0 {Z : State} {h h' : Heap} {C n d : String} {w : Value} (F : Sta Z h C n d w) (K : Keep h h' []) : Sta Z h' C n d w := by
  obtain ⟨cf, i, k, f, st, cell, h1, h2, h3, h4, h5, r⟩ := F
  exact ⟨cf, i, k, f, st, cell, h1, h2, h3, h4, K.2.1 _ _ h5 (by simp), r⟩
theorem own_va {Z : State} {h : Heap} {b : Addr} {k : ClassId} {ty : FieldType} {z : Int32} {vs : List Value} {d : Value} (F : Arv Z h b k ty z vs d) (hl : vs.length = z.toNatClampNeg) : VA Z h b ty vs := by
  obtain ⟨c, A, -, S, q, H, -⟩ := F
  refine ⟨c, A, ?_, by rw [hl]; exact (back32 q).2⟩
  apply List.ext_getElem?
  intro i
  by_cases hi : i < c.slots.size
  · rw [Array.getElem?_toList, H i hi, List.getD_eq_getElem?_getD, List.getElem?_eq_getElem (by omega)]; rfl
  · rw [List.getElem?_eq_none (by rw [Array.length_toList]; omega), List.getElem?_eq_none (by omega)]
theorem Sta.keepE {Z : State} {h h' : Heap} {C n d D : String} {w : Value} {x : Addr} (F : Sta Z h C n d w) (K : Keep h h' [x]) (E : Exa Z h x D) : Sta Z h' C n d w := by
  obtain ⟨cf, i, k, f, st, cell, h1, h2, h3, h4, h5, h6, r⟩ := F
  refine ⟨cf, i, k, f, st, cell, h1, h2, h3, h4, K.2.1 _ _ h5 (fun hm => ?_), h6, r⟩
  obtain rfl : st = x := by simpa using hm
  obtain ⟨c2, q1, q2⟩ := E.cell
  rw [h5] at q1
  obtain rfl := Option.some.inj q1
  cases hv : cell.vm with
  | statics z => exact q2 _ hv
  | _ => rw [hv] at h6; cases h6
theorem ldC (X : Stand p l e R s m args below meth c T locs cells slots) (hx : p.tables.exec = Jvm.exec) (hZ : Z.Warmed39 s.vm) (eT : T.heap = h) {vs : List Int32} (F : VA Z h a .char (vs.map Value.int)) {j : Int32} (h0 : 0 ≤ j.toInt) (h1 : j.toInt < vs.length)
    {g : JFrame} (hg : g.method = m) {rest : List Value} (hs : g.stack = .int j :: .ref a :: rest) (hd : decode c.code g.pc = .ok (.caload, 1)) (target : State)
    (k : Steps p.tables e below (T.setTop { g with pc := g.pc + 1, stack := .int (vs.getD j.toNatClampNeg 0) :: rest }) target) : Steps p.tables e below (T.setTop g) target := by
  obtain ⟨cl, A, q1, q2, -⟩ := F.inb h0 (by rw [List.length_map]; exact h1)
  have hj := own_nat h0
  refine X.caload hx (j := j) (v := .int (vs.getD j.toNatClampNeg 0)) (by rw [eT]; exact A.1) (State.isArrayOf_alike hZ.alike A.2.1) A.2.2 q1 ?_ hg hs hd target k
  rw [q2, List.getElem?_map, List.getD_eq_getElem?_getD, List.getElem?_eq_getElem (by omega)]; rfl
theorem putC (X : Stand p l e R s m args below meth c T locs cells slots) (hx : p.tables.exec = Jvm.exec) (hZ : Z.Warmed39 s.vm) (eT : T.heap = h) {vs : List Int32} (F : VA Z h a .char (vs.map Value.int)) {j x : Int32} (h0 : 0 ≤ j.toInt) (h1 : j.toInt < vs.length)
    {g : JFrame} (hg : g.method = m) {rest : List Value} (hs : g.stack = .int x :: .int j :: .ref a :: rest) (hd : decode c.code g.pc = .ok (.castore, 1)) :
    ∃ T' h', Stand p l e R s m args below meth c T' (locs ++ [⟨a, j.toNatClampNeg⟩]) cells slots ∧ T'.heap = h' ∧ Wr h h' a j.toNatClampNeg (.int (nar .char x)) ∧ VA Z h' a .char ((vs.set j.toNatClampNeg (nar .char x)).map Value.int) ∧ ∀ target, Steps p.tables e below (T'.setTop { g with pc := g.pc + 1, stack := rest }) target → Steps p.tables e below (T.setTop g) target := by
  obtain ⟨cl, A, q1, q2, q3⟩ := F.inb h0 (by rw [List.length_map]; exact h1)
  obtain ⟨T', h', X', e', W, st⟩ := stC X hx hZ eT A q1 hg hs hd
  exact ⟨T', h', X', e', W, by rw [List.map_set]; exact q3 _ _ W, st⟩
theorem newC (X : Stand p l e R s m args below meth c T locs cells slots) (hx : p.tables.exec = Jvm.exec) (hZ : Z.Warmed39 s.vm) (w : (Cond.arrayClass .char).before a0 Z = true) (eT : T.heap = h) {g : JFrame} (hg : g.method = m) (hd : decode c.code g.pc = .ok (.newarray .char, 2)) {n : Int32} {rest : List Value} (hs : g.stack = .int n :: rest)
    (hn : 0 ≤ n.toInt) {cap : Nat} (hcap : n.toInt ≤ cap) (hb : cap * 8 ≤ 536870912) (hc : cells + 1 ≤ R.cells) (hl : slots + cap ≤ R.slots) :
    ∃ T' h', Stand p l e R s m args below meth c T' locs (cells + 1) (slots + cap) ∧ T'.heap = h' ∧ Ext h h' ∧ VA Z h' h.size .char ((List.replicate n.toInt.toNat (0 : Int32)).map Value.int) ∧
      ∀ target, Steps p.tables e below (T'.setTop { g with pc := g.pc + 2, stack := .ref h.size :: rest }) target → Steps p.tables e below (T.setTop g) target := by
  have q : ¬ n < 0 := by rw [Int32.lt_iff_toInt_lt]; have k0 : (0 : Int32).toInt = 0 := rfl; omega
  have en : n.toNatClampNeg = n.toInt.toNat := rfl
  obtain ⟨T', h', cA, X', e', E, A, st⟩ := newP X hx hZ (aty := .char) w eT hg hd hs q (cap := cap) (by rw [en]; omega) hb hc hl
  have V1 : VA Z h' h.size .char (List.replicate n.toNatClampNeg (Value.int (0 : Int32))) := VA.new A q
  rw [en] at V1
  refine ⟨T', h', X', e', E, ?_, st⟩
  rw [List.map_replicate]
  exact V1
theorem own_safeV {EL : List (String × Nat)} {vm : Vm} {Z : State} {h : Heap} {x : Addr} {ty : FieldType} {vs : List Value} (hal : Z.vm.Alike vm) (F : VA Z h x ty vs) (ht : ty ≠ .byte) : Safe Z EL vm h x := by
  obtain ⟨c, A, -⟩ := F
  exact Safe.arr hal A ht
end New
end Jvm.RoadKit
namespace Jvm.Pilot.@@N@@
open Jvm Jvm.ClassFile Sem Op Lib Jvm.Free Jvm.Stand Jvm.LawKit Jvm.RoadKit Bundle Jvm.Pilot.@@N@@.Jvm.D
theorem own_wS : ∀ d ∈ Bundle.stringAtoms, d ∈ tables_1 := by decide +kernel
theorem own_EL {a0 : Array Value} {Z : State} (hw : ∀ d ∈ tables_1, d.before a0 Z = true) : EW Z a0 consts_1 := EW.cons (hw _ (List.mem_of_getElem? (i := 57) rfl)) (by decide) (EW.cons (hw _ (List.mem_of_getElem? (i := 123) rfl)) (by decide) EW.nil)
def LST : List Int32 := [(48 : Int32), (49 : Int32), (50 : Int32), (51 : Int32), (52 : Int32), (53 : Int32), (54 : Int32), (55 : Int32), (56 : Int32), (57 : Int32), (65 : Int32), (66 : Int32), (67 : Int32), (68 : Int32), (69 : Int32), (70 : Int32), (71 : Int32), (72 : Int32), (74 : Int32), (75 : Int32), (77 : Int32), (78 : Int32), (80 : Int32), (81 : Int32), (82 : Int32), (83 : Int32), (84 : Int32), (86 : Int32), (87 : Int32), (88 : Int32), (89 : Int32), (90 : Int32)]
theorem d23_0 : decode jdk_42_method_152_code 0 = .ok (.getstatic 38, 3) := by decide +kernel
theorem d23_3 : decode jdk_42_method_152_code 3 = .ok (.ifCond .eq 10, 3) := by decide +kernel
theorem d23_6 : decode jdk_42_method_152_code 6 = .ok (.aload_n 0, 1) := by decide +kernel
theorem d23_7 : decode jdk_42_method_152_code 7 = .ok (.getfield 15, 3) := by decide +kernel
theorem d23_10 : decode jdk_42_method_152_code 10 = .ok (.goto 4, 3) := by decide +kernel
theorem d23_14 : decode jdk_42_method_152_code 14 = .ok (.ireturn, 1) := by decide +kernel
theorem pn_0 : plainName "java/lang/String" = true := by first | (simp [plainName, overriddenIn]; done) | decide +kernel
theorem ef_codF (m : MethodId) (x0 : Addr) : entryFrame m #[(.ref x0)] 1 = mkF m 0 #[.val (.ref x0)] [] := by first | (simp [entryFrame, mkF, argsToLocals, Value.category]; done) | rfl
def codF (cs : Int32) : Int32 := (0 : Int32)
def QcodF (Z : State) (a : Addr) (cs : Int32) (RES : Int32) (h0 : Heap) (n0 : Nat) (v : Option Value) (h : Heap) (L : List Loc) : Prop := v = some (.int RES) ∧ Fr n0 L ∧ h = h0
set_option maxRecDepth 65536 in
set_option maxHeartbeats 40000000 in
theorem rm_codF (l : Launch) (Z : State) (a0 : Array Value) (hw : ∀ d ∈ tables_1, d.before a0 Z = true) (ws : List Jvm.Cond) (a : Addr) (cs : Int32) (h0 : Heap) (n0 : Nat) (Z0 : n0 ≤ h0.size) (F0 : Fld Z h0 a "java/lang/String" "coder" "B" (.int (0 : Int32))) (F1 : Sta Z h0 "java/lang/String" "COMPACT_STRINGS" "Z" (.int cs)) (hcs : ¬ cs = (0 : Int32)) :
    MetFree l (⟨"java/lang/String", "coder", "()B"⟩ : MethodName) (head1 (Jvm.Cond.code (⟨"java/lang/String", "coder", "()B"⟩ : MethodName) jdk_42_method_152_code 1 (some .byte) :: ws) ({ frames := 0, cells := 0, slots := 0, locals := 0 } : Room)) (fun A_ U => A_ = #[(.ref a)] ∧ Z.Warmed39 U.vm ∧ U.heap = h0) (fun _ _ _ _ _ => True) (fun _ U o U' => ∃ v L, o = .returned v ∧ QcodF Z a cs (codF cs) h0 n0 v U'.heap L ∧ FrameEnd U o U' L ({ frames := 0, cells := 0, slots := 0, locals := 0 } : Room).cells ({ frames := 0, cells := 0, slots := 0, locals := 0 } : Room).slots) := by
  refine MetFree.of_bodySF (plainFor_of_name pn_0) hisR ?_
  intro p e s m args below meth c s₁ Bd hml0 hP hK
  obtain ⟨rfl, hZ, hh⟩ := hP
  have hx := Bd.exec
  have hby := Bd.bytes
  have hml : c.maxLocals = 1 := hml0
  have hown : s.vm.findClass "java/lang/String" = some m.cls := findClass_of_methodNamed Bd.named
  have hnm := (name_of_methodNamed Bd.named Bd.method).1
  have X0 : Stand p l e ({ frames := 0, cells := 0, slots := 0, locals := 0 } : Room) s m #[(.ref a)] below meth c s₁ [] 0 0 := Stand.of_body Bd
  have e0 : s₁.heap = h0 := by rw [← hh, Bd.state]; rfl
  have N0 := Fr.nil n0
  obtain ⟨RES, hf⟩ : ∃ z, z = codF cs := ⟨_, rfl⟩
  rw [← hf]
  rw [codF] at hf
  suffices HGO : Go p e below s (QcodF Z a cs RES h0 n0) ({ frames := 0, cells := 0, slots := 0, locals := 0 } : Room).cells ({ frames := 0, cells := 0, slots := 0, locals := 0 } : Room).slots s₁ (mkF m 0 #[.val (.ref a)] []) from Go.cast (ef_codF m a) HGO
  obtain ⟨T1, X1, e1, st1⟩ := getS2 X0 hx hZ hown (host := "") (Or.inl (hw _ (List.mem_of_getElem? (i := 75) rfl))) Via.refl e0 F1 (g := (mkF m 0 #[.val (.ref a)] [])) rfl (hb hby d23_0)
  refine Go.step (T' := T1) (f' := (mkF m 3 #[.val (.ref a)] [(.int cs)])) (fun t kt => ?_) ?_
  · show Steps p.tables e below (s₁.setTop (mkF m 0 #[.val (.ref a)] [])) _
    refine st1 _ ?_
    exact kt
  have hd2 : ¬ (cs = (0 : Int32)) := hcs
  obtain ⟨T3, X3, e3, st3⟩ := getF X1 hx hZ hown (host := "") (Or.inl (hw _ (List.mem_of_getElem? (i := 76) rfl))) Via.refl e1 F0 (g := (mkF m 7 #[.val (.ref a)] [(.ref a)])) rfl rfl (hb hby d23_7)
  refine Go.step (T' := T3) (f' := (mkF m 14 #[.val (.ref a)] [(.int (0 : Int32))])) (fun t kt => ?_) ?_
  · show Steps p.tables e below (T1.setTop (mkF m 3 #[.val (.ref a)] [(.int cs)])) _
    refine XS.ifNo X1.here hx rfl (hb hby d23_3) rfl ((if0 _ _).trans (feq hd2).1) ?_
    show Steps p.tables e below (T1.setTop (mkF m 6 #[.val (.ref a)] [])) _
    refine XS.aloadN X1.here hx rfl (hb hby d23_6) rfl rfl ?_
    show Steps p.tables e below (T1.setTop (mkF m 7 #[.val (.ref a)] [(.ref a)])) _
    refine st3 _ ?_
    show Steps p.tables e below (T3.setTop (mkF m 10 #[.val (.ref a)] [(.int (0 : Int32))])) _
    refine XS.goto X3.here hx rfl (pc0 := 10) (pc' := 14) rfl (hb hby d23_10) (by decide) (by decide) ?_
    exact kt
  refine Go.fin X3 (v := some (.int (0 : Int32))) (fun h => by rw [Bd.returns] at h; cases h) Bd.notSynchronized ?_ (Nat.le_trans (Nat.le_refl 0) (by decide)) (Nat.le_trans (Nat.le_refl 0) (by decide)) (fun fs hr => retN X3 hx (t := .byte) Bd.returns (by simp) (hb hby d23_14) hr)
  · exact ⟨by rw [hf], N0, e3⟩
theorem pd_0 : parseMethodDescriptor "()B" = some ⟨[], some .byte⟩ := by decide +kernel
theorem d22_0 : decode jdk_42_method_54_code 0 = .ok (.aload_n 0, 1) := by decide +kernel
theorem d22_1 : decode jdk_42_method_54_code 1 = .ok (.getfield 9, 3) := by decide +kernel
theorem d22_4 : decode jdk_42_method_54_code 4 = .ok (.arraylength, 1) := by decide +kernel
theorem d22_5 : decode jdk_42_method_54_code 5 = .ok (.aload_n 0, 1) := by decide +kernel
theorem d22_6 : decode jdk_42_method_54_code 6 = .ok (.invokevirtual 335, 3) := by decide +kernel
theorem d22_9 : decode jdk_42_method_54_code 9 = .ok (.ishr, 1) := by decide +kernel
theorem d22_10 : decode jdk_42_method_54_code 10 = .ok (.ireturn, 1) := by decide +kernel
theorem ef_lenF (m : MethodId) (x0 : Addr) : entryFrame m #[(.ref x0)] 1 = mkF m 0 #[.val (.ref x0)] [] := by first | (simp [entryFrame, mkF, argsToLocals, Value.category]; done) | rfl
def lenF (vs : List Int32) (cs : Int32) : Int32 := ((vs.length.toInt32) >>> ((0 : Int32) &&& 31))
def QlenF (Z : State) (a : Addr) (bv : Addr) (vs : List Int32) (cs : Int32) (RES : Int32) (h0 : Heap) (n0 : Nat) (v : Option Value) (h : Heap) (L : List Loc) : Prop := v = some (.int RES) ∧ Fr n0 L ∧ h = h0
set_option maxRecDepth 65536 in
set_option maxHeartbeats 40000000 in
theorem rm_lenF (l : Launch) (Z : State) (a0 : Array Value) (hw : ∀ d ∈ tables_1, d.before a0 Z = true) (ws : List Jvm.Cond) (a : Addr) (bv : Addr) (vs : List Int32) (cs : Int32) (h0 : Heap) (n0 : Nat) (Z0 : n0 ≤ h0.size) (F0 : Exa Z h0 a "java/lang/String") (F1 : Fld Z h0 a "java/lang/String" "value" "[B" (.ref bv)) (F2 : Fld Z h0 a "java/lang/String" "coder" "B" (.int (0 : Int32))) (F3 : VA Z h0 bv .byte (vs.map Value.int)) (F4 : Sta Z h0 "java/lang/String" "COMPACT_STRINGS" "Z" (.int cs)) (hcs : ¬ cs = (0 : Int32)) :
    MetFree l (⟨"java/lang/String", "length", "()I"⟩ : MethodName) (head1 (Jvm.Cond.code (⟨"java/lang/String", "length", "()I"⟩ : MethodName) jdk_42_method_54_code 1 (some .int) :: ws) ({ frames := 1, cells := 0, slots := 0, locals := 13 } : Room)) (fun A_ U => A_ = #[(.ref a)] ∧ Z.Warmed39 U.vm ∧ U.heap = h0) (fun _ _ _ _ _ => True) (fun _ U o U' => ∃ v L, o = .returned v ∧ QlenF Z a bv vs cs (lenF vs cs) h0 n0 v U'.heap L ∧ FrameEnd U o U' L ({ frames := 1, cells := 0, slots := 0, locals := 13 } : Room).cells ({ frames := 1, cells := 0, slots := 0, locals := 13 } : Room).slots) := by
  refine MetFree.of_bodySF (plainFor_of_name pn_0) hisR ?_
  intro p e s m args below meth c s₁ Bd hml0 hP hK
  obtain ⟨rfl, hZ, hh⟩ := hP
  have hx := Bd.exec
  have hby := Bd.bytes
  have hml : c.maxLocals = 1 := hml0
  have hown : s.vm.findClass "java/lang/String" = some m.cls := findClass_of_methodNamed Bd.named
  have hnm := (name_of_methodNamed Bd.named Bd.method).1
  have X0 : Stand p l e ({ frames := 1, cells := 0, slots := 0, locals := 13 } : Room) s m #[(.ref a)] below meth c s₁ [] 0 0 := Stand.of_body Bd
  have e0 : s₁.heap = h0 := by rw [← hh, Bd.state]; rfl
  have N0 := Fr.nil n0
  obtain ⟨RES, hf⟩ : ∃ z, z = lenF vs cs := ⟨_, rfl⟩
  rw [← hf]
  rw [lenF] at hf
  suffices HGO : Go p e below s (QlenF Z a bv vs cs RES h0 n0) ({ frames := 1, cells := 0, slots := 0, locals := 13 } : Room).cells ({ frames := 1, cells := 0, slots := 0, locals := 13 } : Room).slots s₁ (mkF m 0 #[.val (.ref a)] []) from Go.cast (ef_lenF m a) HGO
  obtain ⟨T1, X1, e1, st1⟩ := getF X0 hx hZ hown (host := "") (Or.inl (hw _ (List.mem_of_getElem? (i := 77) rfl))) Via.refl e0 F1 (g := (mkF m 1 #[.val (.ref a)] [(.ref a)])) rfl rfl (hb hby d22_1)
  have ln2 : ((vs.map Value.int).length : Int) = ((vs.length.toInt32)).toInt := (by have q := F3.len; rw [List.length_map] at q; rw [len_toInt q, List.length_map])
  obtain ⟨cq3, kq3, q3a, q3b, q3c⟩ := isOf hZ e1 (F0 : Exa Z h0 a "java/lang/String")
  obtain ⟨_, _, ⟨T3, L3, k3, n3⟩, -, X3, ⟨Lc3, hQ3, l3, y3, z3⟩, st3⟩ := X1.virtualBack hx (y := (⟨"java/lang/String", "coder", "()B"⟩ : MethodName)) (z := (⟨"java/lang/String", "coder", "()B"⟩ : MethodName)) hown (mvT hZ (hw _ (List.mem_of_getElem? (i := 114) rfl))) (mvT hZ (hw _ (List.mem_of_getElem? (i := 115) rfl))) (notFace_of_selects (args := #[]) (mvT hZ (hw _ (List.mem_of_getElem? (i := 117) rfl)))) (mvT hZ (hw _ (List.mem_of_getElem? (i := 117) rfl))) (mvT hZ (hw _ (List.mem_of_getElem? (i := 116) rfl))) (by decide) (backOf (W := 1) (rm_codF l Z a0 hw [] a cs h0 n0 Z0 F2 F4 hcs) hZ (hw _ (List.mem_of_getElem? (i := 118) rfl)) (hw _ (List.mem_of_getElem? (i := 58) rfl)) (by decide) (by decide)) q3a q3c (g := (mkF m 6 #[.val (.ref a)] [(.ref a), (.int (vs.length.toInt32))])) rfl (by rw [hml]; rfl) (Steps.refl _) (argsL := []) (rest := [(.int (vs.length.toInt32))]) (lenOf pd_0 rfl) rfl (by show 2 * 0 + _ ≤ _; exact Nat.le_of_eq rfl) (hb hby d22_6) (fun _ _ => ⟨rfl, e1, (Nat.le_trans (Nat.add_le_add_right (Nat.le_refl 0) 0) (by decide)), (Nat.le_trans (Nat.add_le_add_right (Nat.le_refl 0) 0) (by decide))⟩)
  dsimp only [Pt.U, Pt.locs, Pt.cells, Pt.slots] at X3 l3 y3 z3 st3 hQ3
  subst l3 y3 z3
  obtain ⟨rfl, N3q, e3⟩ := hQ3
  have N3 := Fr.app N0 N3q
  refine Go.step (T' := T3) (f' := (mkF m 10 #[.val (.ref a)] [(.int ((vs.length.toInt32) >>> ((0 : Int32) &&& 31)))])) (fun t kt => ?_) ?_
  · show Steps p.tables e below (s₁.setTop (mkF m 0 #[.val (.ref a)] [])) _
    refine XS.aloadN X0.here hx rfl (hb hby d22_0) rfl rfl ?_
    show Steps p.tables e below (s₁.setTop (mkF m 1 #[.val (.ref a)] [(.ref a)])) _
    refine st1 _ ?_
    show Steps p.tables e below (T1.setTop (mkF m 4 #[.val (.ref a)] [(.ref bv)])) _
    refine lenA X1 hx hZ e1 F3 (n := (vs.length.toInt32)) ln2 (g := (mkF m 4 #[.val (.ref a)] [(.ref bv)])) rfl rfl (hb hby d22_4) _ ?_
    show Steps p.tables e below (T1.setTop (mkF m 5 #[.val (.ref a)] [(.int (vs.length.toInt32))])) _
    refine XS.aloadN X1.here hx rfl (hb hby d22_5) rfl rfl ?_
    show Steps p.tables e below (T1.setTop (mkF m 6 #[.val (.ref a)] [(.ref a), (.int (vs.length.toInt32))])) _
    refine st3.trans ?_
    show Steps p.tables e below (T3.setTop (mkF m 9 #[.val (.ref a)] [(.int (0 : Int32)), (.int (vs.length.toInt32))])) _
    refine XS.ishr X3.here hx rfl (hb hby d22_9) rfl ?_
    exact kt
  refine Go.fin X3 (v := some (.int ((vs.length.toInt32) >>> ((0 : Int32) &&& 31)))) (fun h => by rw [Bd.returns] at h; cases h) Bd.notSynchronized ?_ (Nat.le_trans (Nat.add_le_add_right (Nat.le_refl 0) 0) (by decide)) (Nat.le_trans (Nat.add_le_add_right (Nat.le_refl 0) 0) (by decide)) (fun fs hr => retI X3 hx Bd.returns (hb hby d22_10) hr)
  · exact ⟨by rw [hf], N3, e3⟩
theorem d13_0 : decode jdk_42_method_154_code 0 = .ok (.getstatic 38, 3) := by decide +kernel
theorem d13_3 : decode jdk_42_method_154_code 3 = .ok (.ifCond .eq 14, 3) := by decide +kernel
theorem d13_6 : decode jdk_42_method_154_code 6 = .ok (.aload_n 0, 1) := by decide +kernel
theorem d13_7 : decode jdk_42_method_154_code 7 = .ok (.getfield 15, 3) := by decide +kernel
theorem d13_10 : decode jdk_42_method_154_code 10 = .ok (.ifCond .ne 7, 3) := by decide +kernel
theorem d13_13 : decode jdk_42_method_154_code 13 = .ok (.iconst 1, 1) := by decide +kernel
theorem d13_14 : decode jdk_42_method_154_code 14 = .ok (.goto 4, 3) := by decide +kernel
theorem d13_18 : decode jdk_42_method_154_code 18 = .ok (.ireturn, 1) := by decide +kernel
theorem ef_latF (m : MethodId) (x0 : Addr) : entryFrame m #[(.ref x0)] 1 = mkF m 0 #[.val (.ref x0)] [] := by first | (simp [entryFrame, mkF, argsToLocals, Value.category]; done) | rfl
def latF (cs : Int32) : Int32 := (1 : Int32)
def QlatF (Z : State) (a : Addr) (cs : Int32) (RES : Int32) (h0 : Heap) (n0 : Nat) (v : Option Value) (h : Heap) (L : List Loc) : Prop := v = some (.int RES) ∧ Fr n0 L ∧ h = h0
set_option maxRecDepth 65536 in
set_option maxHeartbeats 40000000 in
theorem rm_latF (l : Launch) (Z : State) (a0 : Array Value) (hw : ∀ d ∈ tables_1, d.before a0 Z = true) (ws : List Jvm.Cond) (a : Addr) (cs : Int32) (h0 : Heap) (n0 : Nat) (Z0 : n0 ≤ h0.size) (F0 : Fld Z h0 a "java/lang/String" "coder" "B" (.int (0 : Int32))) (F1 : Sta Z h0 "java/lang/String" "COMPACT_STRINGS" "Z" (.int cs)) (hcs : ¬ cs = (0 : Int32)) :
    MetFree l (⟨"java/lang/String", "isLatin1", "()Z"⟩ : MethodName) (head1 (Jvm.Cond.code (⟨"java/lang/String", "isLatin1", "()Z"⟩ : MethodName) jdk_42_method_154_code 1 (some .boolean) :: ws) ({ frames := 0, cells := 0, slots := 0, locals := 0 } : Room)) (fun A_ U => A_ = #[(.ref a)] ∧ Z.Warmed39 U.vm ∧ U.heap = h0) (fun _ _ _ _ _ => True) (fun _ U o U' => ∃ v L, o = .returned v ∧ QlatF Z a cs (latF cs) h0 n0 v U'.heap L ∧ FrameEnd U o U' L ({ frames := 0, cells := 0, slots := 0, locals := 0 } : Room).cells ({ frames := 0, cells := 0, slots := 0, locals := 0 } : Room).slots) := by
  refine MetFree.of_bodySF (plainFor_of_name pn_0) hisR ?_
  intro p e s m args below meth c s₁ Bd hml0 hP hK
  obtain ⟨rfl, hZ, hh⟩ := hP
  have hx := Bd.exec
  have hby := Bd.bytes
  have hml : c.maxLocals = 1 := hml0
  have hown : s.vm.findClass "java/lang/String" = some m.cls := findClass_of_methodNamed Bd.named
  have hnm := (name_of_methodNamed Bd.named Bd.method).1
  have X0 : Stand p l e ({ frames := 0, cells := 0, slots := 0, locals := 0 } : Room) s m #[(.ref a)] below meth c s₁ [] 0 0 := Stand.of_body Bd
  have e0 : s₁.heap = h0 := by rw [← hh, Bd.state]; rfl
  have N0 := Fr.nil n0
  obtain ⟨RES, hf⟩ : ∃ z, z = latF cs := ⟨_, rfl⟩
  rw [← hf]
  rw [latF] at hf
  suffices HGO : Go p e below s (QlatF Z a cs RES h0 n0) ({ frames := 0, cells := 0, slots := 0, locals := 0 } : Room).cells ({ frames := 0, cells := 0, slots := 0, locals := 0 } : Room).slots s₁ (mkF m 0 #[.val (.ref a)] []) from Go.cast (ef_latF m a) HGO
  obtain ⟨T1, X1, e1, st1⟩ := getS2 X0 hx hZ hown (host := "") (Or.inl (hw _ (List.mem_of_getElem? (i := 75) rfl))) Via.refl e0 F1 (g := (mkF m 0 #[.val (.ref a)] [])) rfl (hb hby d13_0)
  refine Go.step (T' := T1) (f' := (mkF m 3 #[.val (.ref a)] [(.int cs)])) (fun t kt => ?_) ?_
  · show Steps p.tables e below (s₁.setTop (mkF m 0 #[.val (.ref a)] [])) _
    refine st1 _ ?_
    exact kt
  have hd2 : ¬ (cs = (0 : Int32)) := hcs
  obtain ⟨T3, X3, e3, st3⟩ := getF X1 hx hZ hown (host := "") (Or.inl (hw _ (List.mem_of_getElem? (i := 76) rfl))) Via.refl e1 F0 (g := (mkF m 7 #[.val (.ref a)] [(.ref a)])) rfl rfl (hb hby d13_7)
  refine Go.step (T' := T3) (f' := (mkF m 18 #[.val (.ref a)] [(.int (1 : Int32))])) (fun t kt => ?_) ?_
  · show Steps p.tables e below (T1.setTop (mkF m 3 #[.val (.ref a)] [(.int cs)])) _
    refine XS.ifNo X1.here hx rfl (hb hby d13_3) rfl ((if0 _ _).trans (feq hd2).1) ?_
    show Steps p.tables e below (T1.setTop (mkF m 6 #[.val (.ref a)] [])) _
    refine XS.aloadN X1.here hx rfl (hb hby d13_6) rfl rfl ?_
    show Steps p.tables e below (T1.setTop (mkF m 7 #[.val (.ref a)] [(.ref a)])) _
    refine st3 _ ?_
    show Steps p.tables e below (T3.setTop (mkF m 10 #[.val (.ref a)] [(.int (0 : Int32))])) _
    refine XS.ifNo X3.here hx rfl (hb hby d13_10) rfl ((if0 _ _).trans (teq (by decide : ((0 : Int32) = (0 : Int32)))).2) ?_
    show Steps p.tables e below (T3.setTop (mkF m 13 #[.val (.ref a)] [])) _
    refine XS.iconst X3.here hx rfl (hb hby d13_13) ?_
    show Steps p.tables e below (T3.setTop (mkF m 14 #[.val (.ref a)] [(.int (1 : Int32))])) _
    refine XS.goto X3.here hx rfl (pc0 := 14) (pc' := 18) rfl (hb hby d13_14) (by decide) (by decide) ?_
    exact kt
  refine Go.fin X3 (v := some (.int (1 : Int32))) (fun h => by rw [Bd.returns] at h; cases h) Bd.notSynchronized ?_ (Nat.le_trans (Nat.le_refl 0) (by decide)) (Nat.le_trans (Nat.le_refl 0) (by decide)) (fun fs hr => retN X3 hx (t := .boolean) Bd.returns (by simp) (hb hby d13_18) hr)
  · exact ⟨by rw [hf], N0, e3⟩
theorem d16_0 : decode jdk_41_method_11_code 0 = .ok (.iload_n 0, 1) := by decide +kernel
theorem d16_1 : decode jdk_41_method_11_code 1 = .ok (.ifCond .lt 8, 3) := by decide +kernel
theorem d16_4 : decode jdk_41_method_11_code 4 = .ok (.iload_n 0, 1) := by decide +kernel
theorem d16_5 : decode jdk_41_method_11_code 5 = .ok (.iload_n 1, 1) := by decide +kernel
theorem d16_6 : decode jdk_41_method_11_code 6 = .ok (.if_icmp .lt 10, 3) := by decide +kernel
theorem d16_16 : decode jdk_41_method_11_code 16 = .ok (.iload_n 0, 1) := by decide +kernel
theorem d16_17 : decode jdk_41_method_11_code 17 = .ok (.ireturn, 1) := by decide +kernel
theorem pn_1 : plainName "jdk/internal/util/Preconditions" = true := by first | (simp [plainName, overriddenIn]; done) | decide +kernel
theorem ef_ckPN (m : MethodId) (x0 : Int32) (x1 : Int32) : entryFrame m #[(.int x0), (.int x1), .null] 3 = mkF m 0 #[.val (.int x0), .val (.int x1), .val .null] [] := by first | (simp [entryFrame, mkF, argsToLocals, Value.category]; done) | rfl
def ckPN (i : Int32) (k : Int32) : Int32 := i
def QckPN (RES : Int32) (h0 : Heap) (n0 : Nat) (v : Option Value) (h : Heap) (L : List Loc) : Prop := v = some (.int RES) ∧ Fr n0 L ∧ h = h0
set_option maxRecDepth 65536 in
set_option maxHeartbeats 40000000 in
theorem rm_ckPN (l : Launch) (Z : State) (a0 : Array Value) (hw : ∀ d ∈ tables_1, d.before a0 Z = true) (ws : List Jvm.Cond) (i : Int32) (k : Int32)  (h0 : Heap) (n0 : Nat) (Z0 : n0 ≤ h0.size) (hi0 : ¬ i < (0 : Int32)) (hi1 : i < k) :
    MetFree l (⟨"jdk/internal/util/Preconditions", "checkIndex", "(IILjava/util/function/BiFunction;)I"⟩ : MethodName) (head1 (Jvm.Cond.code (⟨"jdk/internal/util/Preconditions", "checkIndex", "(IILjava/util/function/BiFunction;)I"⟩ : MethodName) jdk_41_method_11_code 3 (some .int) :: ws) ({ frames := 0, cells := 0, slots := 0, locals := 0 } : Room)) (fun A_ U => A_ = #[(.int i), (.int k), .null] ∧ Z.Warmed39 U.vm ∧ U.heap = h0) (fun _ _ _ _ _ => True) (fun _ U o U' => ∃ v L, o = .returned v ∧ QckPN (ckPN i k) h0 n0 v U'.heap L ∧ FrameEnd U o U' L ({ frames := 0, cells := 0, slots := 0, locals := 0 } : Room).cells ({ frames := 0, cells := 0, slots := 0, locals := 0 } : Room).slots) := by
  refine MetFree.of_bodySF (plainFor_of_name pn_1) hisR ?_
  intro p e s m args below meth c s₁ Bd hml0 hP hK
  obtain ⟨rfl, hZ, hh⟩ := hP
  have hx := Bd.exec
  have hby := Bd.bytes
  have hml : c.maxLocals = 3 := hml0
  have hown : s.vm.findClass "jdk/internal/util/Preconditions" = some m.cls := findClass_of_methodNamed Bd.named
  have hnm := (name_of_methodNamed Bd.named Bd.method).1
  have X0 : Stand p l e ({ frames := 0, cells := 0, slots := 0, locals := 0 } : Room) s m #[(.int i), (.int k), .null] below meth c s₁ [] 0 0 := Stand.of_body Bd
  have e0 : s₁.heap = h0 := by rw [← hh, Bd.state]; rfl
  have N0 := Fr.nil n0
  obtain ⟨RES, hf⟩ : ∃ z, z = ckPN i k := ⟨_, rfl⟩
  rw [← hf]
  rw [ckPN] at hf
  suffices HGO : Go p e below s (QckPN RES h0 n0) ({ frames := 0, cells := 0, slots := 0, locals := 0 } : Room).cells ({ frames := 0, cells := 0, slots := 0, locals := 0 } : Room).slots s₁ (mkF m 0 #[.val (.int i), .val (.int k), .val .null] []) from Go.cast (ef_ckPN m i k) HGO
  refine Go.step (T' := s₁) (f' := (mkF m 1 #[.val (.int i), .val (.int k), .val .null] [(.int i)])) (fun t kt => ?_) ?_
  · show Steps p.tables e below (s₁.setTop (mkF m 0 #[.val (.int i), .val (.int k), .val .null] [])) _
    refine XS.iloadN X0.here hx rfl (hb hby d16_0) rfl ?_
    exact kt
  have hd1 : ¬ (i < (0 : Int32)) := hi0
  refine Go.step (T' := s₁) (f' := (mkF m 6 #[.val (.int i), .val (.int k), .val .null] [(.int k), (.int i)])) (fun t kt => ?_) ?_
  · show Steps p.tables e below (s₁.setTop (mkF m 1 #[.val (.int i), .val (.int k), .val .null] [(.int i)])) _
    refine XS.ifNo X0.here hx rfl (hb hby d16_1) rfl ((if0 _ _).trans (flt hd1).1) ?_
    show Steps p.tables e below (s₁.setTop (mkF m 4 #[.val (.int i), .val (.int k), .val .null] [])) _
    refine XS.iloadN X0.here hx rfl (hb hby d16_4) rfl ?_
    show Steps p.tables e below (s₁.setTop (mkF m 5 #[.val (.int i), .val (.int k), .val .null] [(.int i)])) _
    refine XS.iloadN X0.here hx rfl (hb hby d16_5) rfl ?_
    exact kt
  have hd2 : i < k := hi1
  refine Go.step (T' := s₁) (f' := (mkF m 17 #[.val (.int i), .val (.int k), .val .null] [(.int i)])) (fun t kt => ?_) ?_
  · show Steps p.tables e below (s₁.setTop (mkF m 6 #[.val (.int i), .val (.int k), .val .null] [(.int k), (.int i)])) _
    refine XS.icmpYes X0.here hx rfl (pc0 := 6) (pc' := 16) rfl (hb hby d16_6) rfl (tlt hd2).1 (by decide) (by decide) ?_
    show Steps p.tables e below (s₁.setTop (mkF m 16 #[.val (.int i), .val (.int k), .val .null] [])) _
    refine XS.iloadN X0.here hx rfl (hb hby d16_16) rfl ?_
    exact kt
  refine Go.fin X0 (v := some (.int i)) (fun h => by rw [Bd.returns] at h; cases h) Bd.notSynchronized ?_ (Nat.le_trans (Nat.le_refl 0) (by decide)) (Nat.le_trans (Nat.le_refl 0) (by decide)) (fun fs hr => retI X0 hx Bd.returns (hb hby d16_17) hr)
  · exact ⟨by rw [hf], N0, e0⟩
theorem pd_1 : parseMethodDescriptor "(IILjava/util/function/BiFunction;)I" = some ⟨[.int, .int, (.object "java/util/function/BiFunction")], some .int⟩ := by decide +kernel
theorem d15_0 : decode jdk_42_method_155_code 0 = .ok (.iload_n 0, 1) := by decide +kernel
theorem d15_1 : decode jdk_42_method_155_code 1 = .ok (.iload_n 1, 1) := by decide +kernel
theorem d15_2 : decode jdk_42_method_155_code 2 = .ok (.getstatic 1053, 3) := by decide +kernel
theorem d15_5 : decode jdk_42_method_155_code 5 = .ok (.invokestatic 1059, 3) := by decide +kernel
theorem d15_8 : decode jdk_42_method_155_code 8 = .ok (.pop, 1) := by decide +kernel
theorem d15_9 : decode jdk_42_method_155_code 9 = .ok (.return_, 1) := by decide +kernel
theorem ef_ck8N (m : MethodId) (x0 : Int32) (x1 : Int32) : entryFrame m #[(.int x0), (.int x1)] 2 = mkF m 0 #[.val (.int x0), .val (.int x1)] [] := by first | (simp [entryFrame, mkF, argsToLocals, Value.category]; done) | rfl
def Qck8N (Z : State) (i : Int32) (k : Int32)  (h0 : Heap) (n0 : Nat) (v : Option Value) (h : Heap) (L : List Loc) : Prop := v = none ∧ Fr n0 L ∧ h = h0
set_option maxRecDepth 65536 in
set_option maxHeartbeats 40000000 in
theorem rm_ck8N (l : Launch) (Z : State) (a0 : Array Value) (hw : ∀ d ∈ tables_1, d.before a0 Z = true) (ws : List Jvm.Cond) (i : Int32) (k : Int32)  (h0 : Heap) (n0 : Nat) (Z0 : n0 ≤ h0.size) (F0 : Sta Z h0 "jdk/internal/util/Preconditions" "SIOOBE_FORMATTER" "Ljava/util/function/BiFunction;" .null) (hi0 : ¬ i < (0 : Int32)) (hi1 : i < k) :
    MetFree l (⟨"java/lang/String", "checkIndex", "(II)V"⟩ : MethodName) (head1 (Jvm.Cond.code (⟨"java/lang/String", "checkIndex", "(II)V"⟩ : MethodName) jdk_42_method_155_code 2 none :: ws) ({ frames := 1, cells := 0, slots := 0, locals := 14 } : Room)) (fun A_ U => A_ = #[(.int i), (.int k)] ∧ Z.Warmed39 U.vm ∧ U.heap = h0) (fun _ _ _ _ _ => True) (fun _ U o U' => ∃ v L, o = .returned v ∧ Qck8N Z i k h0 n0 v U'.heap L ∧ FrameEnd U o U' L ({ frames := 1, cells := 0, slots := 0, locals := 14 } : Room).cells ({ frames := 1, cells := 0, slots := 0, locals := 14 } : Room).slots) := by
  refine MetFree.of_bodySF (plainFor_of_name pn_0) hisR ?_
  intro p e s m args below meth c s₁ Bd hml0 hP hK
  obtain ⟨rfl, hZ, hh⟩ := hP
  have hx := Bd.exec
  have hby := Bd.bytes
  have hml : c.maxLocals = 2 := hml0
  have hown : s.vm.findClass "java/lang/String" = some m.cls := findClass_of_methodNamed Bd.named
  have hnm := (name_of_methodNamed Bd.named Bd.method).1
  have X0 : Stand p l e ({ frames := 1, cells := 0, slots := 0, locals := 14 } : Room) s m #[(.int i), (.int k)] below meth c s₁ [] 0 0 := Stand.of_body Bd
  have e0 : s₁.heap = h0 := by rw [← hh, Bd.state]; rfl
  have N0 := Fr.nil n0
  suffices HGO : Go p e below s (Qck8N Z i k h0 n0) ({ frames := 1, cells := 0, slots := 0, locals := 14 } : Room).cells ({ frames := 1, cells := 0, slots := 0, locals := 14 } : Room).slots s₁ (mkF m 0 #[.val (.int i), .val (.int k)] []) from Go.cast (ef_ck8N m i k) HGO
  obtain ⟨T1, X1, e1, st1⟩ := getS2 X0 hx hZ hown (host := "") (Or.inl (hw _ (List.mem_of_getElem? (i := 85) rfl))) Via.refl e0 F0 (g := (mkF m 2 #[.val (.int i), .val (.int k)] [(.int k), (.int i)])) rfl (hb hby d15_2)
  obtain ⟨_, _, ⟨T2, L2, k2, n2⟩, -, X2, ⟨Lc2, hQ2, l2, y2, z2⟩, st2⟩ := Jvm.LawKit.callS X1 hx (y := (⟨"jdk/internal/util/Preconditions", "checkIndex", "(IILjava/util/function/BiFunction;)I"⟩ : MethodName)) hown (mvT hZ (hw _ (List.mem_of_getElem? (i := 87) rfl))) (mvT hZ (hw _ (List.mem_of_getElem? (i := 88) rfl))) (mvT hZ (hw _ (List.mem_of_getElem? (i := 86) rfl))) (mvT hZ (hw _ (List.mem_of_getElem? (i := 89) rfl))) (by decide) (backOf (W := 0) (rm_ckPN l Z a0 hw [] i k  h0 n0 Z0 hi0 hi1) hZ (hw _ (List.mem_of_getElem? (i := 89) rfl)) (hw _ (List.mem_of_getElem? (i := 86) rfl)) (by decide) (by decide)) (g := (mkF m 5 #[.val (.int i), .val (.int k)] [.null, (.int k), (.int i)])) rfl (by rw [hml]; rfl) (argsL := [(.int i), (.int k), .null]) (rest := []) (lenOf pd_1 rfl) rfl (by show 2 * 0 + _ ≤ _; exact Nat.le_of_eq rfl) (hb hby d15_5) (fun _ _ => ⟨rfl, e1, (Nat.le_trans (Nat.add_le_add_right (Nat.le_refl 0) 0) (by decide)), (Nat.le_trans (Nat.add_le_add_right (Nat.le_refl 0) 0) (by decide))⟩)
  dsimp only [Pt.U, Pt.locs, Pt.cells, Pt.slots] at X2 l2 y2 z2 st2 hQ2
  subst l2 y2 z2
  obtain ⟨rfl, N2q, e2⟩ := hQ2
  have N2 := Fr.app N0 N2q
  refine Go.step (T' := T2) (f' := (mkF m 9 #[.val (.int i), .val (.int k)] [])) (fun t kt => ?_) ?_
  · show Steps p.tables e below (s₁.setTop (mkF m 0 #[.val (.int i), .val (.int k)] [])) _
    refine XS.iloadN X0.here hx rfl (hb hby d15_0) rfl ?_
    show Steps p.tables e below (s₁.setTop (mkF m 1 #[.val (.int i), .val (.int k)] [(.int i)])) _
    refine XS.iloadN X0.here hx rfl (hb hby d15_1) rfl ?_
    show Steps p.tables e below (s₁.setTop (mkF m 2 #[.val (.int i), .val (.int k)] [(.int k), (.int i)])) _
    refine st1 _ ?_
    show Steps p.tables e below (T1.setTop (mkF m 5 #[.val (.int i), .val (.int k)] [.null, (.int k), (.int i)])) _
    refine st2 _ ?_
    show Steps p.tables e below (T2.setTop (mkF m 8 #[.val (.int i), .val (.int k)] [(.int (ckPN i k))])) _
    refine XS.pop X2.here hx rfl (hb hby d15_8) rfl rfl ?_
    exact kt
  refine Go.fin X2 (v := none) (fun _ => rfl) Bd.notSynchronized ?_ (Nat.le_trans (Nat.add_le_add_right (Nat.le_refl 0) 0) (by decide)) (Nat.le_trans (Nat.add_le_add_right (Nat.le_refl 0) 0) (by decide)) (fun fs hr => X2.returnOut hx Bd.returns (hb hby d15_9) hr)
  · show Qck8N Z i k h0 n0 _ T2.heap _
    exact ⟨rfl, N2, e2⟩
theorem ef_ckPR (m : MethodId) (x0 : Int32) (x1 : Int32) (x2 : Addr) : entryFrame m #[(.int x0), (.int x1), (.ref x2)] 3 = mkF m 0 #[.val (.int x0), .val (.int x1), .val (.ref x2)] [] := by first | (simp [entryFrame, mkF, argsToLocals, Value.category]; done) | rfl
def ckPR (i : Int32) (k : Int32) : Int32 := i
def QckPR (RES : Int32) (h0 : Heap) (n0 : Nat) (v : Option Value) (h : Heap) (L : List Loc) : Prop := v = some (.int RES) ∧ Fr n0 L ∧ h = h0
set_option maxRecDepth 65536 in
set_option maxHeartbeats 40000000 in
theorem rm_ckPR (l : Launch) (Z : State) (a0 : Array Value) (hw : ∀ d ∈ tables_1, d.before a0 Z = true) (ws : List Jvm.Cond) (i : Int32) (k : Int32) (fo : Addr)  (h0 : Heap) (n0 : Nat) (Z0 : n0 ≤ h0.size) (hi0 : ¬ i < (0 : Int32)) (hi1 : i < k) :
    MetFree l (⟨"jdk/internal/util/Preconditions", "checkIndex", "(IILjava/util/function/BiFunction;)I"⟩ : MethodName) (head1 (Jvm.Cond.code (⟨"jdk/internal/util/Preconditions", "checkIndex", "(IILjava/util/function/BiFunction;)I"⟩ : MethodName) jdk_41_method_11_code 3 (some .int) :: ws) ({ frames := 0, cells := 0, slots := 0, locals := 0 } : Room)) (fun A_ U => A_ = #[(.int i), (.int k), (.ref fo)] ∧ Z.Warmed39 U.vm ∧ U.heap = h0) (fun _ _ _ _ _ => True) (fun _ U o U' => ∃ v L, o = .returned v ∧ QckPR (ckPR i k) h0 n0 v U'.heap L ∧ FrameEnd U o U' L ({ frames := 0, cells := 0, slots := 0, locals := 0 } : Room).cells ({ frames := 0, cells := 0, slots := 0, locals := 0 } : Room).slots) := by
  refine MetFree.of_bodySF (plainFor_of_name pn_1) hisR ?_
  intro p e s m args below meth c s₁ Bd hml0 hP hK
  obtain ⟨rfl, hZ, hh⟩ := hP
  have hx := Bd.exec
  have hby := Bd.bytes
  have hml : c.maxLocals = 3 := hml0
  have hown : s.vm.findClass "jdk/internal/util/Preconditions" = some m.cls := findClass_of_methodNamed Bd.named
  have hnm := (name_of_methodNamed Bd.named Bd.method).1
  have X0 : Stand p l e ({ frames := 0, cells := 0, slots := 0, locals := 0 } : Room) s m #[(.int i), (.int k), (.ref fo)] below meth c s₁ [] 0 0 := Stand.of_body Bd
  have e0 : s₁.heap = h0 := by rw [← hh, Bd.state]; rfl
  have N0 := Fr.nil n0
  obtain ⟨RES, hf⟩ : ∃ z, z = ckPR i k := ⟨_, rfl⟩
  rw [← hf]
  rw [ckPR] at hf
  suffices HGO : Go p e below s (QckPR RES h0 n0) ({ frames := 0, cells := 0, slots := 0, locals := 0 } : Room).cells ({ frames := 0, cells := 0, slots := 0, locals := 0 } : Room).slots s₁ (mkF m 0 #[.val (.int i), .val (.int k), .val (.ref fo)] []) from Go.cast (ef_ckPR m i k fo) HGO
  refine Go.step (T' := s₁) (f' := (mkF m 1 #[.val (.int i), .val (.int k), .val (.ref fo)] [(.int i)])) (fun t kt => ?_) ?_
  · show Steps p.tables e below (s₁.setTop (mkF m 0 #[.val (.int i), .val (.int k), .val (.ref fo)] [])) _
    refine XS.iloadN X0.here hx rfl (hb hby d16_0) rfl ?_
    exact kt
  have hd1 : ¬ (i < (0 : Int32)) := hi0
  refine Go.step (T' := s₁) (f' := (mkF m 6 #[.val (.int i), .val (.int k), .val (.ref fo)] [(.int k), (.int i)])) (fun t kt => ?_) ?_
  · show Steps p.tables e below (s₁.setTop (mkF m 1 #[.val (.int i), .val (.int k), .val (.ref fo)] [(.int i)])) _
    refine XS.ifNo X0.here hx rfl (hb hby d16_1) rfl ((if0 _ _).trans (flt hd1).1) ?_
    show Steps p.tables e below (s₁.setTop (mkF m 4 #[.val (.int i), .val (.int k), .val (.ref fo)] [])) _
    refine XS.iloadN X0.here hx rfl (hb hby d16_4) rfl ?_
    show Steps p.tables e below (s₁.setTop (mkF m 5 #[.val (.int i), .val (.int k), .val (.ref fo)] [(.int i)])) _
    refine XS.iloadN X0.here hx rfl (hb hby d16_5) rfl ?_
    exact kt
  have hd2 : i < k := hi1
  refine Go.step (T' := s₁) (f' := (mkF m 17 #[.val (.int i), .val (.int k), .val (.ref fo)] [(.int i)])) (fun t kt => ?_) ?_
  · show Steps p.tables e below (s₁.setTop (mkF m 6 #[.val (.int i), .val (.int k), .val (.ref fo)] [(.int k), (.int i)])) _
    refine XS.icmpYes X0.here hx rfl (pc0 := 6) (pc' := 16) rfl (hb hby d16_6) rfl (tlt hd2).1 (by decide) (by decide) ?_
    show Steps p.tables e below (s₁.setTop (mkF m 16 #[.val (.int i), .val (.int k), .val (.ref fo)] [])) _
    refine XS.iloadN X0.here hx rfl (hb hby d16_16) rfl ?_
    exact kt
  refine Go.fin X0 (v := some (.int i)) (fun h => by rw [Bd.returns] at h; cases h) Bd.notSynchronized ?_ (Nat.le_trans (Nat.le_refl 0) (by decide)) (Nat.le_trans (Nat.le_refl 0) (by decide)) (fun fs hr => retI X0 hx Bd.returns (hb hby d16_17) hr)
  · exact ⟨by rw [hf], N0, e0⟩
theorem ef_ck8R (m : MethodId) (x0 : Int32) (x1 : Int32) : entryFrame m #[(.int x0), (.int x1)] 2 = mkF m 0 #[.val (.int x0), .val (.int x1)] [] := by first | (simp [entryFrame, mkF, argsToLocals, Value.category]; done) | rfl
def Qck8R (Z : State) (i : Int32) (k : Int32) (fo : Addr) (h0 : Heap) (n0 : Nat) (v : Option Value) (h : Heap) (L : List Loc) : Prop := v = none ∧ Fr n0 L ∧ h = h0
set_option maxRecDepth 65536 in
set_option maxHeartbeats 40000000 in
theorem rm_ck8R (l : Launch) (Z : State) (a0 : Array Value) (hw : ∀ d ∈ tables_1, d.before a0 Z = true) (ws : List Jvm.Cond) (i : Int32) (k : Int32) (fo : Addr) (h0 : Heap) (n0 : Nat) (Z0 : n0 ≤ h0.size) (F0 : Sta Z h0 "jdk/internal/util/Preconditions" "SIOOBE_FORMATTER" "Ljava/util/function/BiFunction;" (.ref fo)) (hi0 : ¬ i < (0 : Int32)) (hi1 : i < k) :
    MetFree l (⟨"java/lang/String", "checkIndex", "(II)V"⟩ : MethodName) (head1 (Jvm.Cond.code (⟨"java/lang/String", "checkIndex", "(II)V"⟩ : MethodName) jdk_42_method_155_code 2 none :: ws) ({ frames := 1, cells := 0, slots := 0, locals := 14 } : Room)) (fun A_ U => A_ = #[(.int i), (.int k)] ∧ Z.Warmed39 U.vm ∧ U.heap = h0) (fun _ _ _ _ _ => True) (fun _ U o U' => ∃ v L, o = .returned v ∧ Qck8R Z i k fo h0 n0 v U'.heap L ∧ FrameEnd U o U' L ({ frames := 1, cells := 0, slots := 0, locals := 14 } : Room).cells ({ frames := 1, cells := 0, slots := 0, locals := 14 } : Room).slots) := by
  refine MetFree.of_bodySF (plainFor_of_name pn_0) hisR ?_
  intro p e s m args below meth c s₁ Bd hml0 hP hK
  obtain ⟨rfl, hZ, hh⟩ := hP
  have hx := Bd.exec
  have hby := Bd.bytes
  have hml : c.maxLocals = 2 := hml0
  have hown : s.vm.findClass "java/lang/String" = some m.cls := findClass_of_methodNamed Bd.named
  have hnm := (name_of_methodNamed Bd.named Bd.method).1
  have X0 : Stand p l e ({ frames := 1, cells := 0, slots := 0, locals := 14 } : Room) s m #[(.int i), (.int k)] below meth c s₁ [] 0 0 := Stand.of_body Bd
  have e0 : s₁.heap = h0 := by rw [← hh, Bd.state]; rfl
  have N0 := Fr.nil n0
  suffices HGO : Go p e below s (Qck8R Z i k fo h0 n0) ({ frames := 1, cells := 0, slots := 0, locals := 14 } : Room).cells ({ frames := 1, cells := 0, slots := 0, locals := 14 } : Room).slots s₁ (mkF m 0 #[.val (.int i), .val (.int k)] []) from Go.cast (ef_ck8R m i k) HGO
  obtain ⟨T1, X1, e1, st1⟩ := getS2 X0 hx hZ hown (host := "") (Or.inl (hw _ (List.mem_of_getElem? (i := 85) rfl))) Via.refl e0 F0 (g := (mkF m 2 #[.val (.int i), .val (.int k)] [(.int k), (.int i)])) rfl (hb hby d15_2)
  obtain ⟨_, _, ⟨T2, L2, k2, n2⟩, -, X2, ⟨Lc2, hQ2, l2, y2, z2⟩, st2⟩ := Jvm.LawKit.callS X1 hx (y := (⟨"jdk/internal/util/Preconditions", "checkIndex", "(IILjava/util/function/BiFunction;)I"⟩ : MethodName)) hown (mvT hZ (hw _ (List.mem_of_getElem? (i := 87) rfl))) (mvT hZ (hw _ (List.mem_of_getElem? (i := 88) rfl))) (mvT hZ (hw _ (List.mem_of_getElem? (i := 86) rfl))) (mvT hZ (hw _ (List.mem_of_getElem? (i := 89) rfl))) (by decide) (backOf (W := 0) (rm_ckPR l Z a0 hw [] i k fo  h0 n0 Z0 hi0 hi1) hZ (hw _ (List.mem_of_getElem? (i := 89) rfl)) (hw _ (List.mem_of_getElem? (i := 86) rfl)) (by decide) (by decide)) (g := (mkF m 5 #[.val (.int i), .val (.int k)] [(.ref fo), (.int k), (.int i)])) rfl (by rw [hml]; rfl) (argsL := [(.int i), (.int k), (.ref fo)]) (rest := []) (lenOf pd_1 rfl) rfl (by show 2 * 0 + _ ≤ _; exact Nat.le_of_eq rfl) (hb hby d15_5) (fun _ _ => ⟨rfl, e1, (Nat.le_trans (Nat.add_le_add_right (Nat.le_refl 0) 0) (by decide)), (Nat.le_trans (Nat.add_le_add_right (Nat.le_refl 0) 0) (by decide))⟩)
  dsimp only [Pt.U, Pt.locs, Pt.cells, Pt.slots] at X2 l2 y2 z2 st2 hQ2
  subst l2 y2 z2
  obtain ⟨rfl, N2q, e2⟩ := hQ2
  have N2 := Fr.app N0 N2q
  refine Go.step (T' := T2) (f' := (mkF m 9 #[.val (.int i), .val (.int k)] [])) (fun t kt => ?_) ?_
  · show Steps p.tables e below (s₁.setTop (mkF m 0 #[.val (.int i), .val (.int k)] [])) _
    refine XS.iloadN X0.here hx rfl (hb hby d15_0) rfl ?_
    show Steps p.tables e below (s₁.setTop (mkF m 1 #[.val (.int i), .val (.int k)] [(.int i)])) _
    refine XS.iloadN X0.here hx rfl (hb hby d15_1) rfl ?_
    show Steps p.tables e below (s₁.setTop (mkF m 2 #[.val (.int i), .val (.int k)] [(.int k), (.int i)])) _
    refine st1 _ ?_
    show Steps p.tables e below (T1.setTop (mkF m 5 #[.val (.int i), .val (.int k)] [(.ref fo), (.int k), (.int i)])) _
    refine st2 _ ?_
    show Steps p.tables e below (T2.setTop (mkF m 8 #[.val (.int i), .val (.int k)] [(.int (ckPR i k))])) _
    refine XS.pop X2.here hx rfl (hb hby d15_8) rfl rfl ?_
    exact kt
  refine Go.fin X2 (v := none) (fun _ => rfl) Bd.notSynchronized ?_ (Nat.le_trans (Nat.add_le_add_right (Nat.le_refl 0) 0) (by decide)) (Nat.le_trans (Nat.add_le_add_right (Nat.le_refl 0) 0) (by decide)) (fun fs hr => X2.returnOut hx Bd.returns (hb hby d15_9) hr)
  · show Qck8R Z i k fo h0 n0 _ T2.heap _
    exact ⟨rfl, N2, e2⟩
def Qck8 (Z : State) (i : Int32) (k : Int32) (fo : Value) (h0 : Heap) (n0 : Nat) (v : Option Value) (h : Heap) (L : List Loc) : Prop := v = none ∧ Fr n0 L ∧ h = h0
theorem rm_ck8 (l : Launch) (Z : State) (a0 : Array Value) (hw : ∀ d ∈ tables_1, d.before a0 Z = true) (ws : List Jvm.Cond) (i : Int32) (k : Int32) (fo : Value) (h0 : Heap) (n0 : Nat) (Z0 : n0 ≤ h0.size) (F0 : Sta Z h0 "jdk/internal/util/Preconditions" "SIOOBE_FORMATTER" "Ljava/util/function/BiFunction;" fo) (hi0 : ¬ i < (0 : Int32)) (hi1 : i < k) (hfo : fo.isRef = true) :
    MetFree l (⟨"java/lang/String", "checkIndex", "(II)V"⟩ : MethodName) (head1 (Jvm.Cond.code (⟨"java/lang/String", "checkIndex", "(II)V"⟩ : MethodName) jdk_42_method_155_code 2 none :: ws) ({ frames := 1, cells := 0, slots := 0, locals := 14 } : Room)) (fun A_ U => A_ = #[(.int i), (.int k)] ∧ Z.Warmed39 U.vm ∧ U.heap = h0) (fun _ _ _ _ _ => True) (fun _ U o U' => ∃ v L, o = .returned v ∧ Qck8 Z i k fo h0 n0 v U'.heap L ∧ FrameEnd U o U' L ({ frames := 1, cells := 0, slots := 0, locals := 14 } : Room).cells ({ frames := 1, cells := 0, slots := 0, locals := 14 } : Room).slots) := by
  cases fo with
  | null => exact rm_ck8N l Z a0 hw ws i k h0 n0 Z0 F0 hi0 hi1
  | ref a => exact rm_ck8R l Z a0 hw ws i k a h0 n0 Z0 F0 hi0 hi1
  | _ => cases hfo
theorem pd_2 : parseMethodDescriptor "(II)V" = some ⟨[.int, .int], none⟩ := by decide +kernel
theorem d14_0 : decode jdk_43_method_2_code 0 = .ok (.iload_n 1, 1) := by decide +kernel
theorem d14_1 : decode jdk_43_method_2_code 1 = .ok (.aload_n 0, 1) := by decide +kernel
theorem d14_2 : decode jdk_43_method_2_code 2 = .ok (.arraylength, 1) := by decide +kernel
theorem d14_3 : decode jdk_43_method_2_code 3 = .ok (.invokestatic 9, 3) := by decide +kernel
theorem d14_6 : decode jdk_43_method_2_code 6 = .ok (.aload_n 0, 1) := by decide +kernel
theorem d14_7 : decode jdk_43_method_2_code 7 = .ok (.iload_n 1, 1) := by decide +kernel
theorem d14_8 : decode jdk_43_method_2_code 8 = .ok (.baload, 1) := by decide +kernel
theorem d14_9 : decode jdk_43_method_2_code 9 = .ok (.sipush 255, 3) := by decide +kernel
theorem d14_12 : decode jdk_43_method_2_code 12 = .ok (.iand, 1) := by decide +kernel
theorem d14_13 : decode jdk_43_method_2_code 13 = .ok (.i2c, 1) := by decide +kernel
theorem d14_14 : decode jdk_43_method_2_code 14 = .ok (.ireturn, 1) := by decide +kernel
theorem pn_2 : plainName "java/lang/StringLatin1" = true := by first | (simp [plainName, overriddenIn]; done) | decide +kernel
theorem ef_chL (m : MethodId) (x0 : Addr) (x1 : Int32) : entryFrame m #[(.ref x0), (.int x1)] 2 = mkF m 0 #[.val (.ref x0), .val (.int x1)] [] := by first | (simp [entryFrame, mkF, argsToLocals, Value.category]; done) | rfl
def chL (i : Int32) (vs : List Int32) (fo : Value) : Int32 := (nar .char (((vs.getD i.toNatClampNeg (0 : Int32)) &&& (255 : Int32)).toUInt32.toUInt16.toUInt32.toInt32))
def QchL (Z : State) (bv : Addr) (i : Int32) (vs : List Int32) (fo : Value) (RES : Int32) (h0 : Heap) (n0 : Nat) (v : Option Value) (h : Heap) (L : List Loc) : Prop := v = some (.int RES) ∧ Fr n0 L ∧ h = h0
set_option maxRecDepth 65536 in
set_option maxHeartbeats 40000000 in
theorem rm_chL (l : Launch) (Z : State) (a0 : Array Value) (hw : ∀ d ∈ tables_1, d.before a0 Z = true) (ws : List Jvm.Cond) (bv : Addr) (i : Int32) (vs : List Int32) (fo : Value) (h0 : Heap) (n0 : Nat) (Z0 : n0 ≤ h0.size) (F0 : VA Z h0 bv .byte (vs.map Value.int)) (F1 : Sta Z h0 "jdk/internal/util/Preconditions" "SIOOBE_FORMATTER" "Ljava/util/function/BiFunction;" fo) (hfo : fo.isRef = true) (hi0 : ¬ i < (0 : Int32)) (hi1 : i < vs.length.toInt32) (hix : 0 ≤ i.toInt ∧ i.toInt < (vs.length : Int)) :
    MetFree l (⟨"java/lang/StringLatin1", "charAt", "([BI)C"⟩ : MethodName) (head1 (Jvm.Cond.code (⟨"java/lang/StringLatin1", "charAt", "([BI)C"⟩ : MethodName) jdk_43_method_2_code 2 (some .char) :: ws) ({ frames := 2, cells := 0, slots := 0, locals := 27 } : Room)) (fun A_ U => A_ = #[(.ref bv), (.int i)] ∧ Z.Warmed39 U.vm ∧ U.heap = h0) (fun _ _ _ _ _ => True) (fun _ U o U' => ∃ v L, o = .returned v ∧ QchL Z bv i vs fo (chL i vs fo) h0 n0 v U'.heap L ∧ FrameEnd U o U' L ({ frames := 2, cells := 0, slots := 0, locals := 27 } : Room).cells ({ frames := 2, cells := 0, slots := 0, locals := 27 } : Room).slots) := by
  refine MetFree.of_bodySF (plainFor_of_name pn_2) hisR ?_
  intro p e s m args below meth c s₁ Bd hml0 hP hK
  obtain ⟨rfl, hZ, hh⟩ := hP
  have hx := Bd.exec
  have hby := Bd.bytes
  have hml : c.maxLocals = 2 := hml0
  have hown : s.vm.findClass "java/lang/StringLatin1" = some m.cls := findClass_of_methodNamed Bd.named
  have hnm := (name_of_methodNamed Bd.named Bd.method).1
  have X0 : Stand p l e ({ frames := 2, cells := 0, slots := 0, locals := 27 } : Room) s m #[(.ref bv), (.int i)] below meth c s₁ [] 0 0 := Stand.of_body Bd
  have e0 : s₁.heap = h0 := by rw [← hh, Bd.state]; rfl
  have N0 := Fr.nil n0
  obtain ⟨RES, hf⟩ : ∃ z, z = chL i vs fo := ⟨_, rfl⟩
  rw [← hf]
  rw [chL] at hf
  suffices HGO : Go p e below s (QchL Z bv i vs fo RES h0 n0) ({ frames := 2, cells := 0, slots := 0, locals := 27 } : Room).cells ({ frames := 2, cells := 0, slots := 0, locals := 27 } : Room).slots s₁ (mkF m 0 #[.val (.ref bv), .val (.int i)] []) from Go.cast (ef_chL m bv i) HGO
  have ln1 : ((vs.map Value.int).length : Int) = ((vs.length.toInt32)).toInt := (by have q := F0.len; rw [List.length_map] at q; rw [len_toInt q, List.length_map])
  obtain ⟨_, _, ⟨T2, L2, k2, n2⟩, -, X2, ⟨Lc2, hQ2, l2, y2, z2⟩, st2⟩ := Jvm.LawKit.callS X0 hx (y := (⟨"java/lang/String", "checkIndex", "(II)V"⟩ : MethodName)) hown (mvT hZ (hw _ (List.mem_of_getElem? (i := 82) rfl))) (mvT hZ (hw _ (List.mem_of_getElem? (i := 83) rfl))) (mvT hZ (hw _ (List.mem_of_getElem? (i := 58) rfl))) (mvT hZ (hw _ (List.mem_of_getElem? (i := 84) rfl))) (by decide) (backOf (W := 0) (rm_ck8 l Z a0 hw [] i (vs.length.toInt32) fo h0 n0 Z0 F1 hi0 hi1 hfo) hZ (hw _ (List.mem_of_getElem? (i := 84) rfl)) (hw _ (List.mem_of_getElem? (i := 58) rfl)) (by decide) (by decide)) (g := (mkF m 3 #[.val (.ref bv), .val (.int i)] [(.int (vs.length.toInt32)), (.int i)])) rfl (by rw [hml]; rfl) (argsL := [(.int i), (.int (vs.length.toInt32))]) (rest := []) (lenOf pd_2 rfl) rfl (by show 2 * 0 + _ ≤ _; exact Nat.le_of_eq rfl) (hb hby d14_3) (fun _ _ => ⟨rfl, e0, (Nat.le_trans (Nat.add_le_add_right (Nat.le_refl 0) 0) (by decide)), (Nat.le_trans (Nat.add_le_add_right (Nat.le_refl 0) 0) (by decide))⟩)
  dsimp only [Pt.U, Pt.locs, Pt.cells, Pt.slots] at X2 l2 y2 z2 st2 hQ2
  subst l2 y2 z2
  obtain ⟨rfl, N2q, e2⟩ := hQ2
  have N2 := Fr.app N0 N2q
  have ix3 : 0 ≤ (i).toInt ∧ (i).toInt < ((vs).length : Int) := hix
  refine Go.step (T' := T2) (f' := (mkF m 14 #[.val (.ref bv), .val (.int i)] [(.int (((vs.getD i.toNatClampNeg (0 : Int32)) &&& (255 : Int32)).toUInt32.toUInt16.toUInt32.toInt32))])) (fun t kt => ?_) ?_
  · show Steps p.tables e below (s₁.setTop (mkF m 0 #[.val (.ref bv), .val (.int i)] [])) _
    refine XS.iloadN X0.here hx rfl (hb hby d14_0) rfl ?_
    show Steps p.tables e below (s₁.setTop (mkF m 1 #[.val (.ref bv), .val (.int i)] [(.int i)])) _
    refine XS.aloadN X0.here hx rfl (hb hby d14_1) rfl rfl ?_
    show Steps p.tables e below (s₁.setTop (mkF m 2 #[.val (.ref bv), .val (.int i)] [(.ref bv), (.int i)])) _
    refine lenA X0 hx hZ e0 F0 (n := (vs.length.toInt32)) ln1 (g := (mkF m 2 #[.val (.ref bv), .val (.int i)] [(.ref bv), (.int i)])) rfl rfl (hb hby d14_2) _ ?_
    show Steps p.tables e below (s₁.setTop (mkF m 3 #[.val (.ref bv), .val (.int i)] [(.int (vs.length.toInt32)), (.int i)])) _
    refine st2 _ ?_
    show Steps p.tables e below (T2.setTop (mkF m 6 #[.val (.ref bv), .val (.int i)] [])) _
    refine XS.aloadN X2.here hx rfl (hb hby d14_6) rfl rfl ?_
    show Steps p.tables e below (T2.setTop (mkF m 7 #[.val (.ref bv), .val (.int i)] [(.ref bv)])) _
    refine XS.iloadN X2.here hx rfl (hb hby d14_7) rfl ?_
    show Steps p.tables e below (T2.setTop (mkF m 8 #[.val (.ref bv), .val (.int i)] [(.int i), (.ref bv)])) _
    refine ldB X2 hx hZ e2 F0 ix3.1 ix3.2 (g := (mkF m 8 #[.val (.ref bv), .val (.int i)] [(.int i), (.ref bv)])) rfl rfl (hb hby d14_8) _ ?_
    show Steps p.tables e below (T2.setTop (mkF m 9 #[.val (.ref bv), .val (.int i)] [(.int (vs.getD i.toNatClampNeg (0 : Int32)))])) _
    refine XS.sipush X2.here hx rfl (hb hby d14_9) ?_
    show Steps p.tables e below (T2.setTop (mkF m 12 #[.val (.ref bv), .val (.int i)] [(.int (255 : Int32)), (.int (vs.getD i.toNatClampNeg (0 : Int32)))])) _
    refine XS.iand X2.here hx rfl (hb hby d14_12) rfl ?_
    show Steps p.tables e below (T2.setTop (mkF m 13 #[.val (.ref bv), .val (.int i)] [(.int ((vs.getD i.toNatClampNeg (0 : Int32)) &&& (255 : Int32)))])) _
    refine XS.i2c X2.here hx rfl (hb hby d14_13) rfl ?_
    exact kt
  refine Go.fin X2 (v := some (.int (nar .char (((vs.getD i.toNatClampNeg (0 : Int32)) &&& (255 : Int32)).toUInt32.toUInt16.toUInt32.toInt32)))) (fun h => by rw [Bd.returns] at h; cases h) Bd.notSynchronized ?_ (Nat.le_trans (Nat.add_le_add_right (Nat.le_refl 0) 0) (by decide)) (Nat.le_trans (Nat.add_le_add_right (Nat.le_refl 0) 0) (by decide)) (fun fs hr => retN X2 hx (t := .char) Bd.returns (by simp) (hb hby d14_14) hr)
  · exact ⟨by rw [hf], N2, e2⟩
theorem pd_3 : parseMethodDescriptor "()Z" = some ⟨[], some .boolean⟩ := by decide +kernel
theorem pd_4 : parseMethodDescriptor "([BI)C" = some ⟨[(.array .byte), .int], some .char⟩ := by decide +kernel
theorem d12_0 : decode jdk_42_method_56_code 0 = .ok (.aload_n 0, 1) := by decide +kernel
theorem d12_1 : decode jdk_42_method_56_code 1 = .ok (.invokevirtual 492, 3) := by decide +kernel
theorem d12_4 : decode jdk_42_method_56_code 4 = .ok (.ifCond .eq 12, 3) := by decide +kernel
theorem d12_7 : decode jdk_42_method_56_code 7 = .ok (.aload_n 0, 1) := by decide +kernel
theorem d12_8 : decode jdk_42_method_56_code 8 = .ok (.getfield 9, 3) := by decide +kernel
theorem d12_11 : decode jdk_42_method_56_code 11 = .ok (.iload_n 1, 1) := by decide +kernel
theorem d12_12 : decode jdk_42_method_56_code 12 = .ok (.invokestatic 495, 3) := by decide +kernel
theorem d12_15 : decode jdk_42_method_56_code 15 = .ok (.ireturn, 1) := by decide +kernel
theorem ef_chF (m : MethodId) (x0 : Addr) (x1 : Int32) : entryFrame m #[(.ref x0), (.int x1)] 2 = mkF m 0 #[.val (.ref x0), .val (.int x1)] [] := by first | (simp [entryFrame, mkF, argsToLocals, Value.category]; done) | rfl
def chF (i : Int32) (vs : List Int32) (cs : Int32) (fo : Value) : Int32 := (nar .char (chL i vs fo))
def QchF (Z : State) (a : Addr) (i : Int32) (bv : Addr) (vs : List Int32) (cs : Int32) (fo : Value) (RES : Int32) (h0 : Heap) (n0 : Nat) (v : Option Value) (h : Heap) (L : List Loc) : Prop := v = some (.int RES) ∧ Fr n0 L ∧ h = h0
set_option maxRecDepth 65536 in
set_option maxHeartbeats 40000000 in
theorem rm_chF (l : Launch) (Z : State) (a0 : Array Value) (hw : ∀ d ∈ tables_1, d.before a0 Z = true) (ws : List Jvm.Cond) (a : Addr) (i : Int32) (bv : Addr) (vs : List Int32) (cs : Int32) (fo : Value) (h0 : Heap) (n0 : Nat) (Z0 : n0 ≤ h0.size) (F0 : Exa Z h0 a "java/lang/String") (F1 : Fld Z h0 a "java/lang/String" "value" "[B" (.ref bv)) (F2 : Fld Z h0 a "java/lang/String" "coder" "B" (.int (0 : Int32))) (F3 : VA Z h0 bv .byte (vs.map Value.int)) (F4 : Sta Z h0 "java/lang/String" "COMPACT_STRINGS" "Z" (.int cs)) (F5 : Sta Z h0 "jdk/internal/util/Preconditions" "SIOOBE_FORMATTER" "Ljava/util/function/BiFunction;" fo) (hcs : ¬ cs = (0 : Int32)) (hfo : fo.isRef = true) (hi0 : ¬ i < (0 : Int32)) (hi1 : i < vs.length.toInt32) (hix : 0 ≤ i.toInt ∧ i.toInt < (vs.length : Int)) :
    MetFree l (⟨"java/lang/String", "charAt", "(I)C"⟩ : MethodName) (head1 (Jvm.Cond.code (⟨"java/lang/String", "charAt", "(I)C"⟩ : MethodName) jdk_42_method_56_code 2 (some .char) :: ws) ({ frames := 3, cells := 0, slots := 0, locals := 40 } : Room)) (fun A_ U => A_ = #[(.ref a), (.int i)] ∧ Z.Warmed39 U.vm ∧ U.heap = h0) (fun _ _ _ _ _ => True) (fun _ U o U' => ∃ v L, o = .returned v ∧ QchF Z a i bv vs cs fo (chF i vs cs fo) h0 n0 v U'.heap L ∧ FrameEnd U o U' L ({ frames := 3, cells := 0, slots := 0, locals := 40 } : Room).cells ({ frames := 3, cells := 0, slots := 0, locals := 40 } : Room).slots) := by
  refine MetFree.of_bodySF (plainFor_of_name pn_0) hisR ?_
  intro p e s m args below meth c s₁ Bd hml0 hP hK
  obtain ⟨rfl, hZ, hh⟩ := hP
  have hx := Bd.exec
  have hby := Bd.bytes
  have hml : c.maxLocals = 2 := hml0
  have hown : s.vm.findClass "java/lang/String" = some m.cls := findClass_of_methodNamed Bd.named
  have hnm := (name_of_methodNamed Bd.named Bd.method).1
  have X0 : Stand p l e ({ frames := 3, cells := 0, slots := 0, locals := 40 } : Room) s m #[(.ref a), (.int i)] below meth c s₁ [] 0 0 := Stand.of_body Bd
  have e0 : s₁.heap = h0 := by rw [← hh, Bd.state]; rfl
  have N0 := Fr.nil n0
  obtain ⟨RES, hf⟩ : ∃ z, z = chF i vs cs fo := ⟨_, rfl⟩
  rw [← hf]
  rw [chF] at hf
  suffices HGO : Go p e below s (QchF Z a i bv vs cs fo RES h0 n0) ({ frames := 3, cells := 0, slots := 0, locals := 40 } : Room).cells ({ frames := 3, cells := 0, slots := 0, locals := 40 } : Room).slots s₁ (mkF m 0 #[.val (.ref a), .val (.int i)] []) from Go.cast (ef_chF m a i) HGO
  obtain ⟨cq1, kq1, q1a, q1b, q1c⟩ := isOf hZ e0 (F0 : Exa Z h0 a "java/lang/String")
  obtain ⟨_, _, ⟨T1, L1, k1, n1⟩, -, X1, ⟨Lc1, hQ1, l1, y1, z1⟩, st1⟩ := X0.virtualBack hx (y := (⟨"java/lang/String", "isLatin1", "()Z"⟩ : MethodName)) (z := (⟨"java/lang/String", "isLatin1", "()Z"⟩ : MethodName)) hown (mvT hZ (hw _ (List.mem_of_getElem? (i := 70) rfl))) (mvT hZ (hw _ (List.mem_of_getElem? (i := 71) rfl))) (notFace_of_selects (args := #[]) (mvT hZ (hw _ (List.mem_of_getElem? (i := 73) rfl)))) (mvT hZ (hw _ (List.mem_of_getElem? (i := 73) rfl))) (mvT hZ (hw _ (List.mem_of_getElem? (i := 72) rfl))) (by decide) (backOf (W := 0) (rm_latF l Z a0 hw [] a cs h0 n0 Z0 F2 F4 hcs) hZ (hw _ (List.mem_of_getElem? (i := 74) rfl)) (hw _ (List.mem_of_getElem? (i := 58) rfl)) (by decide) (by decide)) q1a q1c (g := (mkF m 1 #[.val (.ref a), .val (.int i)] [(.ref a)])) rfl (by rw [hml]; rfl) (Steps.refl _) (argsL := []) (rest := []) (lenOf pd_3 rfl) rfl (by show 2 * 0 + _ ≤ _; exact Nat.le_of_eq rfl) (hb hby d12_1) (fun _ _ => ⟨rfl, e0, (Nat.le_trans (Nat.add_le_add_right (Nat.le_refl 0) 0) (by decide)), (Nat.le_trans (Nat.add_le_add_right (Nat.le_refl 0) 0) (by decide))⟩)
  dsimp only [Pt.U, Pt.locs, Pt.cells, Pt.slots] at X1 l1 y1 z1 st1 hQ1
  subst l1 y1 z1
  obtain ⟨rfl, N1q, e1⟩ := hQ1
  have N1 := Fr.app N0 N1q
  obtain ⟨T2, X2, e2, st2⟩ := getF X1 hx hZ hown (host := "") (Or.inl (hw _ (List.mem_of_getElem? (i := 77) rfl))) Via.refl e1 F1 (g := (mkF m 8 #[.val (.ref a), .val (.int i)] [(.ref a)])) rfl rfl (hb hby d12_8)
  obtain ⟨_, _, ⟨T3, L3, k3, n3⟩, -, X3, ⟨Lc3, hQ3, l3, y3, z3⟩, st3⟩ := Jvm.LawKit.callS X2 hx (y := (⟨"java/lang/StringLatin1", "charAt", "([BI)C"⟩ : MethodName)) hown (mvT hZ (hw _ (List.mem_of_getElem? (i := 78) rfl))) (mvT hZ (hw _ (List.mem_of_getElem? (i := 79) rfl))) (mvT hZ (hw _ (List.mem_of_getElem? (i := 80) rfl))) (mvT hZ (hw _ (List.mem_of_getElem? (i := 81) rfl))) (by decide) (backOf (W := 0) (rm_chL l Z a0 hw [] bv i vs fo h0 n0 Z0 F3 F5 hfo hi0 hi1 hix) hZ (hw _ (List.mem_of_getElem? (i := 81) rfl)) (hw _ (List.mem_of_getElem? (i := 80) rfl)) (by decide) (by decide)) (g := (mkF m 12 #[.val (.ref a), .val (.int i)] [(.int i), (.ref bv)])) rfl (by rw [hml]; rfl) (argsL := [(.ref bv), (.int i)]) (rest := []) (lenOf pd_4 rfl) rfl (by show 2 * 0 + _ ≤ _; exact Nat.le_of_eq rfl) (hb hby d12_12) (fun _ _ => ⟨rfl, e2, (Nat.le_trans (Nat.add_le_add_right (Nat.add_le_add_right (Nat.le_refl 0) 0) 0) (by decide)), (Nat.le_trans (Nat.add_le_add_right (Nat.add_le_add_right (Nat.le_refl 0) 0) 0) (by decide))⟩)
  dsimp only [Pt.U, Pt.locs, Pt.cells, Pt.slots] at X3 l3 y3 z3 st3 hQ3
  subst l3 y3 z3
  obtain ⟨rfl, N3q, e3⟩ := hQ3
  have N3 := Fr.app N1 N3q
  refine Go.step (T' := T3) (f' := (mkF m 15 #[.val (.ref a), .val (.int i)] [(.int (chL i vs fo))])) (fun t kt => ?_) ?_
  · show Steps p.tables e below (s₁.setTop (mkF m 0 #[.val (.ref a), .val (.int i)] [])) _
    refine XS.aloadN X0.here hx rfl (hb hby d12_0) rfl rfl ?_
    show Steps p.tables e below (s₁.setTop (mkF m 1 #[.val (.ref a), .val (.int i)] [(.ref a)])) _
    refine st1.trans ?_
    show Steps p.tables e below (T1.setTop (mkF m 4 #[.val (.ref a), .val (.int i)] [(.int (1 : Int32))])) _
    refine XS.ifNo X1.here hx rfl (hb hby d12_4) rfl ((if0 _ _).trans (feq (by decide : ¬ ((1 : Int32) = (0 : Int32)))).1) ?_
    show Steps p.tables e below (T1.setTop (mkF m 7 #[.val (.ref a), .val (.int i)] [])) _
    refine XS.aloadN X1.here hx rfl (hb hby d12_7) rfl rfl ?_
    show Steps p.tables e below (T1.setTop (mkF m 8 #[.val (.ref a), .val (.int i)] [(.ref a)])) _
    refine st2 _ ?_
    show Steps p.tables e below (T2.setTop (mkF m 11 #[.val (.ref a), .val (.int i)] [(.ref bv)])) _
    refine XS.iloadN X2.here hx rfl (hb hby d12_11) rfl ?_
    show Steps p.tables e below (T2.setTop (mkF m 12 #[.val (.ref a), .val (.int i)] [(.int i), (.ref bv)])) _
    refine st3 _ ?_
    exact kt
  refine Go.fin X3 (v := some (.int (nar .char (chL i vs fo)))) (fun h => by rw [Bd.returns] at h; cases h) Bd.notSynchronized ?_ (Nat.le_trans (Nat.add_le_add_right (Nat.add_le_add_right (Nat.le_refl 0) 0) 0) (by decide)) (Nat.le_trans (Nat.add_le_add_right (Nat.add_le_add_right (Nat.le_refl 0) 0) 0) (by decide)) (fun fs hr => retN X3 hx (t := .char) Bd.returns (by simp) (hb hby d12_15) hr)
  · exact ⟨by rw [hf], N3, e3⟩
theorem ef_chS (m : MethodId) (x0 : Addr) (x1 : Int32) : entryFrame m #[(.ref x0), (.int x1)] 2 = mkF m 0 #[.val (.ref x0), .val (.int x1)] [] := by first | (simp [entryFrame, mkF, argsToLocals, Value.category]; done) | rfl
def QchS (Z : State) (a : Addr) (i : Int32) (bv : Addr) (vs : List Int32) (cs : Int32) (fo : Value) (h0 : Heap) (n0 : Nat) (v : Option Value) (h : Heap) (L : List Loc) : Prop := ∃ (r : Int32), v = some (.int r) ∧ Fr n0 L ∧ h = h0 ∧ (r = chF i vs cs fo)
set_option maxRecDepth 65536 in
set_option maxHeartbeats 40000000 in
theorem rm_chS (l : Launch) (Z : State) (a0 : Array Value) (hw : ∀ d ∈ tables_1, d.before a0 Z = true) (ws : List Jvm.Cond) (a : Addr) (i : Int32) (bv : Addr) (vs : List Int32) (cs : Int32) (fo : Value) (h0 : Heap) (n0 : Nat) (Z0 : n0 ≤ h0.size) (F0 : Exa Z h0 a "java/lang/String") (F1 : Fld Z h0 a "java/lang/String" "value" "[B" (.ref bv)) (F2 : Fld Z h0 a "java/lang/String" "coder" "B" (.int (0 : Int32))) (F3 : VA Z h0 bv .byte (vs.map Value.int)) (F4 : Sta Z h0 "java/lang/String" "COMPACT_STRINGS" "Z" (.int cs)) (F5 : Sta Z h0 "jdk/internal/util/Preconditions" "SIOOBE_FORMATTER" "Ljava/util/function/BiFunction;" fo) (hcs : ¬ cs = (0 : Int32)) (hfo : fo.isRef = true) (hi0 : ¬ i < (0 : Int32)) (hi1 : i < vs.length.toInt32) (hix : 0 ≤ i.toInt ∧ i.toInt < (vs.length : Int)) :
    MetFree l (⟨"java/lang/String", "charAt", "(I)C"⟩ : MethodName) (head1 (Jvm.Cond.code (⟨"java/lang/String", "charAt", "(I)C"⟩ : MethodName) jdk_42_method_56_code 2 (some .char) :: ws) ({ frames := 3, cells := 0, slots := 0, locals := 40 } : Room)) (fun A_ U => A_ = #[(.ref a), (.int i)] ∧ Z.Warmed39 U.vm ∧ U.heap = h0) (fun _ _ _ _ _ => True) (fun _ U o U' => ∃ v L, o = .returned v ∧ QchS Z a i bv vs cs fo h0 n0 v U'.heap L ∧ FrameEnd U o U' L ({ frames := 3, cells := 0, slots := 0, locals := 40 } : Room).cells ({ frames := 3, cells := 0, slots := 0, locals := 40 } : Room).slots) := by
  refine MetFree.of_bodySF (plainFor_of_name pn_0) hisR ?_
  intro p e s m args below meth c s₁ Bd hml0 hP hK
  obtain ⟨rfl, hZ, hh⟩ := hP
  have hx := Bd.exec
  have hby := Bd.bytes
  have hml : c.maxLocals = 2 := hml0
  have hown : s.vm.findClass "java/lang/String" = some m.cls := findClass_of_methodNamed Bd.named
  have hnm := (name_of_methodNamed Bd.named Bd.method).1
  have X0 : Stand p l e ({ frames := 3, cells := 0, slots := 0, locals := 40 } : Room) s m #[(.ref a), (.int i)] below meth c s₁ [] 0 0 := Stand.of_body Bd
  have e0 : s₁.heap = h0 := by rw [← hh, Bd.state]; rfl
  have N0 := Fr.nil n0
  suffices HGO : Go p e below s (QchS Z a i bv vs cs fo h0 n0) ({ frames := 3, cells := 0, slots := 0, locals := 40 } : Room).cells ({ frames := 3, cells := 0, slots := 0, locals := 40 } : Room).slots s₁ (mkF m 0 #[.val (.ref a), .val (.int i)] []) from Go.cast (ef_chS m a i) HGO
  obtain ⟨cq1, kq1, q1a, q1b, q1c⟩ := isOf hZ e0 (F0 : Exa Z h0 a "java/lang/String")
  obtain ⟨_, _, ⟨T1, L1, k1, n1⟩, -, X1, ⟨Lc1, hQ1, l1, y1, z1⟩, st1⟩ := X0.virtualBack hx (y := (⟨"java/lang/String", "isLatin1", "()Z"⟩ : MethodName)) (z := (⟨"java/lang/String", "isLatin1", "()Z"⟩ : MethodName)) hown (mvT hZ (hw _ (List.mem_of_getElem? (i := 70) rfl))) (mvT hZ (hw _ (List.mem_of_getElem? (i := 71) rfl))) (notFace_of_selects (args := #[]) (mvT hZ (hw _ (List.mem_of_getElem? (i := 73) rfl)))) (mvT hZ (hw _ (List.mem_of_getElem? (i := 73) rfl))) (mvT hZ (hw _ (List.mem_of_getElem? (i := 72) rfl))) (by decide) (backOf (W := 0) (rm_latF l Z a0 hw [] a cs h0 n0 Z0 F2 F4 hcs) hZ (hw _ (List.mem_of_getElem? (i := 74) rfl)) (hw _ (List.mem_of_getElem? (i := 58) rfl)) (by decide) (by decide)) q1a q1c (g := (mkF m 1 #[.val (.ref a), .val (.int i)] [(.ref a)])) rfl (by rw [hml]; rfl) (Steps.refl _) (argsL := []) (rest := []) (lenOf pd_3 rfl) rfl (by show 2 * 0 + _ ≤ _; exact Nat.le_of_eq rfl) (hb hby d12_1) (fun _ _ => ⟨rfl, e0, (Nat.le_trans (Nat.add_le_add_right (Nat.le_refl 0) 0) (by decide)), (Nat.le_trans (Nat.add_le_add_right (Nat.le_refl 0) 0) (by decide))⟩)
  dsimp only [Pt.U, Pt.locs, Pt.cells, Pt.slots] at X1 l1 y1 z1 st1 hQ1
  subst l1 y1 z1
  obtain ⟨rfl, N1q, e1⟩ := hQ1
  have N1 := Fr.app N0 N1q
  obtain ⟨T2, X2, e2, st2⟩ := getF X1 hx hZ hown (host := "") (Or.inl (hw _ (List.mem_of_getElem? (i := 77) rfl))) Via.refl e1 F1 (g := (mkF m 8 #[.val (.ref a), .val (.int i)] [(.ref a)])) rfl rfl (hb hby d12_8)
  obtain ⟨_, _, ⟨T3, L3, k3, n3⟩, -, X3, ⟨Lc3, hQ3, l3, y3, z3⟩, st3⟩ := Jvm.LawKit.callS X2 hx (y := (⟨"java/lang/StringLatin1", "charAt", "([BI)C"⟩ : MethodName)) hown (mvT hZ (hw _ (List.mem_of_getElem? (i := 78) rfl))) (mvT hZ (hw _ (List.mem_of_getElem? (i := 79) rfl))) (mvT hZ (hw _ (List.mem_of_getElem? (i := 80) rfl))) (mvT hZ (hw _ (List.mem_of_getElem? (i := 81) rfl))) (by decide) (backOf (W := 0) (rm_chL l Z a0 hw [] bv i vs fo h0 n0 Z0 F3 F5 hfo hi0 hi1 hix) hZ (hw _ (List.mem_of_getElem? (i := 81) rfl)) (hw _ (List.mem_of_getElem? (i := 80) rfl)) (by decide) (by decide)) (g := (mkF m 12 #[.val (.ref a), .val (.int i)] [(.int i), (.ref bv)])) rfl (by rw [hml]; rfl) (argsL := [(.ref bv), (.int i)]) (rest := []) (lenOf pd_4 rfl) rfl (by show 2 * 0 + _ ≤ _; exact Nat.le_of_eq rfl) (hb hby d12_12) (fun _ _ => ⟨rfl, e2, (Nat.le_trans (Nat.add_le_add_right (Nat.add_le_add_right (Nat.le_refl 0) 0) 0) (by decide)), (Nat.le_trans (Nat.add_le_add_right (Nat.add_le_add_right (Nat.le_refl 0) 0) 0) (by decide))⟩)
  dsimp only [Pt.U, Pt.locs, Pt.cells, Pt.slots] at X3 l3 y3 z3 st3 hQ3
  subst l3 y3 z3
  obtain ⟨rfl, N3q, e3⟩ := hQ3
  have N3 := Fr.app N1 N3q
  refine Go.step (T' := T3) (f' := (mkF m 15 #[.val (.ref a), .val (.int i)] [(.int (chL i vs fo))])) (fun t kt => ?_) ?_
  · show Steps p.tables e below (s₁.setTop (mkF m 0 #[.val (.ref a), .val (.int i)] [])) _
    refine XS.aloadN X0.here hx rfl (hb hby d12_0) rfl rfl ?_
    show Steps p.tables e below (s₁.setTop (mkF m 1 #[.val (.ref a), .val (.int i)] [(.ref a)])) _
    refine st1.trans ?_
    show Steps p.tables e below (T1.setTop (mkF m 4 #[.val (.ref a), .val (.int i)] [(.int (1 : Int32))])) _
    refine XS.ifNo X1.here hx rfl (hb hby d12_4) rfl ((if0 _ _).trans (feq (by decide : ¬ ((1 : Int32) = (0 : Int32)))).1) ?_
    show Steps p.tables e below (T1.setTop (mkF m 7 #[.val (.ref a), .val (.int i)] [])) _
    refine XS.aloadN X1.here hx rfl (hb hby d12_7) rfl rfl ?_
    show Steps p.tables e below (T1.setTop (mkF m 8 #[.val (.ref a), .val (.int i)] [(.ref a)])) _
    refine st2 _ ?_
    show Steps p.tables e below (T2.setTop (mkF m 11 #[.val (.ref a), .val (.int i)] [(.ref bv)])) _
    refine XS.iloadN X2.here hx rfl (hb hby d12_11) rfl ?_
    show Steps p.tables e below (T2.setTop (mkF m 12 #[.val (.ref a), .val (.int i)] [(.int i), (.ref bv)])) _
    refine st3 _ ?_
    exact kt
  refine Go.fin X3 (v := some (.int (nar .char (chL i vs fo)))) (fun h => by rw [Bd.returns] at h; cases h) Bd.notSynchronized ?_ (Nat.le_trans (Nat.add_le_add_right (Nat.add_le_add_right (Nat.le_refl 0) 0) 0) (by decide)) (Nat.le_trans (Nat.add_le_add_right (Nat.add_le_add_right (Nat.le_refl 0) 0) 0) (by decide)) (fun fs hr => retN X3 hx (t := .char) Bd.returns (by simp) (hb hby d12_15) hr)
  · show QchS Z a i bv vs cs fo h0 n0 _ T3.heap _
    exact ⟨(nar .char (chL i vs fo)), rfl, N3, e3, rfl⟩
theorem d20_0 : decode jdk_52_method_21_code 0 = .ok (.iconst 0, 1) := by decide +kernel
theorem d20_1 : decode jdk_52_method_21_code 1 = .ok (.istore 5, 2) := by decide +kernel
theorem d20_3 : decode jdk_52_method_21_code 3 = .ok (.iload 5, 2) := by decide +kernel
theorem d20_5 : decode jdk_52_method_21_code 5 = .ok (.iload 4, 2) := by decide +kernel
theorem d20_7 : decode jdk_52_method_21_code 7 = .ok (.if_icmp .ge 37, 3) := by decide +kernel
theorem d20_10 : decode jdk_52_method_21_code 10 = .ok (.aload_n 0, 1) := by decide +kernel
theorem d20_11 : decode jdk_52_method_21_code 11 = .ok (.iload_n 1, 1) := by decide +kernel
theorem d20_12 : decode jdk_52_method_21_code 12 = .ok (.caload, 1) := by decide +kernel
theorem d20_13 : decode jdk_52_method_21_code 13 = .ok (.istore 6, 2) := by decide +kernel
theorem d20_15 : decode jdk_52_method_21_code 15 = .ok (.iload 6, 2) := by decide +kernel
theorem d20_17 : decode jdk_52_method_21_code 17 = .ok (.sipush 255, 3) := by decide +kernel
theorem d20_20 : decode jdk_52_method_21_code 20 = .ok (.if_icmp .le 6, 3) := by decide +kernel
theorem d20_26 : decode jdk_52_method_21_code 26 = .ok (.aload_n 2, 1) := by decide +kernel
theorem d20_27 : decode jdk_52_method_21_code 27 = .ok (.iload_n 3, 1) := by decide +kernel
theorem d20_28 : decode jdk_52_method_21_code 28 = .ok (.iload 6, 2) := by decide +kernel
theorem d20_30 : decode jdk_52_method_21_code 30 = .ok (.i2b, 1) := by decide +kernel
theorem d20_31 : decode jdk_52_method_21_code 31 = .ok (.bastore, 1) := by decide +kernel
theorem d20_32 : decode jdk_52_method_21_code 32 = .ok (.iinc 1 1, 3) := by decide +kernel
theorem d20_35 : decode jdk_52_method_21_code 35 = .ok (.iinc 3 1, 3) := by decide +kernel
theorem d20_38 : decode jdk_52_method_21_code 38 = .ok (.iinc 5 1, 3) := by decide +kernel
theorem d20_41 : decode jdk_52_method_21_code 41 = .ok (.goto (-38), 3) := by decide +kernel
theorem d20_44 : decode jdk_52_method_21_code 44 = .ok (.iload 4, 2) := by decide +kernel
theorem d20_46 : decode jdk_52_method_21_code 46 = .ok (.ireturn, 1) := by decide +kernel
theorem pn_3 : plainName "java/lang/StringUTF16" = true := by first | (simp [plainName, overriddenIn]; done) | decide +kernel
theorem ef_cp5 (m : MethodId) (x0 : Addr) (x1 : Int32) (x2 : Addr) (x3 : Int32) (x4 : Int32) : entryFrame m #[(.ref x0), (.int x1), (.ref x2), (.int x3), (.int x4)] 7 = mkF m 0 #[.val (.ref x0), .val (.int x1), .val (.ref x2), .val (.int x3), .val (.int x4), .unset, .unset] [] := by first | (simp [entryFrame, mkF, argsToLocals, Value.category]; done) | rfl
def Qcp5 (Z : State) (ca : Addr) (da : Addr) (c0 : Int32) (c1 : Int32) (c2 : Int32) (c3 : Int32) (c4 : Int32) (c5 : Int32) (c6 : Int32) (c7 : Int32) (c8 : Int32) (c9 : Int32) (c10 : Int32) (c11 : Int32) (c12 : Int32) (c13 : Int32) (c14 : Int32) (c15 : Int32) (c16 : Int32) (c17 : Int32) (c18 : Int32) (c19 : Int32) (c20 : Int32) (c21 : Int32) (c22 : Int32) (c23 : Int32) (c24 : Int32) (c25 : Int32) (h0 : Heap) (n0 : Nat) (v : Option Value) (h : Heap) (L : List Loc) : Prop := v = some (.int (26 : Int32)) ∧ Fr n0 L ∧ Keep h0 h [da] ∧ VA Z h da .byte ([(nar .byte (c0.toInt8.toInt32)), (nar .byte (c1.toInt8.toInt32)), (nar .byte (c2.toInt8.toInt32)), (nar .byte (c3.toInt8.toInt32)), (nar .byte (c4.toInt8.toInt32)), (nar .byte (c5.toInt8.toInt32)), (nar .byte (c6.toInt8.toInt32)), (nar .byte (c7.toInt8.toInt32)), (nar .byte (c8.toInt8.toInt32)), (nar .byte (c9.toInt8.toInt32)), (nar .byte (c10.toInt8.toInt32)), (nar .byte (c11.toInt8.toInt32)), (nar .byte (c12.toInt8.toInt32)), (nar .byte (c13.toInt8.toInt32)), (nar .byte (c14.toInt8.toInt32)), (nar .byte (c15.toInt8.toInt32)), (nar .byte (c16.toInt8.toInt32)), (nar .byte (c17.toInt8.toInt32)), (nar .byte (c18.toInt8.toInt32)), (nar .byte (c19.toInt8.toInt32)), (nar .byte (c20.toInt8.toInt32)), (nar .byte (c21.toInt8.toInt32)), (nar .byte (c22.toInt8.toInt32)), (nar .byte (c23.toInt8.toInt32)), (nar .byte (c24.toInt8.toInt32)), (nar .byte (c25.toInt8.toInt32))].map Value.int)
set_option maxRecDepth 65536 in
set_option maxHeartbeats 40000000 in
theorem rm_cp5 (l : Launch) (Z : State) (a0 : Array Value) (hw : ∀ d ∈ tables_1, d.before a0 Z = true) (ws : List Jvm.Cond) (ca : Addr) (da : Addr) (c0 : Int32) (c1 : Int32) (c2 : Int32) (c3 : Int32) (c4 : Int32) (c5 : Int32) (c6 : Int32) (c7 : Int32) (c8 : Int32) (c9 : Int32) (c10 : Int32) (c11 : Int32) (c12 : Int32) (c13 : Int32) (c14 : Int32) (c15 : Int32) (c16 : Int32) (c17 : Int32) (c18 : Int32) (c19 : Int32) (c20 : Int32) (c21 : Int32) (c22 : Int32) (c23 : Int32) (c24 : Int32) (c25 : Int32) (h0 : Heap) (n0 : Nat) (Z0 : n0 ≤ h0.size) (F0 : VA Z h0 ca .char ([c0, c1, c2, c3, c4, c5, c6, c7, c8, c9, c10, c11, c12, c13, c14, c15, c16, c17, c18, c19, c20, c21, c22, c23, c24, c25].map Value.int)) (F1 : VA Z h0 da .byte ([(0 : Int32), (0 : Int32), (0 : Int32), (0 : Int32), (0 : Int32), (0 : Int32), (0 : Int32), (0 : Int32), (0 : Int32), (0 : Int32), (0 : Int32), (0 : Int32), (0 : Int32), (0 : Int32), (0 : Int32), (0 : Int32), (0 : Int32), (0 : Int32), (0 : Int32), (0 : Int32), (0 : Int32), (0 : Int32), (0 : Int32), (0 : Int32), (0 : Int32), (0 : Int32)].map Value.int)) (g_da : n0 ≤ da) (ne_ca_da : ca ≠ da) (hle : ∀ x ∈ [c0, c1, c2, c3, c4, c5, c6, c7, c8, c9, c10, c11, c12, c13, c14, c15, c16, c17, c18, c19, c20, c21, c22, c23, c24, c25], ¬ (255 : Int32) < x) :
    MetFree l (⟨"java/lang/StringUTF16", "compress", "([CI[BII)I"⟩ : MethodName) (head1 (Jvm.Cond.code (⟨"java/lang/StringUTF16", "compress", "([CI[BII)I"⟩ : MethodName) jdk_52_method_21_code 7 (some .int) :: ws) ({ frames := 0, cells := 0, slots := 0, locals := 0 } : Room)) (fun A_ U => A_ = #[(.ref ca), (.int (0 : Int32)), (.ref da), (.int (0 : Int32)), (.int (26 : Int32))] ∧ Z.Warmed39 U.vm ∧ U.heap = h0) (fun _ _ _ _ _ => True) (fun _ U o U' => ∃ v L, o = .returned v ∧ Qcp5 Z ca da c0 c1 c2 c3 c4 c5 c6 c7 c8 c9 c10 c11 c12 c13 c14 c15 c16 c17 c18 c19 c20 c21 c22 c23 c24 c25 h0 n0 v U'.heap L ∧ FrameEnd U o U' L ({ frames := 0, cells := 0, slots := 0, locals := 0 } : Room).cells ({ frames := 0, cells := 0, slots := 0, locals := 0 } : Room).slots) := by
  refine MetFree.of_bodySF (plainFor_of_name pn_3) hisR ?_
  intro p e s m args below meth c s₁ Bd hml0 hP hK
  obtain ⟨rfl, hZ, hh⟩ := hP
  have hx := Bd.exec
  have hby := Bd.bytes
  have hml : c.maxLocals = 7 := hml0
  have hown : s.vm.findClass "java/lang/StringUTF16" = some m.cls := findClass_of_methodNamed Bd.named
  have hnm := (name_of_methodNamed Bd.named Bd.method).1
  have X0 : Stand p l e ({ frames := 0, cells := 0, slots := 0, locals := 0 } : Room) s m #[(.ref ca), (.int (0 : Int32)), (.ref da), (.int (0 : Int32)), (.int (26 : Int32))] below meth c s₁ [] 0 0 := Stand.of_body Bd
  have e0 : s₁.heap = h0 := by rw [← hh, Bd.state]; rfl
  have N0 := Fr.nil n0
  suffices HGO : Go p e below s (Qcp5 Z ca da c0 c1 c2 c3 c4 c5 c6 c7 c8 c9 c10 c11 c12 c13 c14 c15 c16 c17 c18 c19 c20 c21 c22 c23 c24 c25 h0 n0) ({ frames := 0, cells := 0, slots := 0, locals := 0 } : Room).cells ({ frames := 0, cells := 0, slots := 0, locals := 0 } : Room).slots s₁ (mkF m 0 #[.val (.ref ca), .val (.int (0 : Int32)), .val (.ref da), .val (.int (0 : Int32)), .val (.int (26 : Int32)), .unset, .unset] []) from Go.cast (ef_cp5 m ca (0 : Int32) da (0 : Int32) (26 : Int32)) HGO
  have ix1 : 0 ≤ ((0 : Int32)).toInt ∧ ((0 : Int32)).toInt < (([c0, c1, c2, c3, c4, c5, c6, c7, c8, c9, c10, c11, c12, c13, c14, c15, c16, c17, c18, c19, c20, c21, c22, c23, c24, c25]).length : Int) := by constructor <;> first | decide | (simp; done)
  refine Go.step (T' := s₁) (f' := (mkF m 20 #[.val (.ref ca), .val (.int (0 : Int32)), .val (.ref da), .val (.int (0 : Int32)), .val (.int (26 : Int32)), .val (.int (0 : Int32)), .val (.int c0)] [(.int (255 : Int32)), (.int c0)])) (fun t kt => ?_) ?_
  · show Steps p.tables e below (s₁.setTop (mkF m 0 #[.val (.ref ca), .val (.int (0 : Int32)), .val (.ref da), .val (.int (0 : Int32)), .val (.int (26 : Int32)), .unset, .unset] [])) _
    refine XS.iconst X0.here hx rfl (hb hby d20_0) ?_
    show Steps p.tables e below (s₁.setTop (mkF m 1 #[.val (.ref ca), .val (.int (0 : Int32)), .val (.ref da), .val (.int (0 : Int32)), .val (.int (26 : Int32)), .unset, .unset] [(.int (0 : Int32))])) _
    refine XS.istore X0.here hx rfl (hb hby d20_1) rfl (l' := #[.val (.ref ca), .val (.int (0 : Int32)), .val (.ref da), .val (.int (0 : Int32)), .val (.int (26 : Int32)), .val (.int (0 : Int32)), .unset]) rfl ?_
    show Steps p.tables e below (s₁.setTop (mkF m 3 #[.val (.ref ca), .val (.int (0 : Int32)), .val (.ref da), .val (.int (0 : Int32)), .val (.int (26 : Int32)), .val (.int (0 : Int32)), .unset] [])) _
    refine XS.iload X0.here hx rfl (hb hby d20_3) rfl ?_
    show Steps p.tables e below (s₁.setTop (mkF m 5 #[.val (.ref ca), .val (.int (0 : Int32)), .val (.ref da), .val (.int (0 : Int32)), .val (.int (26 : Int32)), .val (.int (0 : Int32)), .unset] [(.int (0 : Int32))])) _
    refine XS.iload X0.here hx rfl (hb hby d20_5) rfl ?_
    show Steps p.tables e below (s₁.setTop (mkF m 7 #[.val (.ref ca), .val (.int (0 : Int32)), .val (.ref da), .val (.int (0 : Int32)), .val (.int (26 : Int32)), .val (.int (0 : Int32)), .unset] [(.int (26 : Int32)), (.int (0 : Int32))])) _
    refine XS.icmpNo X0.here hx rfl (hb hby d20_7) rfl (tlt (by decide : ((0 : Int32) < (26 : Int32)))).2.1 ?_
    show Steps p.tables e below (s₁.setTop (mkF m 10 #[.val (.ref ca), .val (.int (0 : Int32)), .val (.ref da), .val (.int (0 : Int32)), .val (.int (26 : Int32)), .val (.int (0 : Int32)), .unset] [])) _
    refine XS.aloadN X0.here hx rfl (hb hby d20_10) rfl rfl ?_
    show Steps p.tables e below (s₁.setTop (mkF m 11 #[.val (.ref ca), .val (.int (0 : Int32)), .val (.ref da), .val (.int (0 : Int32)), .val (.int (26 : Int32)), .val (.int (0 : Int32)), .unset] [(.ref ca)])) _
    refine XS.iloadN X0.here hx rfl (hb hby d20_11) rfl ?_
    show Steps p.tables e below (s₁.setTop (mkF m 12 #[.val (.ref ca), .val (.int (0 : Int32)), .val (.ref da), .val (.int (0 : Int32)), .val (.int (26 : Int32)), .val (.int (0 : Int32)), .unset] [(.int (0 : Int32)), (.ref ca)])) _
    refine ldC X0 hx hZ e0 F0 ix1.1 ix1.2 (g := (mkF m 12 #[.val (.ref ca), .val (.int (0 : Int32)), .val (.ref da), .val (.int (0 : Int32)), .val (.int (26 : Int32)), .val (.int (0 : Int32)), .unset] [(.int (0 : Int32)), (.ref ca)])) rfl rfl (hb hby d20_12) _ ?_
    show Steps p.tables e below (s₁.setTop (mkF m 13 #[.val (.ref ca), .val (.int (0 : Int32)), .val (.ref da), .val (.int (0 : Int32)), .val (.int (26 : Int32)), .val (.int (0 : Int32)), .unset] [(.int c0)])) _
    refine XS.istore X0.here hx rfl (hb hby d20_13) rfl (l' := #[.val (.ref ca), .val (.int (0 : Int32)), .val (.ref da), .val (.int (0 : Int32)), .val (.int (26 : Int32)), .val (.int (0 : Int32)), .val (.int c0)]) rfl ?_
    show Steps p.tables e below (s₁.setTop (mkF m 15 #[.val (.ref ca), .val (.int (0 : Int32)), .val (.ref da), .val (.int (0 : Int32)), .val (.int (26 : Int32)), .val (.int (0 : Int32)), .val (.int c0)] [])) _
    refine XS.iload X0.here hx rfl (hb hby d20_15) rfl ?_
    show Steps p.tables e below (s₁.setTop (mkF m 17 #[.val (.ref ca), .val (.int (0 : Int32)), .val (.ref da), .val (.int (0 : Int32)), .val (.int (26 : Int32)), .val (.int (0 : Int32)), .val (.int c0)] [(.int c0)])) _
    refine XS.sipush X0.here hx rfl (hb hby d20_17) ?_
    exact kt
  have hd2 : ¬ ((255 : Int32) < c0) := hle _ (by simp)
  have ix3 : 0 ≤ ((0 : Int32)).toInt ∧ ((0 : Int32)).toInt < (([(0 : Int32), (0 : Int32), (0 : Int32), (0 : Int32), (0 : Int32), (0 : Int32), (0 : Int32), (0 : Int32), (0 : Int32), (0 : Int32), (0 : Int32), (0 : Int32), (0 : Int32), (0 : Int32), (0 : Int32), (0 : Int32), (0 : Int32), (0 : Int32), (0 : Int32), (0 : Int32), (0 : Int32), (0 : Int32), (0 : Int32), (0 : Int32), (0 : Int32), (0 : Int32)]).length : Int) := by constructor <;> first | decide | (simp; done)
  obtain ⟨T4, h4, X4, e4, W4, V4, st4⟩ := putB X0 hx hZ e0 F1 ix3.1 ix3.2 (g := (mkF m 31 #[.val (.ref ca), .val (.int (0 : Int32)), .val (.ref da), .val (.int (0 : Int32)), .val (.int (26 : Int32)), .val (.int (0 : Int32)), .val (.int c0)] [(.int (c0.toInt8.toInt32)), (.int (0 : Int32)), (.ref da)])) rfl rfl (hb hby d20_31)
  have G5 : VA Z h4 ca .char ([c0, c1, c2, c3, c4, c5, c6, c7, c8, c9, c10, c11, c12, c13, c14, c15, c16, c17, c18, c19, c20, c21, c22, c23, c24, c25].map Value.int) := F0.other W4 ne_ca_da
  have G6 : VA Z h4 da .byte ([(nar .byte (c0.toInt8.toInt32)), (0 : Int32), (0 : Int32), (0 : Int32), (0 : Int32), (0 : Int32), (0 : Int32), (0 : Int32), (0 : Int32), (0 : Int32), (0 : Int32), (0 : Int32), (0 : Int32), (0 : Int32), (0 : Int32), (0 : Int32), (0 : Int32), (0 : Int32), (0 : Int32), (0 : Int32), (0 : Int32), (0 : Int32), (0 : Int32), (0 : Int32), (0 : Int32), (0 : Int32)].map Value.int) := V4
  have N4 := Fr.snoc X4 N0 g_da
  have K4 : Keep h0 h4 [da] := Keep.wr (Keep.refl h0 [da]) W4 (Or.inl (List.mem_of_getElem? (i := 0) rfl))
  have Z4 : n0 ≤ h4.size := Nat.le_trans Z0 K4.1
  have ix7 : 0 ≤ ((1 : Int32)).toInt ∧ ((1 : Int32)).toInt < (([c0, c1, c2, c3, c4, c5, c6, c7, c8, c9, c10, c11, c12, c13, c14, c15, c16, c17, c18, c19, c20, c21, c22, c23, c24, c25]).length : Int) := by constructor <;> first | decide | (simp; done)
  refine Go.step (T' := T4) (f' := (mkF m 20 #[.val (.ref ca), .val (.int (1 : Int32)), .val (.ref da), .val (.int (1 : Int32)), .val (.int (26 : Int32)), .val (.int (1 : Int32)), .val (.int c1)] [(.int (255 : Int32)), (.int c1)])) (fun t kt => ?_) ?_
  · show Steps p.tables e below (s₁.setTop (mkF m 20 #[.val (.ref ca), .val (.int (0 : Int32)), .val (.ref da), .val (.int (0 : Int32)), .val (.int (26 : Int32)), .val (.int (0 : Int32)), .val (.int c0)] [(.int (255 : Int32)), (.int c0)])) _
    refine XS.icmpYes X0.here hx rfl (pc0 := 20) (pc' := 26) rfl (hb hby d20_20) rfl (flt hd2).2.2.2 (by decide) (by decide) ?_
    show Steps p.tables e below (s₁.setTop (mkF m 26 #[.val (.ref ca), .val (.int (0 : Int32)), .val (.ref da), .val (.int (0 : Int32)), .val (.int (26 : Int32)), .val (.int (0 : Int32)), .val (.int c0)] [])) _
    refine XS.aloadN X0.here hx rfl (hb hby d20_26) rfl rfl ?_
    show Steps p.tables e below (s₁.setTop (mkF m 27 #[.val (.ref ca), .val (.int (0 : Int32)), .val (.ref da), .val (.int (0 : Int32)), .val (.int (26 : Int32)), .val (.int (0 : Int32)), .val (.int c0)] [(.ref da)])) _
    refine XS.iloadN X0.here hx rfl (hb hby d20_27) rfl ?_
    show Steps p.tables e below (s₁.setTop (mkF m 28 #[.val (.ref ca), .val (.int (0 : Int32)), .val (.ref da), .val (.int (0 : Int32)), .val (.int (26 : Int32)), .val (.int (0 : Int32)), .val (.int c0)] [(.int (0 : Int32)), (.ref da)])) _
    refine XS.iload X0.here hx rfl (hb hby d20_28) rfl ?_
    show Steps p.tables e below (s₁.setTop (mkF m 30 #[.val (.ref ca), .val (.int (0 : Int32)), .val (.ref da), .val (.int (0 : Int32)), .val (.int (26 : Int32)), .val (.int (0 : Int32)), .val (.int c0)] [(.int c0), (.int (0 : Int32)), (.ref da)])) _
    refine XS.i2b X0.here hx rfl (hb hby d20_30) rfl ?_
    show Steps p.tables e below (s₁.setTop (mkF m 31 #[.val (.ref ca), .val (.int (0 : Int32)), .val (.ref da), .val (.int (0 : Int32)), .val (.int (26 : Int32)), .val (.int (0 : Int32)), .val (.int c0)] [(.int (c0.toInt8.toInt32)), (.int (0 : Int32)), (.ref da)])) _
    refine st4 _ ?_
    show Steps p.tables e below (T4.setTop (mkF m 32 #[.val (.ref ca), .val (.int (0 : Int32)), .val (.ref da), .val (.int (0 : Int32)), .val (.int (26 : Int32)), .val (.int (0 : Int32)), .val (.int c0)] [])) _
    refine XS.iinc X4.here hx rfl (hb hby d20_32) rfl (l' := #[.val (.ref ca), .val (.int (1 : Int32)), .val (.ref da), .val (.int (0 : Int32)), .val (.int (26 : Int32)), .val (.int (0 : Int32)), .val (.int c0)]) rfl ?_
    show Steps p.tables e below (T4.setTop (mkF m 35 #[.val (.ref ca), .val (.int (1 : Int32)), .val (.ref da), .val (.int (0 : Int32)), .val (.int (26 : Int32)), .val (.int (0 : Int32)), .val (.int c0)] [])) _
    refine XS.iinc X4.here hx rfl (hb hby d20_35) rfl (l' := #[.val (.ref ca), .val (.int (1 : Int32)), .val (.ref da), .val (.int (1 : Int32)), .val (.int (26 : Int32)), .val (.int (0 : Int32)), .val (.int c0)]) rfl ?_
    show Steps p.tables e below (T4.setTop (mkF m 38 #[.val (.ref ca), .val (.int (1 : Int32)), .val (.ref da), .val (.int (1 : Int32)), .val (.int (26 : Int32)), .val (.int (0 : Int32)), .val (.int c0)] [])) _
    refine XS.iinc X4.here hx rfl (hb hby d20_38) rfl (l' := #[.val (.ref ca), .val (.int (1 : Int32)), .val (.ref da), .val (.int (1 : Int32)), .val (.int (26 : Int32)), .val (.int (1 : Int32)), .val (.int c0)]) rfl ?_
    show Steps p.tables e below (T4.setTop (mkF m 41 #[.val (.ref ca), .val (.int (1 : Int32)), .val (.ref da), .val (.int (1 : Int32)), .val (.int (26 : Int32)), .val (.int (1 : Int32)), .val (.int c0)] [])) _
    refine XS.goto X4.here hx rfl (pc0 := 41) (pc' := 3) rfl (hb hby d20_41) (by decide) (by decide) ?_
    show Steps p.tables e below (T4.setTop (mkF m 3 #[.val (.ref ca), .val (.int (1 : Int32)), .val (.ref da), .val (.int (1 : Int32)), .val (.int (26 : Int32)), .val (.int (1 : Int32)), .val (.int c0)] [])) _
    refine XS.iload X4.here hx rfl (hb hby d20_3) rfl ?_
    show Steps p.tables e below (T4.setTop (mkF m 5 #[.val (.ref ca), .val (.int (1 : Int32)), .val (.ref da), .val (.int (1 : Int32)), .val (.int (26 : Int32)), .val (.int (1 : Int32)), .val (.int c0)] [(.int (1 : Int32))])) _
    refine XS.iload X4.here hx rfl (hb hby d20_5) rfl ?_
    show Steps p.tables e below (T4.setTop (mkF m 7 #[.val (.ref ca), .val (.int (1 : Int32)), .val (.ref da), .val (.int (1 : Int32)), .val (.int (26 : Int32)), .val (.int (1 : Int32)), .val (.int c0)] [(.int (26 : Int32)), (.int (1 : Int32))])) _
    refine XS.icmpNo X4.here hx rfl (hb hby d20_7) rfl (tlt (by decide : ((1 : Int32) < (26 : Int32)))).2.1 ?_
    show Steps p.tables e below (T4.setTop (mkF m 10 #[.val (.ref ca), .val (.int (1 : Int32)), .val (.ref da), .val (.int (1 : Int32)), .val (.int (26 : Int32)), .val (.int (1 : Int32)), .val (.int c0)] [])) _
    refine XS.aloadN X4.here hx rfl (hb hby d20_10) rfl rfl ?_
    show Steps p.tables e below (T4.setTop (mkF m 11 #[.val (.ref ca), .val (.int (1 : Int32)), .val (.ref da), .val (.int (1 : Int32)), .val (.int (26 : Int32)), .val (.int (1 : Int32)), .val (.int c0)] [(.ref ca)])) _
    refine XS.iloadN X4.here hx rfl (hb hby d20_11) rfl ?_
    show Steps p.tables e below (T4.setTop (mkF m 12 #[.val (.ref ca), .val (.int (1 : Int32)), .val (.ref da), .val (.int (1 : Int32)), .val (.int (26 : Int32)), .val (.int (1 : Int32)), .val (.int c0)] [(.int (1 : Int32)), (.ref ca)])) _
    refine ldC X4 hx hZ e4 G5 ix7.1 ix7.2 (g := (mkF m 12 #[.val (.ref ca), .val (.int (1 : Int32)), .val (.ref da), .val (.int (1 : Int32)), .val (.int (26 : Int32)), .val (.int (1 : Int32)), .val (.int c0)] [(.int (1 : Int32)), (.ref ca)])) rfl rfl (hb hby d20_12) _ ?_
    show Steps p.tables e below (T4.setTop (mkF m 13 #[.val (.ref ca), .val (.int (1 : Int32)), .val (.ref da), .val (.int (1 : Int32)), .val (.int (26 : Int32)), .val (.int (1 : Int32)), .val (.int c0)] [(.int c1)])) _
    refine XS.istore X4.here hx rfl (hb hby d20_13) rfl (l' := #[.val (.ref ca), .val (.int (1 : Int32)), .val (.ref da), .val (.int (1 : Int32)), .val (.int (26 : Int32)), .val (.int (1 : Int32)), .val (.int c1)]) rfl ?_
    show Steps p.tables e below (T4.setTop (mkF m 15 #[.val (.ref ca), .val (.int (1 : Int32)), .val (.ref da), .val (.int (1 : Int32)), .val (.int (26 : Int32)), .val (.int (1 : Int32)), .val (.int c1)] [])) _
    refine XS.iload X4.here hx rfl (hb hby d20_15) rfl ?_
    show Steps p.tables e below (T4.setTop (mkF m 17 #[.val (.ref ca), .val (.int (1 : Int32)), .val (.ref da), .val (.int (1 : Int32)), .val (.int (26 : Int32)), .val (.int (1 : Int32)), .val (.int c1)] [(.int c1)])) _
    refine XS.sipush X4.here hx rfl (hb hby d20_17) ?_
    exact kt
  have hd8 : ¬ ((255 : Int32) < c1) := hle _ (by simp)
  have ix9 : 0 ≤ ((1 : Int32)).toInt ∧ ((1 : Int32)).toInt < (([(nar .byte (c0.toInt8.toInt32)), (0 : Int32), (0 : Int32), (0 : Int32), (0 : Int32), (0 : Int32), (0 : Int32), (0 : Int32), (0 : Int32), (0 : Int32), (0 : Int32), (0 : Int32), (0 : Int32), (0 : Int32), (0 : Int32), (0 : Int32), (0 : Int32), (0 : Int32), (0 : Int32), (0 : Int32), (0 : Int32), (0 : Int32), (0 : Int32), (0 : Int32), (0 : Int32), (0 : Int32)]).length : Int) := by constructor <;> first | decide | (simp; done)
  obtain ⟨T10, h10, X10, e10, W10, V10, st10⟩ := putB X4 hx hZ e4 G6 ix9.1 ix9.2 (g := (mkF m 31 #[.val (.ref ca), .val (.int (1 : Int32)), .val (.ref da), .val (.int (1 : Int32)), .val (.int (26 : Int32)), .val (.int (1 : Int32)), .val (.int c1)] [(.int (c1.toInt8.toInt32)), (.int (1 : Int32)), (.ref da)])) rfl rfl (hb hby d20_31)
  have G11 : VA Z h10 ca .char ([c0, c1, c2, c3, c4, c5, c6, c7, c8, c9, c10, c11, c12, c13, c14, c15, c16, c17, c18, c19, c20, c21, c22, c23, c24, c25].map Value.int) := G5.other W10 ne_ca_da
  have G12 : VA Z h10 da .byte ([(nar .byte (c0.toInt8.toInt32)), (nar .byte (c1.toInt8.toInt32)), (0 : Int32), (0 : Int32), (0 : Int32), (0 : Int32), (0 : Int32), (0 : Int32), (0 : Int32), (0 : Int32), (0 : Int32), (0 : Int32), (0 : Int32), (0 : Int32), (0 : Int32), (0 : Int32), (0 : Int32), (0 : Int32), (0 : Int32), (0 : Int32), (0 : Int32), (0 : Int32), (0 : Int32), (0 : Int32), (0 : Int32), (0 : Int32)].map Value.int) := V10
  have N10 := Fr.snoc X10 N4 g_da
  have K10 : Keep h0 h10 [da] := Keep.wr K4 W10 (Or.inl (List.mem_of_getElem? (i := 0) rfl))
  have Z10 : n0 ≤ h10.size := Nat.le_trans Z0 K10.1
  have ix13 : 0 ≤ ((2 : Int32)).toInt ∧ ((2 : Int32)).toInt < (([c0, c1, c2, c3, c4, c5, c6, c7, c8, c9, c10, c11, c12, c13, c14, c15, c16, c17, c18, c19, c20, c21, c22, c23, c24, c25]).length : Int) := by constructor <;> first | decide | (simp; done)
  refine Go.step (T' := T10) (f' := (mkF m 20 #[.val (.ref ca), .val (.int (2 : Int32)), .val (.ref da), .val (.int (2 : Int32)), .val (.int (26 : Int32)), .val (.int (2 : Int32)), .val (.int c2)] [(.int (255 : Int32)), (.int c2)])) (fun t kt => ?_) ?_
  · show Steps p.tables e below (T4.setTop (mkF m 20 #[.val (.ref ca), .val (.int (1 : Int32)), .val (.ref da), .val (.int (1 : Int32)), .val (.int (26 : Int32)), .val (.int (1 : Int32)), .val (.int c1)] [(.int (255 : Int32)), (.int c1)])) _
    refine XS.icmpYes X4.here hx rfl (pc0 := 20) (pc' := 26) rfl (hb hby d20_20) rfl (flt hd8).2.2.2 (by decide) (by decide) ?_
    show Steps p.tables e below (T4.setTop (mkF m 26 #[.val (.ref ca), .val (.int (1 : Int32)), .val (.ref da), .val (.int (1 : Int32)), .val (.int (26 : Int32)), .val (.int (1 : Int32)), .val (.int c1)] [])) _
    refine XS.aloadN X4.here hx rfl (hb hby d20_26) rfl rfl ?_
    show Steps p.tables e below (T4.setTop (mkF m 27 #[.val (.ref ca), .val (.int (1 : Int32)), .val (.ref da), .val (.int (1 : Int32)), .val (.int (26 : Int32)), .val (.int (1 : Int32)), .val (.int c1)] [(.ref da)])) _
    refine XS.iloadN X4.here hx rfl (hb hby d20_27) rfl ?_
    show Steps p.tables e below (T4.setTop (mkF m 28 #[.val (.ref ca), .val (.int (1 : Int32)), .val (.ref da), .val (.int (1 : Int32)), .val (.int (26 : Int32)), .val (.int (1 : Int32)), .val (.int c1)] [(.int (1 : Int32)), (.ref da)])) _
    refine XS.iload X4.here hx rfl (hb hby d20_28) rfl ?_
    show Steps p.tables e below (T4.setTop (mkF m 30 #[.val (.ref ca), .val (.int (1 : Int32)), .val (.ref da), .val (.int (1 : Int32)), .val (.int (26 : Int32)), .val (.int (1 : Int32)), .val (.int c1)] [(.int c1), (.int (1 : Int32)), (.ref da)])) _
    refine XS.i2b X4.here hx rfl (hb hby d20_30) rfl ?_
    show Steps p.tables e below (T4.setTop (mkF m 31 #[.val (.ref ca), .val (.int (1 : Int32)), .val (.ref da), .val (.int (1 : Int32)), .val (.int (26 : Int32)), .val (.int (1 : Int32)), .val (.int c1)] [(.int (c1.toInt8.toInt32)), (.int (1 : Int32)), (.ref da)])) _
    refine st10 _ ?_
    show Steps p.tables e below (T10.setTop (mkF m 32 #[.val (.ref ca), .val (.int (1 : Int32)), .val (.ref da), .val (.int (1 : Int32)), .val (.int (26 : Int32)), .val (.int (1 : Int32)), .val (.int c1)] [])) _
    refine XS.iinc X10.here hx rfl (hb hby d20_32) rfl (l' := #[.val (.ref ca), .val (.int (2 : Int32)), .val (.ref da), .val (.int (1 : Int32)), .val (.int (26 : Int32)), .val (.int (1 : Int32)), .val (.int c1)]) rfl ?_
    show Steps p.tables e below (T10.setTop (mkF m 35 #[.val (.ref ca), .val (.int (2 : Int32)), .val (.ref da), .val (.int (1 : Int32)), .val (.int (26 : Int32)), .val (.int (1 : Int32)), .val (.int c1)] [])) _
    refine XS.iinc X10.here hx rfl (hb hby d20_35) rfl (l' := #[.val (.ref ca), .val (.int (2 : Int32)), .val (.ref da), .val (.int (2 : Int32)), .val (.int (26 : Int32)), .val (.int (1 : Int32)), .val (.int c1)]) rfl ?_
    show Steps p.tables e below (T10.setTop (mkF m 38 #[.val (.ref ca), .val (.int (2 : Int32)), .val (.ref da), .val (.int (2 : Int32)), .val (.int (26 : Int32)), .val (.int (1 : Int32)), .val (.int c1)] [])) _
    refine XS.iinc X10.here hx rfl (hb hby d20_38) rfl (l' := #[.val (.ref ca), .val (.int (2 : Int32)), .val (.ref da), .val (.int (2 : Int32)), .val (.int (26 : Int32)), .val (.int (2 : Int32)), .val (.int c1)]) rfl ?_
    show Steps p.tables e below (T10.setTop (mkF m 41 #[.val (.ref ca), .val (.int (2 : Int32)), .val (.ref da), .val (.int (2 : Int32)), .val (.int (26 : Int32)), .val (.int (2 : Int32)), .val (.int c1)] [])) _
    refine XS.goto X10.here hx rfl (pc0 := 41) (pc' := 3) rfl (hb hby d20_41) (by decide) (by decide) ?_
    show Steps p.tables e below (T10.setTop (mkF m 3 #[.val (.ref ca), .val (.int (2 : Int32)), .val (.ref da), .val (.int (2 : Int32)), .val (.int (26 : Int32)), .val (.int (2 : Int32)), .val (.int c1)] [])) _
    refine XS.iload X10.here hx rfl (hb hby d20_3) rfl ?_
    show Steps p.tables e below (T10.setTop (mkF m 5 #[.val (.ref ca), .val (.int (2 : Int32)), .val (.ref da), .val (.int (2 : Int32)), .val (.int (26 : Int32)), .val (.int (2 : Int32)), .val (.int c1)] [(.int (2 : Int32))])) _
    refine XS.iload X10.here hx rfl (hb hby d20_5) rfl ?_
    show Steps p.tables e below (T10.setTop (mkF m 7 #[.val (.ref ca), .val (.int (2 : Int32)), .val (.ref da), .val (.int (2 : Int32)), .val (.int (26 : Int32)), .val (.int (2 : Int32)), .val (.int c1)] [(.int (26 : Int32)), (.int (2 : Int32))])) _
    refine XS.icmpNo X10.here hx rfl (hb hby d20_7) rfl (tlt (by decide : ((2 : Int32) < (26 : Int32)))).2.1 ?_
    show Steps p.tables e below (T10.setTop (mkF m 10 #[.val (.ref ca), .val (.int (2 : Int32)), .val (.ref da), .val (.int (2 : Int32)), .val (.int (26 : Int32)), .val (.int (2 : Int32)), .val (.int c1)] [])) _
    refine XS.aloadN X10.here hx rfl (hb hby d20_10) rfl rfl ?_
    show Steps p.tables e below (T10.setTop (mkF m 11 #[.val (.ref ca), .val (.int (2 : Int32)), .val (.ref da), .val (.int (2 : Int32)), .val (.int (26 : Int32)), .val (.int (2 : Int32)), .val (.int c1)] [(.ref ca)])) _
    refine XS.iloadN X10.here hx rfl (hb hby d20_11) rfl ?_
    show Steps p.tables e below (T10.setTop (mkF m 12 #[.val (.ref ca), .val (.int (2 : Int32)), .val (.ref da), .val (.int (2 : Int32)), .val (.int (26 : Int32)), .val (.int (2 : Int32)), .val (.int c1)] [(.int (2 : Int32)), (.ref ca)])) _
    refine ldC X10 hx hZ e10 G11 ix13.1 ix13.2 (g := (mkF m 12 #[.val (.ref ca), .val (.int (2 : Int32)), .val (.ref da), .val (.int (2 : Int32)), .val (.int (26 : Int32)), .val (.int (2 : Int32)), .val (.int c1)] [(.int (2 : Int32)), (.ref ca)])) rfl rfl (hb hby d20_12) _ ?_
    show Steps p.tables e below (T10.setTop (mkF m 13 #[.val (.ref ca), .val (.int (2 : Int32)), .val (.ref da), .val (.int (2 : Int32)), .val (.int (26 : Int32)), .val (.int (2 : Int32)), .val (.int c1)] [(.int c2)])) _
    refine XS.istore X10.here hx rfl (hb hby d20_13) rfl (l' := #[.val (.ref ca), .val (.int (2 : Int32)), .val (.ref da), .val (.int (2 : Int32)), .val (.int (26 : Int32)), .val (.int (2 : Int32)), .val (.int c2)]) rfl ?_
    show Steps p.tables e below (T10.setTop (mkF m 15 #[.val (.ref ca), .val (.int (2 : Int32)), .val (.ref da), .val (.int (2 : Int32)), .val (.int (26 : Int32)), .val (.int (2 : Int32)), .val (.int c2)] [])) _
    refine XS.iload X10.here hx rfl (hb hby d20_15) rfl ?_
    show Steps p.tables e below (T10.setTop (mkF m 17 #[.val (.ref ca), .val (.int (2 : Int32)), .val (.ref da), .val (.int (2 : Int32)), .val (.int (26 : Int32)), .val (.int (2 : Int32)), .val (.int c2)] [(.int c2)])) _
    refine XS.sipush X10.here hx rfl (hb hby d20_17) ?_
    exact kt
  have hd14 : ¬ ((255 : Int32) < c2) := hle _ (by simp)
  have ix15 : 0 ≤ ((2 : Int32)).toInt ∧ ((2 : Int32)).toInt < (([(nar .byte (c0.toInt8.toInt32)), (nar .byte (c1.toInt8.toInt32)), (0 : Int32), (0 : Int32), (0 : Int32), (0 : Int32), (0 : Int32), (0 : Int32), (0 : Int32), (0 : Int32), (0 : Int32), (0 : Int32), (0 : Int32), (0 : Int32), (0 : Int32), (0 : Int32), (0 : Int32), (0 : Int32), (0 : Int32), (0 : Int32), (0 : Int32), (0 : Int32), (0 : Int32), (0 : Int32), (0 : Int32), (0 : Int32)]).length : Int) := by constructor <;> first | decide | (simp; done)
  obtain ⟨T16, h16, X16, e16, W16, V16, st16⟩ := putB X10 hx hZ e10 G12 ix15.1 ix15.2 (g := (mkF m 31 #[.val (.ref ca), .val (.int (2 : Int32)), .val (.ref da), .val (.int (2 : Int32)), .val (.int (26 : Int32)), .val (.int (2 : Int32)), .val (.int c2)] [(.int (c2.toInt8.toInt32)), (.int (2 : Int32)), (.ref da)])) rfl rfl (hb hby d20_31)
  have G17 : VA Z h16 ca .char ([c0, c1, c2, c3, c4, c5, c6, c7, c8, c9, c10, c11, c12, c13, c14, c15, c16, c17, c18, c19, c20, c21, c22, c23, c24, c25].map Value.int) := G11.other W16 ne_ca_da
  have G18 : VA Z h16 da .byte ([(nar .byte (c0.toInt8.toInt32)), (nar .byte (c1.toInt8.toInt32)), (nar .byte (c2.toInt8.toInt32)), (0 : Int32), (0 : Int32), (0 : Int32), (0 : Int32), (0 : Int32), (0 : Int32), (0 : Int32), (0 : Int32), (0 : Int32), (0 : Int32), (0 : Int32), (0 : Int32), (0 : Int32), (0 : Int32), (0 : Int32), (0 : Int32), (0 : Int32), (0 : Int32), (0 : Int32), (0 : Int32), (0 : Int32), (0 : Int32), (0 : Int32)].map Value.int) := V16
  have N16 := Fr.snoc X16 N10 g_da
  have K16 : Keep h0 h16 [da] := Keep.wr K10 W16 (Or.inl (List.mem_of_getElem? (i := 0) rfl))
  have Z16 : n0 ≤ h16.size := Nat.le_trans Z0 K16.1
  have ix19 : 0 ≤ ((3 : Int32)).toInt ∧ ((3 : Int32)).toInt < (([c0, c1, c2, c3, c4, c5, c6, c7, c8, c9, c10, c11, c12, c13, c14, c15, c16, c17, c18, c19, c20, c21, c22, c23, c24, c25]).length : Int) := by constructor <;> first | decide | (simp; done)
  refine Go.step (T' := T16) (f' := (mkF m 20 #[.val (.ref ca), .val (.int (3 : Int32)), .val (.ref da), .val (.int (3 : Int32)), .val (.int (26 : Int32)), .val (.int (3 : Int32)), .val (.int c3)] [(.int (255 : Int32)), (.int c3)])) (fun t kt => ?_) ?_
  · show Steps p.tables e below (T10.setTop (mkF m 20 #[.val (.ref ca), .val (.int (2 : Int32)), .val (.ref da), .val (.int (2 : Int32)), .val (.int (26 : Int32)), .val (.int (2 : Int32)), .val (.int c2)] [(.int (255 : Int32)), (.int c2)])) _
    refine XS.icmpYes X10.here hx rfl (pc0 := 20) (pc' := 26) rfl (hb hby d20_20) rfl (flt hd14).2.2.2 (by decide) (by decide) ?_
    show Steps p.tables e below (T10.setTop (mkF m 26 #[.val (.ref ca), .val (.int (2 : Int32)), .val (.ref da), .val (.int (2 : Int32)), .val (.int (26 : Int32)), .val (.int (2 : Int32)), .val (.int c2)] [])) _
    refine XS.aloadN X10.here hx rfl (hb hby d20_26) rfl rfl ?_
    show Steps p.tables e below (T10.setTop (mkF m 27 #[.val (.ref ca), .val (.int (2 : Int32)), .val (.ref da), .val (.int (2 : Int32)), .val (.int (26 : Int32)), .val (.int (2 : Int32)), .val (.int c2)] [(.ref da)])) _
    refine XS.iloadN X10.here hx rfl (hb hby d20_27) rfl ?_
    show Steps p.tables e below (T10.setTop (mkF m 28 #[.val (.ref ca), .val (.int (2 : Int32)), .val (.ref da), .val (.int (2 : Int32)), .val (.int (26 : Int32)), .val (.int (2 : Int32)), .val (.int c2)] [(.int (2 : Int32)), (.ref da)])) _
    refine XS.iload X10.here hx rfl (hb hby d20_28) rfl ?_
    show Steps p.tables e below (T10.setTop (mkF m 30 #[.val (.ref ca), .val (.int (2 : Int32)), .val (.ref da), .val (.int (2 : Int32)), .val (.int (26 : Int32)), .val (.int (2 : Int32)), .val (.int c2)] [(.int c2), (.int (2 : Int32)), (.ref da)])) _
    refine XS.i2b X10.here hx rfl (hb hby d20_30) rfl ?_
    show Steps p.tables e below (T10.setTop (mkF m 31 #[.val (.ref ca), .val (.int (2 : Int32)), .val (.ref da), .val (.int (2 : Int32)), .val (.int (26 : Int32)), .val (.int (2 : Int32)), .val (.int c2)] [(.int (c2.toInt8.toInt32)), (.int (2 : Int32)), (.ref da)])) _
    refine st16 _ ?_
    show Steps p.tables e below (T16.setTop (mkF m 32 #[.val (.ref ca), .val (.int (2 : Int32)), .val (.ref da), .val (.int (2 : Int32)), .val (.int (26 : Int32)), .val (.int (2 : Int32)), .val (.int c2)] [])) _
    refine XS.iinc X16.here hx rfl (hb hby d20_32) rfl (l' := #[.val (.ref ca), .val (.int (3 : Int32)), .val (.ref da), .val (.int (2 : Int32)), .val (.int (26 : Int32)), .val (.int (2 : Int32)), .val (.int c2)]) rfl ?_
    show Steps p.tables e below (T16.setTop (mkF m 35 #[.val (.ref ca), .val (.int (3 : Int32)), .val (.ref da), .val (.int (2 : Int32)), .val (.int (26 : Int32)), .val (.int (2 : Int32)), .val (.int c2)] [])) _
    refine XS.iinc X16.here hx rfl (hb hby d20_35) rfl (l' := #[.val (.ref ca), .val (.int (3 : Int32)), .val (.ref da), .val (.int (3 : Int32)), .val (.int (26 : Int32)), .val (.int (2 : Int32)), .val (.int c2)]) rfl ?_
    show Steps p.tables e below (T16.setTop (mkF m 38 #[.val (.ref ca), .val (.int (3 : Int32)), .val (.ref da), .val (.int (3 : Int32)), .val (.int (26 : Int32)), .val (.int (2 : Int32)), .val (.int c2)] [])) _
    refine XS.iinc X16.here hx rfl (hb hby d20_38) rfl (l' := #[.val (.ref ca), .val (.int (3 : Int32)), .val (.ref da), .val (.int (3 : Int32)), .val (.int (26 : Int32)), .val (.int (3 : Int32)), .val (.int c2)]) rfl ?_
    show Steps p.tables e below (T16.setTop (mkF m 41 #[.val (.ref ca), .val (.int (3 : Int32)), .val (.ref da), .val (.int (3 : Int32)), .val (.int (26 : Int32)), .val (.int (3 : Int32)), .val (.int c2)] [])) _
    refine XS.goto X16.here hx rfl (pc0 := 41) (pc' := 3) rfl (hb hby d20_41) (by decide) (by decide) ?_
    show Steps p.tables e below (T16.setTop (mkF m 3 #[.val (.ref ca), .val (.int (3 : Int32)), .val (.ref da), .val (.int (3 : Int32)), .val (.int (26 : Int32)), .val (.int (3 : Int32)), .val (.int c2)] [])) _
    refine XS.iload X16.here hx rfl (hb hby d20_3) rfl ?_
    show Steps p.tables e below (T16.setTop (mkF m 5 #[.val (.ref ca), .val (.int (3 : Int32)), .val (.ref da), .val (.int (3 : Int32)), .val (.int (26 : Int32)), .val (.int (3 : Int32)), .val (.int c2)] [(.int (3 : Int32))])) _
    refine XS.iload X16.here hx rfl (hb hby d20_5) rfl ?_
    show Steps p.tables e below (T16.setTop (mkF m 7 #[.val (.ref ca), .val (.int (3 : Int32)), .val (.ref da), .val (.int (3 : Int32)), .val (.int (26 : Int32)), .val (.int (3 : Int32)), .val (.int c2)] [(.int (26 : Int32)), (.int (3 : Int32))])) _
    refine XS.icmpNo X16.here hx rfl (hb hby d20_7) rfl (tlt (by decide : ((3 : Int32) < (26 : Int32)))).2.1 ?_
    show Steps p.tables e below (T16.setTop (mkF m 10 #[.val (.ref ca), .val (.int (3 : Int32)), .val (.ref da), .val (.int (3 : Int32)), .val (.int (26 : Int32)), .val (.int (3 : Int32)), .val (.int c2)] [])) _
    refine XS.aloadN X16.here hx rfl (hb hby d20_10) rfl rfl ?_
    show Steps p.tables e below (T16.setTop (mkF m 11 #[.val (.ref ca), .val (.int (3 : Int32)), .val (.ref da), .val (.int (3 : Int32)), .val (.int (26 : Int32)), .val (.int (3 : Int32)), .val (.int c2)] [(.ref ca)])) _
    refine XS.iloadN X16.here hx rfl (hb hby d20_11) rfl ?_
    show Steps p.tables e below (T16.setTop (mkF m 12 #[.val (.ref ca), .val (.int (3 : Int32)), .val (.ref da), .val (.int (3 : Int32)), .val (.int (26 : Int32)), .val (.int (3 : Int32)), .val (.int c2)] [(.int (3 : Int32)), (.ref ca)])) _
    refine ldC X16 hx hZ e16 G17 ix19.1 ix19.2 (g := (mkF m 12 #[.val (.ref ca), .val (.int (3 : Int32)), .val (.ref da), .val (.int (3 : Int32)), .val (.int (26 : Int32)), .val (.int (3 : Int32)), .val (.int c2)] [(.int (3 : Int32)), (.ref ca)])) rfl rfl (hb hby d20_12) _ ?_
    show Steps p.tables e below (T16.setTop (mkF m 13 #[.val (.ref ca), .val (.int (3 : Int32)), .val (.ref da), .val (.int (3 : Int32)), .val (.int (26 : Int32)), .val (.int (3 : Int32)), .val (.int c2)] [(.int c3)])) _
    refine XS.istore X16.here hx rfl (hb hby d20_13) rfl (l' := #[.val (.ref ca), .val (.int (3 : Int32)), .val (.ref da), .val (.int (3 : Int32)), .val (.int (26 : Int32)), .val (.int (3 : Int32)), .val (.int c3)]) rfl ?_
    show Steps p.tables e below (T16.setTop (mkF m 15 #[.val (.ref ca), .val (.int (3 : Int32)), .val (.ref da), .val (.int (3 : Int32)), .val (.int (26 : Int32)), .val (.int (3 : Int32)), .val (.int c3)] [])) _
    refine XS.iload X16.here hx rfl (hb hby d20_15) rfl ?_
    show Steps p.tables e below (T16.setTop (mkF m 17 #[.val (.ref ca), .val (.int (3 : Int32)), .val (.ref da), .val (.int (3 : Int32)), .val (.int (26 : Int32)), .val (.int (3 : Int32)), .val (.int c3)] [(.int c3)])) _
    refine XS.sipush X16.here hx rfl (hb hby d20_17) ?_
    exact kt
  have hd20 : ¬ ((255 : Int32) < c3) := hle _ (by simp)
  have ix21 : 0 ≤ ((3 : Int32)).toInt ∧ ((3 : Int32)).toInt < (([(nar .byte (c0.toInt8.toInt32)), (nar .byte (c1.toInt8.toInt32)), (nar .byte (c2.toInt8.toInt32)), (0 : Int32), (0 : Int32), (0 : Int32), (0 : Int32), (0 : Int32), (0 : Int32), (0 : Int32), (0 : Int32), (0 : Int32), (0 : Int32), (0 : Int32), (0 : Int32), (0 : Int32), (0 : Int32), (0 : Int32), (0 : Int32), (0 : Int32), (0 : Int32), (0 : Int32), (0 : Int32), (0 : Int32), (0 : Int32), (0 : Int32)]).length : Int) := by constructor <;> first | decide | (simp; done)
  obtain ⟨T22, h22, X22, e22, W22, V22, st22⟩ := putB X16 hx hZ e16 G18 ix21.1 ix21.2 (g := (mkF m 31 #[.val (.ref ca), .val (.int (3 : Int32)), .val (.ref da), .val (.int (3 : Int32)), .val (.int (26 : Int32)), .val (.int (3 : Int32)), .val (.int c3)] [(.int (c3.toInt8.toInt32)), (.int (3 : Int32)), (.ref da)])) rfl rfl (hb hby d20_31)
  have G23 : VA Z h22 ca .char ([c0, c1, c2, c3, c4, c5, c6, c7, c8, c9, c10, c11, c12, c13, c14, c15, c16, c17, c18, c19, c20, c21, c22, c23, c24, c25].map Value.int) := G17.other W22 ne_ca_da
  have G24 : VA Z h22 da .byte ([(nar .byte (c0.toInt8.toInt32)), (nar .byte (c1.toInt8.toInt32)), (nar .byte (c2.toInt8.toInt32)), (nar .byte (c3.toInt8.toInt32)), (0 : Int32), (0 : Int32), (0 : Int32), (0 : Int32), (0 : Int32), (0 : Int32), (0 : Int32), (0 : Int32), (0 : Int32), (0 : Int32), (0 : Int32), (0 : Int32), (0 : Int32), (0 : Int32), (0 : Int32), (0 : Int32), (0 : Int32), (0 : Int32), (0 : Int32), (0 : Int32), (0 : Int32), (0 : Int32)].map Value.int) := V22
  have N22 := Fr.snoc X22 N16 g_da
  have K22 : Keep h0 h22 [da] := Keep.wr K16 W22 (Or.inl (List.mem_of_getElem? (i := 0) rfl))
  have Z22 : n0 ≤ h22.size := Nat.le_trans Z0 K22.1
  have ix25 : 0 ≤ ((4 : Int32)).toInt ∧ ((4 : Int32)).toInt < (([c0, c1, c2, c3, c4, c5, c6, c7, c8, c9, c10, c11, c12, c13, c14, c15, c16, c17, c18, c19, c20, c21, c22, c23, c24, c25]).length : Int) := by constructor <;> first | decide | (simp; done)
  refine Go.step (T' := T22) (f' := (mkF m 20 #[.val (.ref ca), .val (.int (4 : Int32)), .val (.ref da), .val (.int (4 : Int32)), .val (.int (26 : Int32)), .val (.int (4 : Int32)), .val (.int c4)] [(.int (255 : Int32)), (.int c4)])) (fun t kt => ?_) ?_
  · show Steps p.tables e below (T16.setTop (mkF m 20 #[.val (.ref ca), .val (.int (3 : Int32)), .val (.ref da), .val (.int (3 : Int32)), .val (.int (26 : Int32)), .val (.int (3 : Int32)), .val (.int c3)] [(.int (255 : Int32)), (.int c3)])) _
    refine XS.icmpYes X16.here hx rfl (pc0 := 20) (pc' := 26) rfl (hb hby d20_20) rfl (flt hd20).2.2.2 (by decide) (by decide) ?_
    show Steps p.tables e below (T16.setTop (mkF m 26 #[.val (.ref ca), .val (.int (3 : Int32)), .val (.ref da), .val (.int (3 : Int32)), .val (.int (26 : Int32)), .val (.int (3 : Int32)), .val (.int c3)] [])) _
    refine XS.aloadN X16.here hx rfl (hb hby d20_26) rfl rfl ?_
    show Steps p.tables e below (T16.setTop (mkF m 27 #[.val (.ref ca), .val (.int (3 : Int32)), .val (.ref da), .val (.int (3 : Int32)), .val (.int (26 : Int32)), .val (.int (3 : Int32)), .val (.int c3)] [(.ref da)])) _
    refine XS.iloadN X16.here hx rfl (hb hby d20_27) rfl ?_
    show Steps p.tables e below (T16.setTop (mkF m 28 #[.val (.ref ca), .val (.int (3 : Int32)), .val (.ref da), .val (.int (3 : Int32)), .val (.int (26 : Int32)), .val (.int (3 : Int32)), .val (.int c3)] [(.int (3 : Int32)), (.ref da)])) _
    refine XS.iload X16.here hx rfl (hb hby d20_28) rfl ?_
    show Steps p.tables e below (T16.setTop (mkF m 30 #[.val (.ref ca), .val (.int (3 : Int32)), .val (.ref da), .val (.int (3 : Int32)), .val (.int (26 : Int32)), .val (.int (3 : Int32)), .val (.int c3)] [(.int c3), (.int (3 : Int32)), (.ref da)])) _
    refine XS.i2b X16.here hx rfl (hb hby d20_30) rfl ?_
    show Steps p.tables e below (T16.setTop (mkF m 31 #[.val (.ref ca), .val (.int (3 : Int32)), .val (.ref da), .val (.int (3 : Int32)), .val (.int (26 : Int32)), .val (.int (3 : Int32)), .val (.int c3)] [(.int (c3.toInt8.toInt32)), (.int (3 : Int32)), (.ref da)])) _
    refine st22 _ ?_
    show Steps p.tables e below (T22.setTop (mkF m 32 #[.val (.ref ca), .val (.int (3 : Int32)), .val (.ref da), .val (.int (3 : Int32)), .val (.int (26 : Int32)), .val (.int (3 : Int32)), .val (.int c3)] [])) _
    refine XS.iinc X22.here hx rfl (hb hby d20_32) rfl (l' := #[.val (.ref ca), .val (.int (4 : Int32)), .val (.ref da), .val (.int (3 : Int32)), .val (.int (26 : Int32)), .val (.int (3 : Int32)), .val (.int c3)]) rfl ?_
    show Steps p.tables e below (T22.setTop (mkF m 35 #[.val (.ref ca), .val (.int (4 : Int32)), .val (.ref da), .val (.int (3 : Int32)), .val (.int (26 : Int32)), .val (.int (3 : Int32)), .val (.int c3)] [])) _
    refine XS.iinc X22.here hx rfl (hb hby d20_35) rfl (l' := #[.val (.ref ca), .val (.int (4 : Int32)), .val (.ref da), .val (.int (4 : Int32)), .val (.int (26 : Int32)), .val (.int (3 : Int32)), .val (.int c3)]) rfl ?_
    show Steps p.tables e below (T22.setTop (mkF m 38 #[.val (.ref ca), .val (.int (4 : Int32)), .val (.ref da), .val (.int (4 : Int32)), .val (.int (26 : Int32)), .val (.int (3 : Int32)), .val (.int c3)] [])) _
    refine XS.iinc X22.here hx rfl (hb hby d20_38) rfl (l' := #[.val (.ref ca), .val (.int (4 : Int32)), .val (.ref da), .val (.int (4 : Int32)), .val (.int (26 : Int32)), .val (.int (4 : Int32)), .val (.int c3)]) rfl ?_
    show Steps p.tables e below (T22.setTop (mkF m 41 #[.val (.ref ca), .val (.int (4 : Int32)), .val (.ref da), .val (.int (4 : Int32)), .val (.int (26 : Int32)), .val (.int (4 : Int32)), .val (.int c3)] [])) _
    refine XS.goto X22.here hx rfl (pc0 := 41) (pc' := 3) rfl (hb hby d20_41) (by decide) (by decide) ?_
    show Steps p.tables e below (T22.setTop (mkF m 3 #[.val (.ref ca), .val (.int (4 : Int32)), .val (.ref da), .val (.int (4 : Int32)), .val (.int (26 : Int32)), .val (.int (4 : Int32)), .val (.int c3)] [])) _
    refine XS.iload X22.here hx rfl (hb hby d20_3) rfl ?_
    show Steps p.tables e below (T22.setTop (mkF m 5 #[.val (.ref ca), .val (.int (4 : Int32)), .val (.ref da), .val (.int (4 : Int32)), .val (.int (26 : Int32)), .val (.int (4 : Int32)), .val (.int c3)] [(.int (4 : Int32))])) _
    refine XS.iload X22.here hx rfl (hb hby d20_5) rfl ?_
    show Steps p.tables e below (T22.setTop (mkF m 7 #[.val (.ref ca), .val (.int (4 : Int32)), .val (.ref da), .val (.int (4 : Int32)), .val (.int (26 : Int32)), .val (.int (4 : Int32)), .val (.int c3)] [(.int (26 : Int32)), (.int (4 : Int32))])) _
    refine XS.icmpNo X22.here hx rfl (hb hby d20_7) rfl (tlt (by decide : ((4 : Int32) < (26 : Int32)))).2.1 ?_
    show Steps p.tables e below (T22.setTop (mkF m 10 #[.val (.ref ca), .val (.int (4 : Int32)), .val (.ref da), .val (.int (4 : Int32)), .val (.int (26 : Int32)), .val (.int (4 : Int32)), .val (.int c3)] [])) _
    refine XS.aloadN X22.here hx rfl (hb hby d20_10) rfl rfl ?_
    show Steps p.tables e below (T22.setTop (mkF m 11 #[.val (.ref ca), .val (.int (4 : Int32)), .val (.ref da), .val (.int (4 : Int32)), .val (.int (26 : Int32)), .val (.int (4 : Int32)), .val (.int c3)] [(.ref ca)])) _
    refine XS.iloadN X22.here hx rfl (hb hby d20_11) rfl ?_
    show Steps p.tables e below (T22.setTop (mkF m 12 #[.val (.ref ca), .val (.int (4 : Int32)), .val (.ref da), .val (.int (4 : Int32)), .val (.int (26 : Int32)), .val (.int (4 : Int32)), .val (.int c3)] [(.int (4 : Int32)), (.ref ca)])) _
    refine ldC X22 hx hZ e22 G23 ix25.1 ix25.2 (g := (mkF m 12 #[.val (.ref ca), .val (.int (4 : Int32)), .val (.ref da), .val (.int (4 : Int32)), .val (.int (26 : Int32)), .val (.int (4 : Int32)), .val (.int c3)] [(.int (4 : Int32)), (.ref ca)])) rfl rfl (hb hby d20_12) _ ?_
    show Steps p.tables e below (T22.setTop (mkF m 13 #[.val (.ref ca), .val (.int (4 : Int32)), .val (.ref da), .val (.int (4 : Int32)), .val (.int (26 : Int32)), .val (.int (4 : Int32)), .val (.int c3)] [(.int c4)])) _
    refine XS.istore X22.here hx rfl (hb hby d20_13) rfl (l' := #[.val (.ref ca), .val (.int (4 : Int32)), .val (.ref da), .val (.int (4 : Int32)), .val (.int (26 : Int32)), .val (.int (4 : Int32)), .val (.int c4)]) rfl ?_
    show Steps p.tables e below (T22.setTop (mkF m 15 #[.val (.ref ca), .val (.int (4 : Int32)), .val (.ref da), .val (.int (4 : Int32)), .val (.int (26 : Int32)), .val (.int (4 : Int32)), .val (.int c4)] [])) _
    refine XS.iload X22.here hx rfl (hb hby d20_15) rfl ?_
    show Steps p.tables e below (T22.setTop (mkF m 17 #[.val (.ref ca), .val (.int (4 : Int32)), .val (.ref da), .val (.int (4 : Int32)), .val (.int (26 : Int32)), .val (.int (4 : Int32)), .val (.int c4)] [(.int c4)])) _
    refine XS.sipush X22.here hx rfl (hb hby d20_17) ?_
    exact kt
  have hd26 : ¬ ((255 : Int32) < c4) := hle _ (by simp)
  have ix27 : 0 ≤ ((4 : Int32)).toInt ∧ ((4 : Int32)).toInt < (([(nar .byte (c0.toInt8.toInt32)), (nar .byte (c1.toInt8.toInt32)), (nar .byte (c2.toInt8.toInt32)), (nar .byte (c3.toInt8.toInt32)), (0 : Int32), (0 : Int32), (0 : Int32), (0 : Int32), (0 : Int32), (0 : Int32), (0 : Int32), (0 : Int32), (0 : Int32), (0 : Int32), (0 : Int32), (0 : Int32), (0 : Int32), (0 : Int32), (0 : Int32), (0 : Int32), (0 : Int32), (0 : Int32), (0 : Int32), (0 : Int32), (0 : Int32), (0 : Int32)]).length : Int) := by constructor <;> first | decide | (simp; done)
  obtain ⟨T28, h28, X28, e28, W28, V28, st28⟩ := putB X22 hx hZ e22 G24 ix27.1 ix27.2 (g := (mkF m 31 #[.val (.ref ca), .val (.int (4 : Int32)), .val (.ref da), .val (.int (4 : Int32)), .val (.int (26 : Int32)), .val (.int (4 : Int32)), .val (.int c4)] [(.int (c4.toInt8.toInt32)), (.int (4 : Int32)), (.ref da)])) rfl rfl (hb hby d20_31)
  have G29 : VA Z h28 ca .char ([c0, c1, c2, c3, c4, c5, c6, c7, c8, c9, c10, c11, c12, c13, c14, c15, c16, c17, c18, c19, c20, c21, c22, c23, c24, c25].map Value.int) := G23.other W28 ne_ca_da
  have G30 : VA Z h28 da .byte ([(nar .byte (c0.toInt8.toInt32)), (nar .byte (c1.toInt8.toInt32)), (nar .byte (c2.toInt8.toInt32)), (nar .byte (c3.toInt8.toInt32)), (nar .byte (c4.toInt8.toInt32)), (0 : Int32), (0 : Int32), (0 : Int32), (0 : Int32), (0 : Int32), (0 : Int32), (0 : Int32), (0 : Int32), (0 : Int32), (0 : Int32), (0 : Int32), (0 : Int32), (0 : Int32), (0 : Int32), (0 : Int32), (0 : Int32), (0 : Int32), (0 : Int32), (0 : Int32), (0 : Int32), (0 : Int32)].map Value.int) := V28
  have N28 := Fr.snoc X28 N22 g_da
  have K28 : Keep h0 h28 [da] := Keep.wr K22 W28 (Or.inl (List.mem_of_getElem? (i := 0) rfl))
  have Z28 : n0 ≤ h28.size := Nat.le_trans Z0 K28.1
  have ix31 : 0 ≤ ((5 : Int32)).toInt ∧ ((5 : Int32)).toInt < (([c0, c1, c2, c3, c4, c5, c6, c7, c8, c9, c10, c11, c12, c13, c14, c15, c16, c17, c18, c19, c20, c21, c22, c23, c24, c25]).length : Int) := by constructor <;> first | decide | (simp; done)
  refine Go.step (T' := T28) (f' := (mkF m 20 #[.val (.ref ca), .val (.int (5 : Int32)), .val (.ref da), .val (.int (5 : Int32)), .val (.int (26 : Int32)), .val (.int (5 : Int32)), .val (.int c5)] [(.int (255 : Int32)), (.int c5)])) (fun t kt => ?_) ?_
  · show Steps p.tables e below (T22.setTop (mkF m 20 #[.val (.ref ca), .val (.int (4 : Int32)), .val (.ref da), .val (.int (4 : Int32)), .val (.int (26 : Int32)), .val (.int (4 : Int32)), .val (.int c4)] [(.int (255 : Int32)), (.int c4)])) _
    refine XS.icmpYes X22.here hx rfl (pc0 := 20) (pc' := 26) rfl (hb hby d20_20) rfl (flt hd26).2.2.2 (by decide) (by decide) ?_
    show Steps p.tables e below (T22.setTop (mkF m 26 #[.val (.ref ca), .val (.int (4 : Int32)), .val (.ref da), .val (.int (4 : Int32)), .val (.int (26 : Int32)), .val (.int (4 : Int32)), .val (.int c4)] [])) _
    refine XS.aloadN X22.here hx rfl (hb hby d20_26) rfl rfl ?_
    show Steps p.tables e below (T22.setTop (mkF m 27 #[.val (.ref ca), .val (.int (4 : Int32)), .val (.ref da), .val (.int (4 : Int32)), .val (.int (26 : Int32)), .val (.int (4 : Int32)), .val (.int c4)] [(.ref da)])) _
    refine XS.iloadN X22.here hx rfl (hb hby d20_27) rfl ?_
    show Steps p.tables e below (T22.setTop (mkF m 28 #[.val (.ref ca), .val (.int (4 : Int32)), .val (.ref da), .val (.int (4 : Int32)), .val (.int (26 : Int32)), .val (.int (4 : Int32)), .val (.int c4)] [(.int (4 : Int32)), (.ref da)])) _
    refine XS.iload X22.here hx rfl (hb hby d20_28) rfl ?_
    show Steps p.tables e below (T22.setTop (mkF m 30 #[.val (.ref ca), .val (.int (4 : Int32)), .val (.ref da), .val (.int (4 : Int32)), .val (.int (26 : Int32)), .val (.int (4 : Int32)), .val (.int c4)] [(.int c4), (.int (4 : Int32)), (.ref da)])) _
    refine XS.i2b X22.here hx rfl (hb hby d20_30) rfl ?_
    show Steps p.tables e below (T22.setTop (mkF m 31 #[.val (.ref ca), .val (.int (4 : Int32)), .val (.ref da), .val (.int (4 : Int32)), .val (.int (26 : Int32)), .val (.int (4 : Int32)), .val (.int c4)] [(.int (c4.toInt8.toInt32)), (.int (4 : Int32)), (.ref da)])) _
    refine st28 _ ?_
    show Steps p.tables e below (T28.setTop (mkF m 32 #[.val (.ref ca), .val (.int (4 : Int32)), .val (.ref da), .val (.int (4 : Int32)), .val (.int (26 : Int32)), .val (.int (4 : Int32)), .val (.int c4)] [])) _
    refine XS.iinc X28.here hx rfl (hb hby d20_32) rfl (l' := #[.val (.ref ca), .val (.int (5 : Int32)), .val (.ref da), .val (.int (4 : Int32)), .val (.int (26 : Int32)), .val (.int (4 : Int32)), .val (.int c4)]) rfl ?_
    show Steps p.tables e below (T28.setTop (mkF m 35 #[.val (.ref ca), .val (.int (5 : Int32)), .val (.ref da), .val (.int (4 : Int32)), .val (.int (26 : Int32)), .val (.int (4 : Int32)), .val (.int c4)] [])) _
    refine XS.iinc X28.here hx rfl (hb hby d20_35) rfl (l' := #[.val (.ref ca), .val (.int (5 : Int32)), .val (.ref da), .val (.int (5 : Int32)), .val (.int (26 : Int32)), .val (.int (4 : Int32)), .val (.int c4)]) rfl ?_
    show Steps p.tables e below (T28.setTop (mkF m 38 #[.val (.ref ca), .val (.int (5 : Int32)), .val (.ref da), .val (.int (5 : Int32)), .val (.int (26 : Int32)), .val (.int (4 : Int32)), .val (.int c4)] [])) _
    refine XS.iinc X28.here hx rfl (hb hby d20_38) rfl (l' := #[.val (.ref ca), .val (.int (5 : Int32)), .val (.ref da), .val (.int (5 : Int32)), .val (.int (26 : Int32)), .val (.int (5 : Int32)), .val (.int c4)]) rfl ?_
    show Steps p.tables e below (T28.setTop (mkF m 41 #[.val (.ref ca), .val (.int (5 : Int32)), .val (.ref da), .val (.int (5 : Int32)), .val (.int (26 : Int32)), .val (.int (5 : Int32)), .val (.int c4)] [])) _
    refine XS.goto X28.here hx rfl (pc0 := 41) (pc' := 3) rfl (hb hby d20_41) (by decide) (by decide) ?_
    show Steps p.tables e below (T28.setTop (mkF m 3 #[.val (.ref ca), .val (.int (5 : Int32)), .val (.ref da), .val (.int (5 : Int32)), .val (.int (26 : Int32)), .val (.int (5 : Int32)), .val (.int c4)] [])) _
    refine XS.iload X28.here hx rfl (hb hby d20_3) rfl ?_
    show Steps p.tables e below (T28.setTop (mkF m 5 #[.val (.ref ca), .val (.int (5 : Int32)), .val (.ref da), .val (.int (5 : Int32)), .val (.int (26 : Int32)), .val (.int (5 : Int32)), .val (.int c4)] [(.int (5 : Int32))])) _
    refine XS.iload X28.here hx rfl (hb hby d20_5) rfl ?_
    show Steps p.tables e below (T28.setTop (mkF m 7 #[.val (.ref ca), .val (.int (5 : Int32)), .val (.ref da), .val (.int (5 : Int32)), .val (.int (26 : Int32)), .val (.int (5 : Int32)), .val (.int c4)] [(.int (26 : Int32)), (.int (5 : Int32))])) _
    refine XS.icmpNo X28.here hx rfl (hb hby d20_7) rfl (tlt (by decide : ((5 : Int32) < (26 : Int32)))).2.1 ?_
    show Steps p.tables e below (T28.setTop (mkF m 10 #[.val (.ref ca), .val (.int (5 : Int32)), .val (.ref da), .val (.int (5 : Int32)), .val (.int (26 : Int32)), .val (.int (5 : Int32)), .val (.int c4)] [])) _
    refine XS.aloadN X28.here hx rfl (hb hby d20_10) rfl rfl ?_
    show Steps p.tables e below (T28.setTop (mkF m 11 #[.val (.ref ca), .val (.int (5 : Int32)), .val (.ref da), .val (.int (5 : Int32)), .val (.int (26 : Int32)), .val (.int (5 : Int32)), .val (.int c4)] [(.ref ca)])) _
    refine XS.iloadN X28.here hx rfl (hb hby d20_11) rfl ?_
    show Steps p.tables e below (T28.setTop (mkF m 12 #[.val (.ref ca), .val (.int (5 : Int32)), .val (.ref da), .val (.int (5 : Int32)), .val (.int (26 : Int32)), .val (.int (5 : Int32)), .val (.int c4)] [(.int (5 : Int32)), (.ref ca)])) _
    refine ldC X28 hx hZ e28 G29 ix31.1 ix31.2 (g := (mkF m 12 #[.val (.ref ca), .val (.int (5 : Int32)), .val (.ref da), .val (.int (5 : Int32)), .val (.int (26 : Int32)), .val (.int (5 : Int32)), .val (.int c4)] [(.int (5 : Int32)), (.ref ca)])) rfl rfl (hb hby d20_12) _ ?_
    show Steps p.tables e below (T28.setTop (mkF m 13 #[.val (.ref ca), .val (.int (5 : Int32)), .val (.ref da), .val (.int (5 : Int32)), .val (.int (26 : Int32)), .val (.int (5 : Int32)), .val (.int c4)] [(.int c5)])) _
    refine XS.istore X28.here hx rfl (hb hby d20_13) rfl (l' := #[.val (.ref ca), .val (.int (5 : Int32)), .val (.ref da), .val (.int (5 : Int32)), .val (.int (26 : Int32)), .val (.int (5 : Int32)), .val (.int c5)]) rfl ?_
    show Steps p.tables e below (T28.setTop (mkF m 15 #[.val (.ref ca), .val (.int (5 : Int32)), .val (.ref da), .val (.int (5 : Int32)), .val (.int (26 : Int32)), .val (.int (5 : Int32)), .val (.int c5)] [])) _
    refine XS.iload X28.here hx rfl (hb hby d20_15) rfl ?_
    show Steps p.tables e below (T28.setTop (mkF m 17 #[.val (.ref ca), .val (.int (5 : Int32)), .val (.ref da), .val (.int (5 : Int32)), .val (.int (26 : Int32)), .val (.int (5 : Int32)), .val (.int c5)] [(.int c5)])) _
    refine XS.sipush X28.here hx rfl (hb hby d20_17) ?_
    exact kt
  have hd32 : ¬ ((255 : Int32) < c5) := hle _ (by simp)
  have ix33 : 0 ≤ ((5 : Int32)).toInt ∧ ((5 : Int32)).toInt < (([(nar .byte (c0.toInt8.toInt32)), (nar .byte (c1.toInt8.toInt32)), (nar .byte (c2.toInt8.toInt32)), (nar .byte (c3.toInt8.toInt32)), (nar .byte (c4.toInt8.toInt32)), (0 : Int32), (0 : Int32), (0 : Int32), (0 : Int32), (0 : Int32), (0 : Int32), (0 : Int32), (0 : Int32), (0 : Int32), (0 : Int32), (0 : Int32), (0 : Int32), (0 : Int32), (0 : Int32), (0 : Int32), (0 : Int32), (0 : Int32), (0 : Int32), (0 : Int32), (0 : Int32), (0 : Int32)]).length : Int) := by constructor <;> first | decide | (simp; done)
  obtain ⟨T34, h34, X34, e34, W34, V34, st34⟩ := putB X28 hx hZ e28 G30 ix33.1 ix33.2 (g := (mkF m 31 #[.val (.ref ca), .val (.int (5 : Int32)), .val (.ref da), .val (.int (5 : Int32)), .val (.int (26 : Int32)), .val (.int (5 : Int32)), .val (.int c5)] [(.int (c5.toInt8.toInt32)), (.int (5 : Int32)), (.ref da)])) rfl rfl (hb hby d20_31)
  have G35 : VA Z h34 ca .char ([c0, c1, c2, c3, c4, c5, c6, c7, c8, c9, c10, c11, c12, c13, c14, c15, c16, c17, c18, c19, c20, c21, c22, c23, c24, c25].map Value.int) := G29.other W34 ne_ca_da
  have G36 : VA Z h34 da .byte ([(nar .byte (c0.toInt8.toInt32)), (nar .byte (c1.toInt8.toInt32)), (nar .byte (c2.toInt8.toInt32)), (nar .byte (c3.toInt8.toInt32)), (nar .byte (c4.toInt8.toInt32)), (nar .byte (c5.toInt8.toInt32)), (0 : Int32), (0 : Int32), (0 : Int32), (0 : Int32), (0 : Int32), (0 : Int32), (0 : Int32), (0 : Int32), (0 : Int32), (0 : Int32), (0 : Int32), (0 : Int32), (0 : Int32), (0 : Int32), (0 : Int32), (0 : Int32), (0 : Int32), (0 : Int32), (0 : Int32), (0 : Int32)].map Value.int) := V34
  have N34 := Fr.snoc X34 N28 g_da
  have K34 : Keep h0 h34 [da] := Keep.wr K28 W34 (Or.inl (List.mem_of_getElem? (i := 0) rfl))
  have Z34 : n0 ≤ h34.size := Nat.le_trans Z0 K34.1
  have ix37 : 0 ≤ ((6 : Int32)).toInt ∧ ((6 : Int32)).toInt < (([c0, c1, c2, c3, c4, c5, c6, c7, c8, c9, c10, c11, c12, c13, c14, c15, c16, c17, c18, c19, c20, c21, c22, c23, c24, c25]).length : Int) := by constructor <;> first | decide | (simp; done)
  refine Go.step (T' := T34) (f' := (mkF m 20 #[.val (.ref ca), .val (.int (6 : Int32)), .val (.ref da), .val (.int (6 : Int32)), .val (.int (26 : Int32)), .val (.int (6 : Int32)), .val (.int c6)] [(.int (255 : Int32)), (.int c6)])) (fun t kt => ?_) ?_
  · show Steps p.tables e below (T28.setTop (mkF m 20 #[.val (.ref ca), .val (.int (5 : Int32)), .val (.ref da), .val (.int (5 : Int32)), .val (.int (26 : Int32)), .val (.int (5 : Int32)), .val (.int c5)] [(.int (255 : Int32)), (.int c5)])) _
    refine XS.icmpYes X28.here hx rfl (pc0 := 20) (pc' := 26) rfl (hb hby d20_20) rfl (flt hd32).2.2.2 (by decide) (by decide) ?_
    show Steps p.tables e below (T28.setTop (mkF m 26 #[.val (.ref ca), .val (.int (5 : Int32)), .val (.ref da), .val (.int (5 : Int32)), .val (.int (26 : Int32)), .val (.int (5 : Int32)), .val (.int c5)] [])) _
    refine XS.aloadN X28.here hx rfl (hb hby d20_26) rfl rfl ?_
    show Steps p.tables e below (T28.setTop (mkF m 27 #[.val (.ref ca), .val (.int (5 : Int32)), .val (.ref da), .val (.int (5 : Int32)), .val (.int (26 : Int32)), .val (.int (5 : Int32)), .val (.int c5)] [(.ref da)])) _
    refine XS.iloadN X28.here hx rfl (hb hby d20_27) rfl ?_
    show Steps p.tables e below (T28.setTop (mkF m 28 #[.val (.ref ca), .val (.int (5 : Int32)), .val (.ref da), .val (.int (5 : Int32)), .val (.int (26 : Int32)), .val (.int (5 : Int32)), .val (.int c5)] [(.int (5 : Int32)), (.ref da)])) _
    refine XS.iload X28.here hx rfl (hb hby d20_28) rfl ?_
    show Steps p.tables e below (T28.setTop (mkF m 30 #[.val (.ref ca), .val (.int (5 : Int32)), .val (.ref da), .val (.int (5 : Int32)), .val (.int (26 : Int32)), .val (.int (5 : Int32)), .val (.int c5)] [(.int c5), (.int (5 : Int32)), (.ref da)])) _
    refine XS.i2b X28.here hx rfl (hb hby d20_30) rfl ?_
    show Steps p.tables e below (T28.setTop (mkF m 31 #[.val (.ref ca), .val (.int (5 : Int32)), .val (.ref da), .val (.int (5 : Int32)), .val (.int (26 : Int32)), .val (.int (5 : Int32)), .val (.int c5)] [(.int (c5.toInt8.toInt32)), (.int (5 : Int32)), (.ref da)])) _
    refine st34 _ ?_
    show Steps p.tables e below (T34.setTop (mkF m 32 #[.val (.ref ca), .val (.int (5 : Int32)), .val (.ref da), .val (.int (5 : Int32)), .val (.int (26 : Int32)), .val (.int (5 : Int32)), .val (.int c5)] [])) _
    refine XS.iinc X34.here hx rfl (hb hby d20_32) rfl (l' := #[.val (.ref ca), .val (.int (6 : Int32)), .val (.ref da), .val (.int (5 : Int32)), .val (.int (26 : Int32)), .val (.int (5 : Int32)), .val (.int c5)]) rfl ?_
    show Steps p.tables e below (T34.setTop (mkF m 35 #[.val (.ref ca), .val (.int (6 : Int32)), .val (.ref da), .val (.int (5 : Int32)), .val (.int (26 : Int32)), .val (.int (5 : Int32)), .val (.int c5)] [])) _
    refine XS.iinc X34.here hx rfl (hb hby d20_35) rfl (l' := #[.val (.ref ca), .val (.int (6 : Int32)), .val (.ref da), .val (.int (6 : Int32)), .val (.int (26 : Int32)), .val (.int (5 : Int32)), .val (.int c5)]) rfl ?_
    show Steps p.tables e below (T34.setTop (mkF m 38 #[.val (.ref ca), .val (.int (6 : Int32)), .val (.ref da), .val (.int (6 : Int32)), .val (.int (26 : Int32)), .val (.int (5 : Int32)), .val (.int c5)] [])) _
    refine XS.iinc X34.here hx rfl (hb hby d20_38) rfl (l' := #[.val (.ref ca), .val (.int (6 : Int32)), .val (.ref da), .val (.int (6 : Int32)), .val (.int (26 : Int32)), .val (.int (6 : Int32)), .val (.int c5)]) rfl ?_
    show Steps p.tables e below (T34.setTop (mkF m 41 #[.val (.ref ca), .val (.int (6 : Int32)), .val (.ref da), .val (.int (6 : Int32)), .val (.int (26 : Int32)), .val (.int (6 : Int32)), .val (.int c5)] [])) _
    refine XS.goto X34.here hx rfl (pc0 := 41) (pc' := 3) rfl (hb hby d20_41) (by decide) (by decide) ?_
    show Steps p.tables e below (T34.setTop (mkF m 3 #[.val (.ref ca), .val (.int (6 : Int32)), .val (.ref da), .val (.int (6 : Int32)), .val (.int (26 : Int32)), .val (.int (6 : Int32)), .val (.int c5)] [])) _
    refine XS.iload X34.here hx rfl (hb hby d20_3) rfl ?_
    show Steps p.tables e below (T34.setTop (mkF m 5 #[.val (.ref ca), .val (.int (6 : Int32)), .val (.ref da), .val (.int (6 : Int32)), .val (.int (26 : Int32)), .val (.int (6 : Int32)), .val (.int c5)] [(.int (6 : Int32))])) _
    refine XS.iload X34.here hx rfl (hb hby d20_5) rfl ?_
    show Steps p.tables e below (T34.setTop (mkF m 7 #[.val (.ref ca), .val (.int (6 : Int32)), .val (.ref da), .val (.int (6 : Int32)), .val (.int (26 : Int32)), .val (.int (6 : Int32)), .val (.int c5)] [(.int (26 : Int32)), (.int (6 : Int32))])) _
    refine XS.icmpNo X34.here hx rfl (hb hby d20_7) rfl (tlt (by decide : ((6 : Int32) < (26 : Int32)))).2.1 ?_
    show Steps p.tables e below (T34.setTop (mkF m 10 #[.val (.ref ca), .val (.int (6 : Int32)), .val (.ref da), .val (.int (6 : Int32)), .val (.int (26 : Int32)), .val (.int (6 : Int32)), .val (.int c5)] [])) _
    refine XS.aloadN X34.here hx rfl (hb hby d20_10) rfl rfl ?_
    show Steps p.tables e below (T34.setTop (mkF m 11 #[.val (.ref ca), .val (.int (6 : Int32)), .val (.ref da), .val (.int (6 : Int32)), .val (.int (26 : Int32)), .val (.int (6 : Int32)), .val (.int c5)] [(.ref ca)])) _
    refine XS.iloadN X34.here hx rfl (hb hby d20_11) rfl ?_
    show Steps p.tables e below (T34.setTop (mkF m 12 #[.val (.ref ca), .val (.int (6 : Int32)), .val (.ref da), .val (.int (6 : Int32)), .val (.int (26 : Int32)), .val (.int (6 : Int32)), .val (.int c5)] [(.int (6 : Int32)), (.ref ca)])) _
    refine ldC X34 hx hZ e34 G35 ix37.1 ix37.2 (g := (mkF m 12 #[.val (.ref ca), .val (.int (6 : Int32)), .val (.ref da), .val (.int (6 : Int32)), .val (.int (26 : Int32)), .val (.int (6 : Int32)), .val (.int c5)] [(.int (6 : Int32)), (.ref ca)])) rfl rfl (hb hby d20_12) _ ?_
    show Steps p.tables e below (T34.setTop (mkF m 13 #[.val (.ref ca), .val (.int (6 : Int32)), .val (.ref da), .val (.int (6 : Int32)), .val (.int (26 : Int32)), .val (.int (6 : Int32)), .val (.int c5)] [(.int c6)])) _
    refine XS.istore X34.here hx rfl (hb hby d20_13) rfl (l' := #[.val (.ref ca), .val (.int (6 : Int32)), .val (.ref da), .val (.int (6 : Int32)), .val (.int (26 : Int32)), .val (.int (6 : Int32)), .val (.int c6)]) rfl ?_
    show Steps p.tables e below (T34.setTop (mkF m 15 #[.val (.ref ca), .val (.int (6 : Int32)), .val (.ref da), .val (.int (6 : Int32)), .val (.int (26 : Int32)), .val (.int (6 : Int32)), .val (.int c6)] [])) _
    refine XS.iload X34.here hx rfl (hb hby d20_15) rfl ?_
    show Steps p.tables e below (T34.setTop (mkF m 17 #[.val (.ref ca), .val (.int (6 : Int32)), .val (.ref da), .val (.int (6 : Int32)), .val (.int (26 : Int32)), .val (.int (6 : Int32)), .val (.int c6)] [(.int c6)])) _
    refine XS.sipush X34.here hx rfl (hb hby d20_17) ?_
    exact kt
  have hd38 : ¬ ((255 : Int32) < c6) := hle _ (by simp)
  have ix39 : 0 ≤ ((6 : Int32)).toInt ∧ ((6 : Int32)).toInt < (([(nar .byte (c0.toInt8.toInt32)), (nar .byte (c1.toInt8.toInt32)), (nar .byte (c2.toInt8.toInt32)), (nar .byte (c3.toInt8.toInt32)), (nar .byte (c4.toInt8.toInt32)), (nar .byte (c5.toInt8.toInt32)), (0 : Int32), (0 : Int32), (0 : Int32), (0 : Int32), (0 : Int32), (0 : Int32), (0 : Int32), (0 : Int32), (0 : Int32), (0 : Int32), (0 : Int32), (0 : Int32), (0 : Int32), (0 : Int32), (0 : Int32), (0 : Int32), (0 : Int32), (0 : Int32), (0 : Int32), (0 : Int32)]).length : Int) := by constructor <;> first | decide | (simp; done)
  obtain ⟨T40, h40, X40, e40, W40, V40, st40⟩ := putB X34 hx hZ e34 G36 ix39.1 ix39.2 (g := (mkF m 31 #[.val (.ref ca), .val (.int (6 : Int32)), .val (.ref da), .val (.int (6 : Int32)), .val (.int (26 : Int32)), .val (.int (6 : Int32)), .val (.int c6)] [(.int (c6.toInt8.toInt32)), (.int (6 : Int32)), (.ref da)])) rfl rfl (hb hby d20_31)
  have G41 : VA Z h40 ca .char ([c0, c1, c2, c3, c4, c5, c6, c7, c8, c9, c10, c11, c12, c13, c14, c15, c16, c17, c18, c19, c20, c21, c22, c23, c24, c25].map Value.int) := G35.other W40 ne_ca_da
  have G42 : VA Z h40 da .byte ([(nar .byte (c0.toInt8.toInt32)), (nar .byte (c1.toInt8.toInt32)), (nar .byte (c2.toInt8.toInt32)), (nar .byte (c3.toInt8.toInt32)), (nar .byte (c4.toInt8.toInt32)), (nar .byte (c5.toInt8.toInt32)), (nar .byte (c6.toInt8.toInt32)), (0 : Int32), (0 : Int32), (0 : Int32), (0 : Int32), (0 : Int32), (0 : Int32), (0 : Int32), (0 : Int32), (0 : Int32), (0 : Int32), (0 : Int32), (0 : Int32), (0 : Int32), (0 : Int32), (0 : Int32), (0 : Int32), (0 : Int32), (0 : Int32), (0 : Int32)].map Value.int) := V40
  have N40 := Fr.snoc X40 N34 g_da
  have K40 : Keep h0 h40 [da] := Keep.wr K34 W40 (Or.inl (List.mem_of_getElem? (i := 0) rfl))
  have Z40 : n0 ≤ h40.size := Nat.le_trans Z0 K40.1
  have ix43 : 0 ≤ ((7 : Int32)).toInt ∧ ((7 : Int32)).toInt < (([c0, c1, c2, c3, c4, c5, c6, c7, c8, c9, c10, c11, c12, c13, c14, c15, c16, c17, c18, c19, c20, c21, c22, c23, c24, c25]).length : Int) := by constructor <;> first | decide | (simp; done)
  refine Go.step (T' := T40) (f' := (mkF m 20 #[.val (.ref ca), .val (.int (7 : Int32)), .val (.ref da), .val (.int (7 : Int32)), .val (.int (26 : Int32)), .val (.int (7 : Int32)), .val (.int c7)] [(.int (255 : Int32)), (.int c7)])) (fun t kt => ?_) ?_
  · show Steps p.tables e below (T34.setTop (mkF m 20 #[.val (.ref ca), .val (.int (6 : Int32)), .val (.ref da), .val (.int (6 : Int32)), .val (.int (26 : Int32)), .val (.int (6 : Int32)), .val (.int c6)] [(.int (255 : Int32)), (.int c6)])) _
    refine XS.icmpYes X34.here hx rfl (pc0 := 20) (pc' := 26) rfl (hb hby d20_20) rfl (flt hd38).2.2.2 (by decide) (by decide) ?_
    show Steps p.tables e below (T34.setTop (mkF m 26 #[.val (.ref ca), .val (.int (6 : Int32)), .val (.ref da), .val (.int (6 : Int32)), .val (.int (26 : Int32)), .val (.int (6 : Int32)), .val (.int c6)] [])) _
    refine XS.aloadN X34.here hx rfl (hb hby d20_26) rfl rfl ?_
    show Steps p.tables e below (T34.setTop (mkF m 27 #[.val (.ref ca), .val (.int (6 : Int32)), .val (.ref da), .val (.int (6 : Int32)), .val (.int (26 : Int32)), .val (.int (6 : Int32)), .val (.int c6)] [(.ref da)])) _
    refine XS.iloadN X34.here hx rfl (hb hby d20_27) rfl ?_
    show Steps p.tables e below (T34.setTop (mkF m 28 #[.val (.ref ca), .val (.int (6 : Int32)), .val (.ref da), .val (.int (6 : Int32)), .val (.int (26 : Int32)), .val (.int (6 : Int32)), .val (.int c6)] [(.int (6 : Int32)), (.ref da)])) _
    refine XS.iload X34.here hx rfl (hb hby d20_28) rfl ?_
    show Steps p.tables e below (T34.setTop (mkF m 30 #[.val (.ref ca), .val (.int (6 : Int32)), .val (.ref da), .val (.int (6 : Int32)), .val (.int (26 : Int32)), .val (.int (6 : Int32)), .val (.int c6)] [(.int c6), (.int (6 : Int32)), (.ref da)])) _
    refine XS.i2b X34.here hx rfl (hb hby d20_30) rfl ?_
    show Steps p.tables e below (T34.setTop (mkF m 31 #[.val (.ref ca), .val (.int (6 : Int32)), .val (.ref da), .val (.int (6 : Int32)), .val (.int (26 : Int32)), .val (.int (6 : Int32)), .val (.int c6)] [(.int (c6.toInt8.toInt32)), (.int (6 : Int32)), (.ref da)])) _
    refine st40 _ ?_
    show Steps p.tables e below (T40.setTop (mkF m 32 #[.val (.ref ca), .val (.int (6 : Int32)), .val (.ref da), .val (.int (6 : Int32)), .val (.int (26 : Int32)), .val (.int (6 : Int32)), .val (.int c6)] [])) _
    refine XS.iinc X40.here hx rfl (hb hby d20_32) rfl (l' := #[.val (.ref ca), .val (.int (7 : Int32)), .val (.ref da), .val (.int (6 : Int32)), .val (.int (26 : Int32)), .val (.int (6 : Int32)), .val (.int c6)]) rfl ?_
    show Steps p.tables e below (T40.setTop (mkF m 35 #[.val (.ref ca), .val (.int (7 : Int32)), .val (.ref da), .val (.int (6 : Int32)), .val (.int (26 : Int32)), .val (.int (6 : Int32)), .val (.int c6)] [])) _
    refine XS.iinc X40.here hx rfl (hb hby d20_35) rfl (l' := #[.val (.ref ca), .val (.int (7 : Int32)), .val (.ref da), .val (.int (7 : Int32)), .val (.int (26 : Int32)), .val (.int (6 : Int32)), .val (.int c6)]) rfl ?_
    show Steps p.tables e below (T40.setTop (mkF m 38 #[.val (.ref ca), .val (.int (7 : Int32)), .val (.ref da), .val (.int (7 : Int32)), .val (.int (26 : Int32)), .val (.int (6 : Int32)), .val (.int c6)] [])) _
    refine XS.iinc X40.here hx rfl (hb hby d20_38) rfl (l' := #[.val (.ref ca), .val (.int (7 : Int32)), .val (.ref da), .val (.int (7 : Int32)), .val (.int (26 : Int32)), .val (.int (7 : Int32)), .val (.int c6)]) rfl ?_
    show Steps p.tables e below (T40.setTop (mkF m 41 #[.val (.ref ca), .val (.int (7 : Int32)), .val (.ref da), .val (.int (7 : Int32)), .val (.int (26 : Int32)), .val (.int (7 : Int32)), .val (.int c6)] [])) _
    refine XS.goto X40.here hx rfl (pc0 := 41) (pc' := 3) rfl (hb hby d20_41) (by decide) (by decide) ?_
    show Steps p.tables e below (T40.setTop (mkF m 3 #[.val (.ref ca), .val (.int (7 : Int32)), .val (.ref da), .val (.int (7 : Int32)), .val (.int (26 : Int32)), .val (.int (7 : Int32)), .val (.int c6)] [])) _
    refine XS.iload X40.here hx rfl (hb hby d20_3) rfl ?_
    show Steps p.tables e below (T40.setTop (mkF m 5 #[.val (.ref ca), .val (.int (7 : Int32)), .val (.ref da), .val (.int (7 : Int32)), .val (.int (26 : Int32)), .val (.int (7 : Int32)), .val (.int c6)] [(.int (7 : Int32))])) _
    refine XS.iload X40.here hx rfl (hb hby d20_5) rfl ?_
    show Steps p.tables e below (T40.setTop (mkF m 7 #[.val (.ref ca), .val (.int (7 : Int32)), .val (.ref da), .val (.int (7 : Int32)), .val (.int (26 : Int32)), .val (.int (7 : Int32)), .val (.int c6)] [(.int (26 : Int32)), (.int (7 : Int32))])) _
    refine XS.icmpNo X40.here hx rfl (hb hby d20_7) rfl (tlt (by decide : ((7 : Int32) < (26 : Int32)))).2.1 ?_
    show Steps p.tables e below (T40.setTop (mkF m 10 #[.val (.ref ca), .val (.int (7 : Int32)), .val (.ref da), .val (.int (7 : Int32)), .val (.int (26 : Int32)), .val (.int (7 : Int32)), .val (.int c6)] [])) _
    refine XS.aloadN X40.here hx rfl (hb hby d20_10) rfl rfl ?_
    show Steps p.tables e below (T40.setTop (mkF m 11 #[.val (.ref ca), .val (.int (7 : Int32)), .val (.ref da), .val (.int (7 : Int32)), .val (.int (26 : Int32)), .val (.int (7 : Int32)), .val (.int c6)] [(.ref ca)])) _
    refine XS.iloadN X40.here hx rfl (hb hby d20_11) rfl ?_
    show Steps p.tables e below (T40.setTop (mkF m 12 #[.val (.ref ca), .val (.int (7 : Int32)), .val (.ref da), .val (.int (7 : Int32)), .val (.int (26 : Int32)), .val (.int (7 : Int32)), .val (.int c6)] [(.int (7 : Int32)), (.ref ca)])) _
    refine ldC X40 hx hZ e40 G41 ix43.1 ix43.2 (g := (mkF m 12 #[.val (.ref ca), .val (.int (7 : Int32)), .val (.ref da), .val (.int (7 : Int32)), .val (.int (26 : Int32)), .val (.int (7 : Int32)), .val (.int c6)] [(.int (7 : Int32)), (.ref ca)])) rfl rfl (hb hby d20_12) _ ?_
    show Steps p.tables e below (T40.setTop (mkF m 13 #[.val (.ref ca), .val (.int (7 : Int32)), .val (.ref da), .val (.int (7 : Int32)), .val (.int (26 : Int32)), .val (.int (7 : Int32)), .val (.int c6)] [(.int c7)])) _
    refine XS.istore X40.here hx rfl (hb hby d20_13) rfl (l' := #[.val (.ref ca), .val (.int (7 : Int32)), .val (.ref da), .val (.int (7 : Int32)), .val (.int (26 : Int32)), .val (.int (7 : Int32)), .val (.int c7)]) rfl ?_
    show Steps p.tables e below (T40.setTop (mkF m 15 #[.val (.ref ca), .val (.int (7 : Int32)), .val (.ref da), .val (.int (7 : Int32)), .val (.int (26 : Int32)), .val (.int (7 : Int32)), .val (.int c7)] [])) _
    refine XS.iload X40.here hx rfl (hb hby d20_15) rfl ?_
    show Steps p.tables e below (T40.setTop (mkF m 17 #[.val (.ref ca), .val (.int (7 : Int32)), .val (.ref da), .val (.int (7 : Int32)), .val (.int (26 : Int32)), .val (.int (7 : Int32)), .val (.int c7)] [(.int c7)])) _
    refine XS.sipush X40.here hx rfl (hb hby d20_17) ?_
    exact kt
  have hd44 : ¬ ((255 : Int32) < c7) := hle _ (by simp)
  have ix45 : 0 ≤ ((7 : Int32)).toInt ∧ ((7 : Int32)).toInt < (([(nar .byte (c0.toInt8.toInt32)), (nar .byte (c1.toInt8.toInt32)), (nar .byte (c2.toInt8.toInt32)), (nar .byte (c3.toInt8.toInt32)), (nar .byte (c4.toInt8.toInt32)), (nar .byte (c5.toInt8.toInt32)), (nar .byte (c6.toInt8.toInt32)), (0 : Int32), (0 : Int32), (0 : Int32), (0 : Int32), (0 : Int32), (0 : Int32), (0 : Int32), (0 : Int32), (0 : Int32), (0 : Int32), (0 : Int32), (0 : Int32), (0 : Int32), (0 : Int32), (0 : Int32), (0 : Int32), (0 : Int32), (0 : Int32), (0 : Int32)]).length : Int) := by constructor <;> first | decide | (simp; done)
  obtain ⟨T46, h46, X46, e46, W46, V46, st46⟩ := putB X40 hx hZ e40 G42 ix45.1 ix45.2 (g := (mkF m 31 #[.val (.ref ca), .val (.int (7 : Int32)), .val (.ref da), .val (.int (7 : Int32)), .val (.int (26 : Int32)), .val (.int (7 : Int32)), .val (.int c7)] [(.int (c7.toInt8.toInt32)), (.int (7 : Int32)), (.ref da)])) rfl rfl (hb hby d20_31)
  have G47 : VA Z h46 ca .char ([c0, c1, c2, c3, c4, c5, c6, c7, c8, c9, c10, c11, c12, c13, c14, c15, c16, c17, c18, c19, c20, c21, c22, c23, c24, c25].map Value.int) := G41.other W46 ne_ca_da
  have G48 : VA Z h46 da .byte ([(nar .byte (c0.toInt8.toInt32)), (nar .byte (c1.toInt8.toInt32)), (nar .byte (c2.toInt8.toInt32)), (nar .byte (c3.toInt8.toInt32)), (nar .byte (c4.toInt8.toInt32)), (nar .byte (c5.toInt8.toInt32)), (nar .byte (c6.toInt8.toInt32)), (nar .byte (c7.toInt8.toInt32)), (0 : Int32), (0 : Int32), (0 : Int32), (0 : Int32), (0 : Int32), (0 : Int32), (0 : Int32), (0 : Int32), (0 : Int32), (0 : Int32), (0 : Int32), (0 : Int32), (0 : Int32), (0 : Int32), (0 : Int32), (0 : Int32), (0 : Int32), (0 : Int32)].map Value.int) := V46
  have N46 := Fr.snoc X46 N40 g_da
  have K46 : Keep h0 h46 [da] := Keep.wr K40 W46 (Or.inl (List.mem_of_getElem? (i := 0) rfl))
  have Z46 : n0 ≤ h46.size := Nat.le_trans Z0 K46.1
  have ix49 : 0 ≤ ((8 : Int32)).toInt ∧ ((8 : Int32)).toInt < (([c0, c1, c2, c3, c4, c5, c6, c7, c8, c9, c10, c11, c12, c13, c14, c15, c16, c17, c18, c19, c20, c21, c22, c23, c24, c25]).length : Int) := by constructor <;> first | decide | (simp; done)
  refine Go.step (T' := T46) (f' := (mkF m 20 #[.val (.ref ca), .val (.int (8 : Int32)), .val (.ref da), .val (.int (8 : Int32)), .val (.int (26 : Int32)), .val (.int (8 : Int32)), .val (.int c8)] [(.int (255 : Int32)), (.int c8)])) (fun t kt => ?_) ?_
  · show Steps p.tables e below (T40.setTop (mkF m 20 #[.val (.ref ca), .val (.int (7 : Int32)), .val (.ref da), .val (.int (7 : Int32)), .val (.int (26 : Int32)), .val (.int (7 : Int32)), .val (.int c7)] [(.int (255 : Int32)), (.int c7)])) _
    refine XS.icmpYes X40.here hx rfl (pc0 := 20) (pc' := 26) rfl (hb hby d20_20) rfl (flt hd44).2.2.2 (by decide) (by decide) ?_
    show Steps p.tables e below (T40.setTop (mkF m 26 #[.val (.ref ca), .val (.int (7 : Int32)), .val (.ref da), .val (.int (7 : Int32)), .val (.int (26 : Int32)), .val (.int (7 : Int32)), .val (.int c7)] [])) _
    refine XS.aloadN X40.here hx rfl (hb hby d20_26) rfl rfl ?_
    show Steps p.tables e below (T40.setTop (mkF m 27 #[.val (.ref ca), .val (.int (7 : Int32)), .val (.ref da), .val (.int (7 : Int32)), .val (.int (26 : Int32)), .val (.int (7 : Int32)), .val (.int c7)] [(.ref da)])) _
    refine XS.iloadN X40.here hx rfl (hb hby d20_27) rfl ?_
    show Steps p.tables e below (T40.setTop (mkF m 28 #[.val (.ref ca), .val (.int (7 : Int32)), .val (.ref da), .val (.int (7 : Int32)), .val (.int (26 : Int32)), .val (.int (7 : Int32)), .val (.int c7)] [(.int (7 : Int32)), (.ref da)])) _
    refine XS.iload X40.here hx rfl (hb hby d20_28) rfl ?_
    show Steps p.tables e below (T40.setTop (mkF m 30 #[.val (.ref ca), .val (.int (7 : Int32)), .val (.ref da), .val (.int (7 : Int32)), .val (.int (26 : Int32)), .val (.int (7 : Int32)), .val (.int c7)] [(.int c7), (.int (7 : Int32)), (.ref da)])) _
    refine XS.i2b X40.here hx rfl (hb hby d20_30) rfl ?_
    show Steps p.tables e below (T40.setTop (mkF m 31 #[.val (.ref ca), .val (.int (7 : Int32)), .val (.ref da), .val (.int (7 : Int32)), .val (.int (26 : Int32)), .val (.int (7 : Int32)), .val (.int c7)] [(.int (c7.toInt8.toInt32)), (.int (7 : Int32)), (.ref da)])) _
    refine st46 _ ?_
    show Steps p.tables e below (T46.setTop (mkF m 32 #[.val (.ref ca), .val (.int (7 : Int32)), .val (.ref da), .val (.int (7 : Int32)), .val (.int (26 : Int32)), .val (.int (7 : Int32)), .val (.int c7)] [])) _
    refine XS.iinc X46.here hx rfl (hb hby d20_32) rfl (l' := #[.val (.ref ca), .val (.int (8 : Int32)), .val (.ref da), .val (.int (7 : Int32)), .val (.int (26 : Int32)), .val (.int (7 : Int32)), .val (.int c7)]) rfl ?_
    show Steps p.tables e below (T46.setTop (mkF m 35 #[.val (.ref ca), .val (.int (8 : Int32)), .val (.ref da), .val (.int (7 : Int32)), .val (.int (26 : Int32)), .val (.int (7 : Int32)), .val (.int c7)] [])) _
    refine XS.iinc X46.here hx rfl (hb hby d20_35) rfl (l' := #[.val (.ref ca), .val (.int (8 : Int32)), .val (.ref da), .val (.int (8 : Int32)), .val (.int (26 : Int32)), .val (.int (7 : Int32)), .val (.int c7)]) rfl ?_
    show Steps p.tables e below (T46.setTop (mkF m 38 #[.val (.ref ca), .val (.int (8 : Int32)), .val (.ref da), .val (.int (8 : Int32)), .val (.int (26 : Int32)), .val (.int (7 : Int32)), .val (.int c7)] [])) _
    refine XS.iinc X46.here hx rfl (hb hby d20_38) rfl (l' := #[.val (.ref ca), .val (.int (8 : Int32)), .val (.ref da), .val (.int (8 : Int32)), .val (.int (26 : Int32)), .val (.int (8 : Int32)), .val (.int c7)]) rfl ?_
    show Steps p.tables e below (T46.setTop (mkF m 41 #[.val (.ref ca), .val (.int (8 : Int32)), .val (.ref da), .val (.int (8 : Int32)), .val (.int (26 : Int32)), .val (.int (8 : Int32)), .val (.int c7)] [])) _
    refine XS.goto X46.here hx rfl (pc0 := 41) (pc' := 3) rfl (hb hby d20_41) (by decide) (by decide) ?_
    show Steps p.tables e below (T46.setTop (mkF m 3 #[.val (.ref ca), .val (.int (8 : Int32)), .val (.ref da), .val (.int (8 : Int32)), .val (.int (26 : Int32)), .val (.int (8 : Int32)), .val (.int c7)] [])) _
    refine XS.iload X46.here hx rfl (hb hby d20_3) rfl ?_
    show Steps p.tables e below (T46.setTop (mkF m 5 #[.val (.ref ca), .val (.int (8 : Int32)), .val (.ref da), .val (.int (8 : Int32)), .val (.int (26 : Int32)), .val (.int (8 : Int32)), .val (.int c7)] [(.int (8 : Int32))])) _
    refine XS.iload X46.here hx rfl (hb hby d20_5) rfl ?_
    show Steps p.tables e below (T46.setTop (mkF m 7 #[.val (.ref ca), .val (.int (8 : Int32)), .val (.ref da), .val (.int (8 : Int32)), .val (.int (26 : Int32)), .val (.int (8 : Int32)), .val (.int c7)] [(.int (26 : Int32)), (.int (8 : Int32))])) _
    refine XS.icmpNo X46.here hx rfl (hb hby d20_7) rfl (tlt (by decide : ((8 : Int32) < (26 : Int32)))).2.1 ?_
    show Steps p.tables e below (T46.setTop (mkF m 10 #[.val (.ref ca), .val (.int (8 : Int32)), .val (.ref da), .val (.int (8 : Int32)), .val (.int (26 : Int32)), .val (.int (8 : Int32)), .val (.int c7)] [])) _
    refine XS.aloadN X46.here hx rfl (hb hby d20_10) rfl rfl ?_
    show Steps p.tables e below (T46.setTop (mkF m 11 #[.val (.ref ca), .val (.int (8 : Int32)), .val (.ref da), .val (.int (8 : Int32)), .val (.int (26 : Int32)), .val (.int (8 : Int32)), .val (.int c7)] [(.ref ca)])) _
    refine XS.iloadN X46.here hx rfl (hb hby d20_11) rfl ?_
    show Steps p.tables e below (T46.setTop (mkF m 12 #[.val (.ref ca), .val (.int (8 : Int32)), .val (.ref da), .val (.int (8 : Int32)), .val (.int (26 : Int32)), .val (.int (8 : Int32)), .val (.int c7)] [(.int (8 : Int32)), (.ref ca)])) _
    refine ldC X46 hx hZ e46 G47 ix49.1 ix49.2 (g := (mkF m 12 #[.val (.ref ca), .val (.int (8 : Int32)), .val (.ref da), .val (.int (8 : Int32)), .val (.int (26 : Int32)), .val (.int (8 : Int32)), .val (.int c7)] [(.int (8 : Int32)), (.ref ca)])) rfl rfl (hb hby d20_12) _ ?_
    show Steps p.tables e below (T46.setTop (mkF m 13 #[.val (.ref ca), .val (.int (8 : Int32)), .val (.ref da), .val (.int (8 : Int32)), .val (.int (26 : Int32)), .val (.int (8 : Int32)), .val (.int c7)] [(.int c8)])) _
    refine XS.istore X46.here hx rfl (hb hby d20_13) rfl (l' := #[.val (.ref ca), .val (.int (8 : Int32)), .val (.ref da), .val (.int (8 : Int32)), .val (.int (26 : Int32)), .val (.int (8 : Int32)), .val (.int c8)]) rfl ?_
    show Steps p.tables e below (T46.setTop (mkF m 15 #[.val (.ref ca), .val (.int (8 : Int32)), .val (.ref da), .val (.int (8 : Int32)), .val (.int (26 : Int32)), .val (.int (8 : Int32)), .val (.int c8)] [])) _
    refine XS.iload X46.here hx rfl (hb hby d20_15) rfl ?_
    show Steps p.tables e below (T46.setTop (mkF m 17 #[.val (.ref ca), .val (.int (8 : Int32)), .val (.ref da), .val (.int (8 : Int32)), .val (.int (26 : Int32)), .val (.int (8 : Int32)), .val (.int c8)] [(.int c8)])) _
    refine XS.sipush X46.here hx rfl (hb hby d20_17) ?_
    exact kt
  have hd50 : ¬ ((255 : Int32) < c8) := hle _ (by simp)
  have ix51 : 0 ≤ ((8 : Int32)).toInt ∧ ((8 : Int32)).toInt < (([(nar .byte (c0.toInt8.toInt32)), (nar .byte (c1.toInt8.toInt32)), (nar .byte (c2.toInt8.toInt32)), (nar .byte (c3.toInt8.toInt32)), (nar .byte (c4.toInt8.toInt32)), (nar .byte (c5.toInt8.toInt32)), (nar .byte (c6.toInt8.toInt32)), (nar .byte (c7.toInt8.toInt32)), (0 : Int32), (0 : Int32), (0 : Int32), (0 : Int32), (0 : Int32), (0 : Int32), (0 : Int32), (0 : Int32), (0 : Int32), (0 : Int32), (0 : Int32), (0 : Int32), (0 : Int32), (0 : Int32), (0 : Int32), (0 : Int32), (0 : Int32), (0 : Int32)]).length : Int) := by constructor <;> first | decide | (simp; done)
  obtain ⟨T52, h52, X52, e52, W52, V52, st52⟩ := putB X46 hx hZ e46 G48 ix51.1 ix51.2 (g := (mkF m 31 #[.val (.ref ca), .val (.int (8 : Int32)), .val (.ref da), .val (.int (8 : Int32)), .val (.int (26 : Int32)), .val (.int (8 : Int32)), .val (.int c8)] [(.int (c8.toInt8.toInt32)), (.int (8 : Int32)), (.ref da)])) rfl rfl (hb hby d20_31)
  have G53 : VA Z h52 ca .char ([c0, c1, c2, c3, c4, c5, c6, c7, c8, c9, c10, c11, c12, c13, c14, c15, c16, c17, c18, c19, c20, c21, c22, c23, c24, c25].map Value.int) := G47.other W52 ne_ca_da
  have G54 : VA Z h52 da .byte ([(nar .byte (c0.toInt8.toInt32)), (nar .byte (c1.toInt8.toInt32)), (nar .byte (c2.toInt8.toInt32)), (nar .byte (c3.toInt8.toInt32)), (nar .byte (c4.toInt8.toInt32)), (nar .byte (c5.toInt8.toInt32)), (nar .byte (c6.toInt8.toInt32)), (nar .byte (c7.toInt8.toInt32)), (nar .byte (c8.toInt8.toInt32)), (0 : Int32), (0 : Int32), (0 : Int32), (0 : Int32), (0 : Int32), (0 : Int32), (0 : Int32), (0 : Int32), (0 : Int32), (0 : Int32), (0 : Int32), (0 : Int32), (0 : Int32), (0 : Int32), (0 : Int32), (0 : Int32), (0 : Int32)].map Value.int) := V52
  have N52 := Fr.snoc X52 N46 g_da
  have K52 : Keep h0 h52 [da] := Keep.wr K46 W52 (Or.inl (List.mem_of_getElem? (i := 0) rfl))
  have Z52 : n0 ≤ h52.size := Nat.le_trans Z0 K52.1
  have ix55 : 0 ≤ ((9 : Int32)).toInt ∧ ((9 : Int32)).toInt < (([c0, c1, c2, c3, c4, c5, c6, c7, c8, c9, c10, c11, c12, c13, c14, c15, c16, c17, c18, c19, c20, c21, c22, c23, c24, c25]).length : Int) := by constructor <;> first | decide | (simp; done)
  refine Go.step (T' := T52) (f' := (mkF m 20 #[.val (.ref ca), .val (.int (9 : Int32)), .val (.ref da), .val (.int (9 : Int32)), .val (.int (26 : Int32)), .val (.int (9 : Int32)), .val (.int c9)] [(.int (255 : Int32)), (.int c9)])) (fun t kt => ?_) ?_
  · show Steps p.tables e below (T46.setTop (mkF m 20 #[.val (.ref ca), .val (.int (8 : Int32)), .val (.ref da), .val (.int (8 : Int32)), .val (.int (26 : Int32)), .val (.int (8 : Int32)), .val (.int c8)] [(.int (255 : Int32)), (.int c8)])) _
    refine XS.icmpYes X46.here hx rfl (pc0 := 20) (pc' := 26) rfl (hb hby d20_20) rfl (flt hd50).2.2.2 (by decide) (by decide) ?_
    show Steps p.tables e below (T46.setTop (mkF m 26 #[.val (.ref ca), .val (.int (8 : Int32)), .val (.ref da), .val (.int (8 : Int32)), .val (.int (26 : Int32)), .val (.int (8 : Int32)), .val (.int c8)] [])) _
    refine XS.aloadN X46.here hx rfl (hb hby d20_26) rfl rfl ?_
    show Steps p.tables e below (T46.setTop (mkF m 27 #[.val (.ref ca), .val (.int (8 : Int32)), .val (.ref da), .val (.int (8 : Int32)), .val (.int (26 : Int32)), .val (.int (8 : Int32)), .val (.int c8)] [(.ref da)])) _
    refine XS.iloadN X46.here hx rfl (hb hby d20_27) rfl ?_
    show Steps p.tables e below (T46.setTop (mkF m 28 #[.val (.ref ca), .val (.int (8 : Int32)), .val (.ref da), .val (.int (8 : Int32)), .val (.int (26 : Int32)), .val (.int (8 : Int32)), .val (.int c8)] [(.int (8 : Int32)), (.ref da)])) _
    refine XS.iload X46.here hx rfl (hb hby d20_28) rfl ?_
    show Steps p.tables e below (T46.setTop (mkF m 30 #[.val (.ref ca), .val (.int (8 : Int32)), .val (.ref da), .val (.int (8 : Int32)), .val (.int (26 : Int32)), .val (.int (8 : Int32)), .val (.int c8)] [(.int c8), (.int (8 : Int32)), (.ref da)])) _
    refine XS.i2b X46.here hx rfl (hb hby d20_30) rfl ?_
    show Steps p.tables e below (T46.setTop (mkF m 31 #[.val (.ref ca), .val (.int (8 : Int32)), .val (.ref da), .val (.int (8 : Int32)), .val (.int (26 : Int32)), .val (.int (8 : Int32)), .val (.int c8)] [(.int (c8.toInt8.toInt32)), (.int (8 : Int32)), (.ref da)])) _
    refine st52 _ ?_
    show Steps p.tables e below (T52.setTop (mkF m 32 #[.val (.ref ca), .val (.int (8 : Int32)), .val (.ref da), .val (.int (8 : Int32)), .val (.int (26 : Int32)), .val (.int (8 : Int32)), .val (.int c8)] [])) _
    refine XS.iinc X52.here hx rfl (hb hby d20_32) rfl (l' := #[.val (.ref ca), .val (.int (9 : Int32)), .val (.ref da), .val (.int (8 : Int32)), .val (.int (26 : Int32)), .val (.int (8 : Int32)), .val (.int c8)]) rfl ?_
    show Steps p.tables e below (T52.setTop (mkF m 35 #[.val (.ref ca), .val (.int (9 : Int32)), .val (.ref da), .val (.int (8 : Int32)), .val (.int (26 : Int32)), .val (.int (8 : Int32)), .val (.int c8)] [])) _
    refine XS.iinc X52.here hx rfl (hb hby d20_35) rfl (l' := #[.val (.ref ca), .val (.int (9 : Int32)), .val (.ref da), .val (.int (9 : Int32)), .val (.int (26 : Int32)), .val (.int (8 : Int32)), .val (.int c8)]) rfl ?_
    show Steps p.tables e below (T52.setTop (mkF m 38 #[.val (.ref ca), .val (.int (9 : Int32)), .val (.ref da), .val (.int (9 : Int32)), .val (.int (26 : Int32)), .val (.int (8 : Int32)), .val (.int c8)] [])) _
    refine XS.iinc X52.here hx rfl (hb hby d20_38) rfl (l' := #[.val (.ref ca), .val (.int (9 : Int32)), .val (.ref da), .val (.int (9 : Int32)), .val (.int (26 : Int32)), .val (.int (9 : Int32)), .val (.int c8)]) rfl ?_
    show Steps p.tables e below (T52.setTop (mkF m 41 #[.val (.ref ca), .val (.int (9 : Int32)), .val (.ref da), .val (.int (9 : Int32)), .val (.int (26 : Int32)), .val (.int (9 : Int32)), .val (.int c8)] [])) _
    refine XS.goto X52.here hx rfl (pc0 := 41) (pc' := 3) rfl (hb hby d20_41) (by decide) (by decide) ?_
    show Steps p.tables e below (T52.setTop (mkF m 3 #[.val (.ref ca), .val (.int (9 : Int32)), .val (.ref da), .val (.int (9 : Int32)), .val (.int (26 : Int32)), .val (.int (9 : Int32)), .val (.int c8)] [])) _
    refine XS.iload X52.here hx rfl (hb hby d20_3) rfl ?_
    show Steps p.tables e below (T52.setTop (mkF m 5 #[.val (.ref ca), .val (.int (9 : Int32)), .val (.ref da), .val (.int (9 : Int32)), .val (.int (26 : Int32)), .val (.int (9 : Int32)), .val (.int c8)] [(.int (9 : Int32))])) _
    refine XS.iload X52.here hx rfl (hb hby d20_5) rfl ?_
    show Steps p.tables e below (T52.setTop (mkF m 7 #[.val (.ref ca), .val (.int (9 : Int32)), .val (.ref da), .val (.int (9 : Int32)), .val (.int (26 : Int32)), .val (.int (9 : Int32)), .val (.int c8)] [(.int (26 : Int32)), (.int (9 : Int32))])) _
    refine XS.icmpNo X52.here hx rfl (hb hby d20_7) rfl (tlt (by decide : ((9 : Int32) < (26 : Int32)))).2.1 ?_
    show Steps p.tables e below (T52.setTop (mkF m 10 #[.val (.ref ca), .val (.int (9 : Int32)), .val (.ref da), .val (.int (9 : Int32)), .val (.int (26 : Int32)), .val (.int (9 : Int32)), .val (.int c8)] [])) _
    refine XS.aloadN X52.here hx rfl (hb hby d20_10) rfl rfl ?_
    show Steps p.tables e below (T52.setTop (mkF m 11 #[.val (.ref ca), .val (.int (9 : Int32)), .val (.ref da), .val (.int (9 : Int32)), .val (.int (26 : Int32)), .val (.int (9 : Int32)), .val (.int c8)] [(.ref ca)])) _
    refine XS.iloadN X52.here hx rfl (hb hby d20_11) rfl ?_
    show Steps p.tables e below (T52.setTop (mkF m 12 #[.val (.ref ca), .val (.int (9 : Int32)), .val (.ref da), .val (.int (9 : Int32)), .val (.int (26 : Int32)), .val (.int (9 : Int32)), .val (.int c8)] [(.int (9 : Int32)), (.ref ca)])) _
    refine ldC X52 hx hZ e52 G53 ix55.1 ix55.2 (g := (mkF m 12 #[.val (.ref ca), .val (.int (9 : Int32)), .val (.ref da), .val (.int (9 : Int32)), .val (.int (26 : Int32)), .val (.int (9 : Int32)), .val (.int c8)] [(.int (9 : Int32)), (.ref ca)])) rfl rfl (hb hby d20_12) _ ?_
    show Steps p.tables e below (T52.setTop (mkF m 13 #[.val (.ref ca), .val (.int (9 : Int32)), .val (.ref da), .val (.int (9 : Int32)), .val (.int (26 : Int32)), .val (.int (9 : Int32)), .val (.int c8)] [(.int c9)])) _
    refine XS.istore X52.here hx rfl (hb hby d20_13) rfl (l' := #[.val (.ref ca), .val (.int (9 : Int32)), .val (.ref da), .val (.int (9 : Int32)), .val (.int (26 : Int32)), .val (.int (9 : Int32)), .val (.int c9)]) rfl ?_
    show Steps p.tables e below (T52.setTop (mkF m 15 #[.val (.ref ca), .val (.int (9 : Int32)), .val (.ref da), .val (.int (9 : Int32)), .val (.int (26 : Int32)), .val (.int (9 : Int32)), .val (.int c9)] [])) _
    refine XS.iload X52.here hx rfl (hb hby d20_15) rfl ?_
    show Steps p.tables e below (T52.setTop (mkF m 17 #[.val (.ref ca), .val (.int (9 : Int32)), .val (.ref da), .val (.int (9 : Int32)), .val (.int (26 : Int32)), .val (.int (9 : Int32)), .val (.int c9)] [(.int c9)])) _
    refine XS.sipush X52.here hx rfl (hb hby d20_17) ?_
    exact kt
  have hd56 : ¬ ((255 : Int32) < c9) := hle _ (by simp)
  have ix57 : 0 ≤ ((9 : Int32)).toInt ∧ ((9 : Int32)).toInt < (([(nar .byte (c0.toInt8.toInt32)), (nar .byte (c1.toInt8.toInt32)), (nar .byte (c2.toInt8.toInt32)), (nar .byte (c3.toInt8.toInt32)), (nar .byte (c4.toInt8.toInt32)), (nar .byte (c5.toInt8.toInt32)), (nar .byte (c6.toInt8.toInt32)), (nar .byte (c7.toInt8.toInt32)), (nar .byte (c8.toInt8.toInt32)), (0 : Int32), (0 : Int32), (0 : Int32), (0 : Int32), (0 : Int32), (0 : Int32), (0 : Int32), (0 : Int32), (0 : Int32), (0 : Int32), (0 : Int32), (0 : Int32), (0 : Int32), (0 : Int32), (0 : Int32), (0 : Int32), (0 : Int32)]).length : Int) := by constructor <;> first | decide | (simp; done)
  obtain ⟨T58, h58, X58, e58, W58, V58, st58⟩ := putB X52 hx hZ e52 G54 ix57.1 ix57.2 (g := (mkF m 31 #[.val (.ref ca), .val (.int (9 : Int32)), .val (.ref da), .val (.int (9 : Int32)), .val (.int (26 : Int32)), .val (.int (9 : Int32)), .val (.int c9)] [(.int (c9.toInt8.toInt32)), (.int (9 : Int32)), (.ref da)])) rfl rfl (hb hby d20_31)
  have G59 : VA Z h58 ca .char ([c0, c1, c2, c3, c4, c5, c6, c7, c8, c9, c10, c11, c12, c13, c14, c15, c16, c17, c18, c19, c20, c21, c22, c23, c24, c25].map Value.int) := G53.other W58 ne_ca_da
  have G60 : VA Z h58 da .byte ([(nar .byte (c0.toInt8.toInt32)), (nar .byte (c1.toInt8.toInt32)), (nar .byte (c2.toInt8.toInt32)), (nar .byte (c3.toInt8.toInt32)), (nar .byte (c4.toInt8.toInt32)), (nar .byte (c5.toInt8.toInt32)), (nar .byte (c6.toInt8.toInt32)), (nar .byte (c7.toInt8.toInt32)), (nar .byte (c8.toInt8.toInt32)), (nar .byte (c9.toInt8.toInt32)), (0 : Int32), (0 : Int32), (0 : Int32), (0 : Int32), (0 : Int32), (0 : Int32), (0 : Int32), (0 : Int32), (0 : Int32), (0 : Int32), (0 : Int32), (0 : Int32), (0 : Int32), (0 : Int32), (0 : Int32), (0 : Int32)].map Value.int) := V58
  have N58 := Fr.snoc X58 N52 g_da
  have K58 : Keep h0 h58 [da] := Keep.wr K52 W58 (Or.inl (List.mem_of_getElem? (i := 0) rfl))
  have Z58 : n0 ≤ h58.size := Nat.le_trans Z0 K58.1
  have ix61 : 0 ≤ ((10 : Int32)).toInt ∧ ((10 : Int32)).toInt < (([c0, c1, c2, c3, c4, c5, c6, c7, c8, c9, c10, c11, c12, c13, c14, c15, c16, c17, c18, c19, c20, c21, c22, c23, c24, c25]).length : Int) := by constructor <;> first | decide | (simp; done)
  refine Go.step (T' := T58) (f' := (mkF m 20 #[.val (.ref ca), .val (.int (10 : Int32)), .val (.ref da), .val (.int (10 : Int32)), .val (.int (26 : Int32)), .val (.int (10 : Int32)), .val (.int c10)] [(.int (255 : Int32)), (.int c10)])) (fun t kt => ?_) ?_
  · show Steps p.tables e below (T52.setTop (mkF m 20 #[.val (.ref ca), .val (.int (9 : Int32)), .val (.ref da), .val (.int (9 : Int32)), .val (.int (26 : Int32)), .val (.int (9 : Int32)), .val (.int c9)] [(.int (255 : Int32)), (.int c9)])) _
    refine XS.icmpYes X52.here hx rfl (pc0 := 20) (pc' := 26) rfl (hb hby d20_20) rfl (flt hd56).2.2.2 (by decide) (by decide) ?_
    show Steps p.tables e below (T52.setTop (mkF m 26 #[.val (.ref ca), .val (.int (9 : Int32)), .val (.ref da), .val (.int (9 : Int32)), .val (.int (26 : Int32)), .val (.int (9 : Int32)), .val (.int c9)] [])) _
    refine XS.aloadN X52.here hx rfl (hb hby d20_26) rfl rfl ?_
    show Steps p.tables e below (T52.setTop (mkF m 27 #[.val (.ref ca), .val (.int (9 : Int32)), .val (.ref da), .val (.int (9 : Int32)), .val (.int (26 : Int32)), .val (.int (9 : Int32)), .val (.int c9)] [(.ref da)])) _
    refine XS.iloadN X52.here hx rfl (hb hby d20_27) rfl ?_
    show Steps p.tables e below (T52.setTop (mkF m 28 #[.val (.ref ca), .val (.int (9 : Int32)), .val (.ref da), .val (.int (9 : Int32)), .val (.int (26 : Int32)), .val (.int (9 : Int32)), .val (.int c9)] [(.int (9 : Int32)), (.ref da)])) _
    refine XS.iload X52.here hx rfl (hb hby d20_28) rfl ?_
    show Steps p.tables e below (T52.setTop (mkF m 30 #[.val (.ref ca), .val (.int (9 : Int32)), .val (.ref da), .val (.int (9 : Int32)), .val (.int (26 : Int32)), .val (.int (9 : Int32)), .val (.int c9)] [(.int c9), (.int (9 : Int32)), (.ref da)])) _
    refine XS.i2b X52.here hx rfl (hb hby d20_30) rfl ?_
    show Steps p.tables e below (T52.setTop (mkF m 31 #[.val (.ref ca), .val (.int (9 : Int32)), .val (.ref da), .val (.int (9 : Int32)), .val (.int (26 : Int32)), .val (.int (9 : Int32)), .val (.int c9)] [(.int (c9.toInt8.toInt32)), (.int (9 : Int32)), (.ref da)])) _
    refine st58 _ ?_
    show Steps p.tables e below (T58.setTop (mkF m 32 #[.val (.ref ca), .val (.int (9 : Int32)), .val (.ref da), .val (.int (9 : Int32)), .val (.int (26 : Int32)), .val (.int (9 : Int32)), .val (.int c9)] [])) _
    refine XS.iinc X58.here hx rfl (hb hby d20_32) rfl (l' := #[.val (.ref ca), .val (.int (10 : Int32)), .val (.ref da), .val (.int (9 : Int32)), .val (.int (26 : Int32)), .val (.int (9 : Int32)), .val (.int c9)]) rfl ?_
    show Steps p.tables e below (T58.setTop (mkF m 35 #[.val (.ref ca), .val (.int (10 : Int32)), .val (.ref da), .val (.int (9 : Int32)), .val (.int (26 : Int32)), .val (.int (9 : Int32)), .val (.int c9)] [])) _
    refine XS.iinc X58.here hx rfl (hb hby d20_35) rfl (l' := #[.val (.ref ca), .val (.int (10 : Int32)), .val (.ref da), .val (.int (10 : Int32)), .val (.int (26 : Int32)), .val (.int (9 : Int32)), .val (.int c9)]) rfl ?_
    show Steps p.tables e below (T58.setTop (mkF m 38 #[.val (.ref ca), .val (.int (10 : Int32)), .val (.ref da), .val (.int (10 : Int32)), .val (.int (26 : Int32)), .val (.int (9 : Int32)), .val (.int c9)] [])) _
    refine XS.iinc X58.here hx rfl (hb hby d20_38) rfl (l' := #[.val (.ref ca), .val (.int (10 : Int32)), .val (.ref da), .val (.int (10 : Int32)), .val (.int (26 : Int32)), .val (.int (10 : Int32)), .val (.int c9)]) rfl ?_
    show Steps p.tables e below (T58.setTop (mkF m 41 #[.val (.ref ca), .val (.int (10 : Int32)), .val (.ref da), .val (.int (10 : Int32)), .val (.int (26 : Int32)), .val (.int (10 : Int32)), .val (.int c9)] [])) _
    refine XS.goto X58.here hx rfl (pc0 := 41) (pc' := 3) rfl (hb hby d20_41) (by decide) (by decide) ?_
    show Steps p.tables e below (T58.setTop (mkF m 3 #[.val (.ref ca), .val (.int (10 : Int32)), .val (.ref da), .val (.int (10 : Int32)), .val (.int (26 : Int32)), .val (.int (10 : Int32)), .val (.int c9)] [])) _
    refine XS.iload X58.here hx rfl (hb hby d20_3) rfl ?_
    show Steps p.tables e below (T58.setTop (mkF m 5 #[.val (.ref ca), .val (.int (10 : Int32)), .val (.ref da), .val (.int (10 : Int32)), .val (.int (26 : Int32)), .val (.int (10 : Int32)), .val (.int c9)] [(.int (10 : Int32))])) _
    refine XS.iload X58.here hx rfl (hb hby d20_5) rfl ?_
    show Steps p.tables e below (T58.setTop (mkF m 7 #[.val (.ref ca), .val (.int (10 : Int32)), .val (.ref da), .val (.int (10 : Int32)), .val (.int (26 : Int32)), .val (.int (10 : Int32)), .val (.int c9)] [(.int (26 : Int32)), (.int (10 : Int32))])) _
    refine XS.icmpNo X58.here hx rfl (hb hby d20_7) rfl (tlt (by decide : ((10 : Int32) < (26 : Int32)))).2.1 ?_
    show Steps p.tables e below (T58.setTop (mkF m 10 #[.val (.ref ca), .val (.int (10 : Int32)), .val (.ref da), .val (.int (10 : Int32)), .val (.int (26 : Int32)), .val (.int (10 : Int32)), .val (.int c9)] [])) _
    refine XS.aloadN X58.here hx rfl (hb hby d20_10) rfl rfl ?_
    show Steps p.tables e below (T58.setTop (mkF m 11 #[.val (.ref ca), .val (.int (10 : Int32)), .val (.ref da), .val (.int (10 : Int32)), .val (.int (26 : Int32)), .val (.int (10 : Int32)), .val (.int c9)] [(.ref ca)])) _
    refine XS.iloadN X58.here hx rfl (hb hby d20_11) rfl ?_
    show Steps p.tables e below (T58.setTop (mkF m 12 #[.val (.ref ca), .val (.int (10 : Int32)), .val (.ref da), .val (.int (10 : Int32)), .val (.int (26 : Int32)), .val (.int (10 : Int32)), .val (.int c9)] [(.int (10 : Int32)), (.ref ca)])) _
    refine ldC X58 hx hZ e58 G59 ix61.1 ix61.2 (g := (mkF m 12 #[.val (.ref ca), .val (.int (10 : Int32)), .val (.ref da), .val (.int (10 : Int32)), .val (.int (26 : Int32)), .val (.int (10 : Int32)), .val (.int c9)] [(.int (10 : Int32)), (.ref ca)])) rfl rfl (hb hby d20_12) _ ?_
    show Steps p.tables e below (T58.setTop (mkF m 13 #[.val (.ref ca), .val (.int (10 : Int32)), .val (.ref da), .val (.int (10 : Int32)), .val (.int (26 : Int32)), .val (.int (10 : Int32)), .val (.int c9)] [(.int c10)])) _
    refine XS.istore X58.here hx rfl (hb hby d20_13) rfl (l' := #[.val (.ref ca), .val (.int (10 : Int32)), .val (.ref da), .val (.int (10 : Int32)), .val (.int (26 : Int32)), .val (.int (10 : Int32)), .val (.int c10)]) rfl ?_
    show Steps p.tables e below (T58.setTop (mkF m 15 #[.val (.ref ca), .val (.int (10 : Int32)), .val (.ref da), .val (.int (10 : Int32)), .val (.int (26 : Int32)), .val (.int (10 : Int32)), .val (.int c10)] [])) _
    refine XS.iload X58.here hx rfl (hb hby d20_15) rfl ?_
    show Steps p.tables e below (T58.setTop (mkF m 17 #[.val (.ref ca), .val (.int (10 : Int32)), .val (.ref da), .val (.int (10 : Int32)), .val (.int (26 : Int32)), .val (.int (10 : Int32)), .val (.int c10)] [(.int c10)])) _
    refine XS.sipush X58.here hx rfl (hb hby d20_17) ?_
    exact kt
  have hd62 : ¬ ((255 : Int32) < c10) := hle _ (by simp)
  have ix63 : 0 ≤ ((10 : Int32)).toInt ∧ ((10 : Int32)).toInt < (([(nar .byte (c0.toInt8.toInt32)), (nar .byte (c1.toInt8.toInt32)), (nar .byte (c2.toInt8.toInt32)), (nar .byte (c3.toInt8.toInt32)), (nar .byte (c4.toInt8.toInt32)), (nar .byte (c5.toInt8.toInt32)), (nar .byte (c6.toInt8.toInt32)), (nar .byte (c7.toInt8.toInt32)), (nar .byte (c8.toInt8.toInt32)), (nar .byte (c9.toInt8.toInt32)), (0 : Int32), (0 : Int32), (0 : Int32), (0 : Int32), (0 : Int32), (0 : Int32), (0 : Int32), (0 : Int32), (0 : Int32), (0 : Int32), (0 : Int32), (0 : Int32), (0 : Int32), (0 : Int32), (0 : Int32), (0 : Int32)]).length : Int) := by constructor <;> first | decide | (simp; done)
  obtain ⟨T64, h64, X64, e64, W64, V64, st64⟩ := putB X58 hx hZ e58 G60 ix63.1 ix63.2 (g := (mkF m 31 #[.val (.ref ca), .val (.int (10 : Int32)), .val (.ref da), .val (.int (10 : Int32)), .val (.int (26 : Int32)), .val (.int (10 : Int32)), .val (.int c10)] [(.int (c10.toInt8.toInt32)), (.int (10 : Int32)), (.ref da)])) rfl rfl (hb hby d20_31)
  have G65 : VA Z h64 ca .char ([c0, c1, c2, c3, c4, c5, c6, c7, c8, c9, c10, c11, c12, c13, c14, c15, c16, c17, c18, c19, c20, c21, c22, c23, c24, c25].map Value.int) := G59.other W64 ne_ca_da
  have G66 : VA Z h64 da .byte ([(nar .byte (c0.toInt8.toInt32)), (nar .byte (c1.toInt8.toInt32)), (nar .byte (c2.toInt8.toInt32)), (nar .byte (c3.toInt8.toInt32)), (nar .byte (c4.toInt8.toInt32)), (nar .byte (c5.toInt8.toInt32)), (nar .byte (c6.toInt8.toInt32)), (nar .byte (c7.toInt8.toInt32)), (nar .byte (c8.toInt8.toInt32)), (nar .byte (c9.toInt8.toInt32)), (nar .byte (c10.toInt8.toInt32)), (0 : Int32), (0 : Int32), (0 : Int32), (0 : Int32), (0 : Int32), (0 : Int32), (0 : Int32), (0 : Int32), (0 : Int32), (0 : Int32), (0 : Int32), (0 : Int32), (0 : Int32), (0 : Int32), (0 : Int32)].map Value.int) := V64
  have N64 := Fr.snoc X64 N58 g_da
  have K64 : Keep h0 h64 [da] := Keep.wr K58 W64 (Or.inl (List.mem_of_getElem? (i := 0) rfl))
  have Z64 : n0 ≤ h64.size := Nat.le_trans Z0 K64.1
  have ix67 : 0 ≤ ((11 : Int32)).toInt ∧ ((11 : Int32)).toInt < (([c0, c1, c2, c3, c4, c5, c6, c7, c8, c9, c10, c11, c12, c13, c14, c15, c16, c17, c18, c19, c20, c21, c22, c23, c24, c25]).length : Int) := by constructor <;> first | decide | (simp; done)
  refine Go.step (T' := T64) (f' := (mkF m 20 #[.val (.ref ca), .val (.int (11 : Int32)), .val (.ref da), .val (.int (11 : Int32)), .val (.int (26 : Int32)), .val (.int (11 : Int32)), .val (.int c11)] [(.int (255 : Int32)), (.int c11)])) (fun t kt => ?_) ?_
  · show Steps p.tables e below (T58.setTop (mkF m 20 #[.val (.ref ca), .val (.int (10 : Int32)), .val (.ref da), .val (.int (10 : Int32)), .val (.int (26 : Int32)), .val (.int (10 : Int32)), .val (.int c10)] [(.int (255 : Int32)), (.int c10)])) _
    refine XS.icmpYes X58.here hx rfl (pc0 := 20) (pc' := 26) rfl (hb hby d20_20) rfl (flt hd62).2.2.2 (by decide) (by decide) ?_
    show Steps p.tables e below (T58.setTop (mkF m 26 #[.val (.ref ca), .val (.int (10 : Int32)), .val (.ref da), .val (.int (10 : Int32)), .val (.int (26 : Int32)), .val (.int (10 : Int32)), .val (.int c10)] [])) _
    refine XS.aloadN X58.here hx rfl (hb hby d20_26) rfl rfl ?_
    show Steps p.tables e below (T58.setTop (mkF m 27 #[.val (.ref ca), .val (.int (10 : Int32)), .val (.ref da), .val (.int (10 : Int32)), .val (.int (26 : Int32)), .val (.int (10 : Int32)), .val (.int c10)] [(.ref da)])) _
    refine XS.iloadN X58.here hx rfl (hb hby d20_27) rfl ?_
    show Steps p.tables e below (T58.setTop (mkF m 28 #[.val (.ref ca), .val (.int (10 : Int32)), .val (.ref da), .val (.int (10 : Int32)), .val (.int (26 : Int32)), .val (.int (10 : Int32)), .val (.int c10)] [(.int (10 : Int32)), (.ref da)])) _
    refine XS.iload X58.here hx rfl (hb hby d20_28) rfl ?_
    show Steps p.tables e below (T58.setTop (mkF m 30 #[.val (.ref ca), .val (.int (10 : Int32)), .val (.ref da), .val (.int (10 : Int32)), .val (.int (26 : Int32)), .val (.int (10 : Int32)), .val (.int c10)] [(.int c10), (.int (10 : Int32)), (.ref da)])) _
    refine XS.i2b X58.here hx rfl (hb hby d20_30) rfl ?_
    show Steps p.tables e below (T58.setTop (mkF m 31 #[.val (.ref ca), .val (.int (10 : Int32)), .val (.ref da), .val (.int (10 : Int32)), .val (.int (26 : Int32)), .val (.int (10 : Int32)), .val (.int c10)] [(.int (c10.toInt8.toInt32)), (.int (10 : Int32)), (.ref da)])) _
    refine st64 _ ?_
    show Steps p.tables e below (T64.setTop (mkF m 32 #[.val (.ref ca), .val (.int (10 : Int32)), .val (.ref da), .val (.int (10 : Int32)), .val (.int (26 : Int32)), .val (.int (10 : Int32)), .val (.int c10)] [])) _
    refine XS.iinc X64.here hx rfl (hb hby d20_32) rfl (l' := #[.val (.ref ca), .val (.int (11 : Int32)), .val (.ref da), .val (.int (10 : Int32)), .val (.int (26 : Int32)), .val (.int (10 : Int32)), .val (.int c10)]) rfl ?_
    show Steps p.tables e below (T64.setTop (mkF m 35 #[.val (.ref ca), .val (.int (11 : Int32)), .val (.ref da), .val (.int (10 : Int32)), .val (.int (26 : Int32)), .val (.int (10 : Int32)), .val (.int c10)] [])) _
    refine XS.iinc X64.here hx rfl (hb hby d20_35) rfl (l' := #[.val (.ref ca), .val (.int (11 : Int32)), .val (.ref da), .val (.int (11 : Int32)), .val (.int (26 : Int32)), .val (.int (10 : Int32)), .val (.int c10)]) rfl ?_
    show Steps p.tables e below (T64.setTop (mkF m 38 #[.val (.ref ca), .val (.int (11 : Int32)), .val (.ref da), .val (.int (11 : Int32)), .val (.int (26 : Int32)), .val (.int (10 : Int32)), .val (.int c10)] [])) _
    refine XS.iinc X64.here hx rfl (hb hby d20_38) rfl (l' := #[.val (.ref ca), .val (.int (11 : Int32)), .val (.ref da), .val (.int (11 : Int32)), .val (.int (26 : Int32)), .val (.int (11 : Int32)), .val (.int c10)]) rfl ?_
    show Steps p.tables e below (T64.setTop (mkF m 41 #[.val (.ref ca), .val (.int (11 : Int32)), .val (.ref da), .val (.int (11 : Int32)), .val (.int (26 : Int32)), .val (.int (11 : Int32)), .val (.int c10)] [])) _
    refine XS.goto X64.here hx rfl (pc0 := 41) (pc' := 3) rfl (hb hby d20_41) (by decide) (by decide) ?_
    show Steps p.tables e below (T64.setTop (mkF m 3 #[.val (.ref ca), .val (.int (11 : Int32)), .val (.ref da), .val (.int (11 : Int32)), .val (.int (26 : Int32)), .val (.int (11 : Int32)), .val (.int c10)] [])) _
    refine XS.iload X64.here hx rfl (hb hby d20_3) rfl ?_
    show Steps p.tables e below (T64.setTop (mkF m 5 #[.val (.ref ca), .val (.int (11 : Int32)), .val (.ref da), .val (.int (11 : Int32)), .val (.int (26 : Int32)), .val (.int (11 : Int32)), .val (.int c10)] [(.int (11 : Int32))])) _
    refine XS.iload X64.here hx rfl (hb hby d20_5) rfl ?_
    show Steps p.tables e below (T64.setTop (mkF m 7 #[.val (.ref ca), .val (.int (11 : Int32)), .val (.ref da), .val (.int (11 : Int32)), .val (.int (26 : Int32)), .val (.int (11 : Int32)), .val (.int c10)] [(.int (26 : Int32)), (.int (11 : Int32))])) _
    refine XS.icmpNo X64.here hx rfl (hb hby d20_7) rfl (tlt (by decide : ((11 : Int32) < (26 : Int32)))).2.1 ?_
    show Steps p.tables e below (T64.setTop (mkF m 10 #[.val (.ref ca), .val (.int (11 : Int32)), .val (.ref da), .val (.int (11 : Int32)), .val (.int (26 : Int32)), .val (.int (11 : Int32)), .val (.int c10)] [])) _
    refine XS.aloadN X64.here hx rfl (hb hby d20_10) rfl rfl ?_
    show Steps p.tables e below (T64.setTop (mkF m 11 #[.val (.ref ca), .val (.int (11 : Int32)), .val (.ref da), .val (.int (11 : Int32)), .val (.int (26 : Int32)), .val (.int (11 : Int32)), .val (.int c10)] [(.ref ca)])) _
    refine XS.iloadN X64.here hx rfl (hb hby d20_11) rfl ?_
    show Steps p.tables e below (T64.setTop (mkF m 12 #[.val (.ref ca), .val (.int (11 : Int32)), .val (.ref da), .val (.int (11 : Int32)), .val (.int (26 : Int32)), .val (.int (11 : Int32)), .val (.int c10)] [(.int (11 : Int32)), (.ref ca)])) _
    refine ldC X64 hx hZ e64 G65 ix67.1 ix67.2 (g := (mkF m 12 #[.val (.ref ca), .val (.int (11 : Int32)), .val (.ref da), .val (.int (11 : Int32)), .val (.int (26 : Int32)), .val (.int (11 : Int32)), .val (.int c10)] [(.int (11 : Int32)), (.ref ca)])) rfl rfl (hb hby d20_12) _ ?_
    show Steps p.tables e below (T64.setTop (mkF m 13 #[.val (.ref ca), .val (.int (11 : Int32)), .val (.ref da), .val (.int (11 : Int32)), .val (.int (26 : Int32)), .val (.int (11 : Int32)), .val (.int c10)] [(.int c11)])) _
    refine XS.istore X64.here hx rfl (hb hby d20_13) rfl (l' := #[.val (.ref ca), .val (.int (11 : Int32)), .val (.ref da), .val (.int (11 : Int32)), .val (.int (26 : Int32)), .val (.int (11 : Int32)), .val (.int c11)]) rfl ?_
    show Steps p.tables e below (T64.setTop (mkF m 15 #[.val (.ref ca), .val (.int (11 : Int32)), .val (.ref da), .val (.int (11 : Int32)), .val (.int (26 : Int32)), .val (.int (11 : Int32)), .val (.int c11)] [])) _
    refine XS.iload X64.here hx rfl (hb hby d20_15) rfl ?_
    show Steps p.tables e below (T64.setTop (mkF m 17 #[.val (.ref ca), .val (.int (11 : Int32)), .val (.ref da), .val (.int (11 : Int32)), .val (.int (26 : Int32)), .val (.int (11 : Int32)), .val (.int c11)] [(.int c11)])) _
    refine XS.sipush X64.here hx rfl (hb hby d20_17) ?_
    exact kt
  have hd68 : ¬ ((255 : Int32) < c11) := hle _ (by simp)
  have ix69 : 0 ≤ ((11 : Int32)).toInt ∧ ((11 : Int32)).toInt < (([(nar .byte (c0.toInt8.toInt32)), (nar .byte (c1.toInt8.toInt32)), (nar .byte (c2.toInt8.toInt32)), (nar .byte (c3.toInt8.toInt32)), (nar .byte (c4.toInt8.toInt32)), (nar .byte (c5.toInt8.toInt32)), (nar .byte (c6.toInt8.toInt32)), (nar .byte (c7.toInt8.toInt32)), (nar .byte (c8.toInt8.toInt32)), (nar .byte (c9.toInt8.toInt32)), (nar .byte (c10.toInt8.toInt32)), (0 : Int32), (0 : Int32), (0 : Int32), (0 : Int32), (0 : Int32), (0 : Int32), (0 : Int32), (0 : Int32), (0 : Int32), (0 : Int32), (0 : Int32), (0 : Int32), (0 : Int32), (0 : Int32), (0 : Int32)]).length : Int) := by constructor <;> first | decide | (simp; done)
  obtain ⟨T70, h70, X70, e70, W70, V70, st70⟩ := putB X64 hx hZ e64 G66 ix69.1 ix69.2 (g := (mkF m 31 #[.val (.ref ca), .val (.int (11 : Int32)), .val (.ref da), .val (.int (11 : Int32)), .val (.int (26 : Int32)), .val (.int (11 : Int32)), .val (.int c11)] [(.int (c11.toInt8.toInt32)), (.int (11 : Int32)), (.ref da)])) rfl rfl (hb hby d20_31)
  have G71 : VA Z h70 ca .char ([c0, c1, c2, c3, c4, c5, c6, c7, c8, c9, c10, c11, c12, c13, c14, c15, c16, c17, c18, c19, c20, c21, c22, c23, c24, c25].map Value.int) := G65.other W70 ne_ca_da
  have G72 : VA Z h70 da .byte ([(nar .byte (c0.toInt8.toInt32)), (nar .byte (c1.toInt8.toInt32)), (nar .byte (c2.toInt8.toInt32)), (nar .byte (c3.toInt8.toInt32)), (nar .byte (c4.toInt8.toInt32)), (nar .byte (c5.toInt8.toInt32)), (nar .byte (c6.toInt8.toInt32)), (nar .byte (c7.toInt8.toInt32)), (nar .byte (c8.toInt8.toInt32)), (nar .byte (c9.toInt8.toInt32)), (nar .byte (c10.toInt8.toInt32)), (nar .byte (c11.toInt8.toInt32)), (0 : Int32), (0 : Int32), (0 : Int32), (0 : Int32), (0 : Int32), (0 : Int32), (0 : Int32), (0 : Int32), (0 : Int32), (0 : Int32), (0 : Int32), (0 : Int32), (0 : Int32), (0 : Int32)].map Value.int) := V70
  have N70 := Fr.snoc X70 N64 g_da
  have K70 : Keep h0 h70 [da] := Keep.wr K64 W70 (Or.inl (List.mem_of_getElem? (i := 0) rfl))
  have Z70 : n0 ≤ h70.size := Nat.le_trans Z0 K70.1
  have ix73 : 0 ≤ ((12 : Int32)).toInt ∧ ((12 : Int32)).toInt < (([c0, c1, c2, c3, c4, c5, c6, c7, c8, c9, c10, c11, c12, c13, c14, c15, c16, c17, c18, c19, c20, c21, c22, c23, c24, c25]).length : Int) := by constructor <;> first | decide | (simp; done)
  refine Go.step (T' := T70) (f' := (mkF m 20 #[.val (.ref ca), .val (.int (12 : Int32)), .val (.ref da), .val (.int (12 : Int32)), .val (.int (26 : Int32)), .val (.int (12 : Int32)), .val (.int c12)] [(.int (255 : Int32)), (.int c12)])) (fun t kt => ?_) ?_
  · show Steps p.tables e below (T64.setTop (mkF m 20 #[.val (.ref ca), .val (.int (11 : Int32)), .val (.ref da), .val (.int (11 : Int32)), .val (.int (26 : Int32)), .val (.int (11 : Int32)), .val (.int c11)] [(.int (255 : Int32)), (.int c11)])) _
    refine XS.icmpYes X64.here hx rfl (pc0 := 20) (pc' := 26) rfl (hb hby d20_20) rfl (flt hd68).2.2.2 (by decide) (by decide) ?_
    show Steps p.tables e below (T64.setTop (mkF m 26 #[.val (.ref ca), .val (.int (11 : Int32)), .val (.ref da), .val (.int (11 : Int32)), .val (.int (26 : Int32)), .val (.int (11 : Int32)), .val (.int c11)] [])) _
    refine XS.aloadN X64.here hx rfl (hb hby d20_26) rfl rfl ?_
    show Steps p.tables e below (T64.setTop (mkF m 27 #[.val (.ref ca), .val (.int (11 : Int32)), .val (.ref da), .val (.int (11 : Int32)), .val (.int (26 : Int32)), .val (.int (11 : Int32)), .val (.int c11)] [(.ref da)])) _
    refine XS.iloadN X64.here hx rfl (hb hby d20_27) rfl ?_
    show Steps p.tables e below (T64.setTop (mkF m 28 #[.val (.ref ca), .val (.int (11 : Int32)), .val (.ref da), .val (.int (11 : Int32)), .val (.int (26 : Int32)), .val (.int (11 : Int32)), .val (.int c11)] [(.int (11 : Int32)), (.ref da)])) _
    refine XS.iload X64.here hx rfl (hb hby d20_28) rfl ?_
    show Steps p.tables e below (T64.setTop (mkF m 30 #[.val (.ref ca), .val (.int (11 : Int32)), .val (.ref da), .val (.int (11 : Int32)), .val (.int (26 : Int32)), .val (.int (11 : Int32)), .val (.int c11)] [(.int c11), (.int (11 : Int32)), (.ref da)])) _
    refine XS.i2b X64.here hx rfl (hb hby d20_30) rfl ?_
    show Steps p.tables e below (T64.setTop (mkF m 31 #[.val (.ref ca), .val (.int (11 : Int32)), .val (.ref da), .val (.int (11 : Int32)), .val (.int (26 : Int32)), .val (.int (11 : Int32)), .val (.int c11)] [(.int (c11.toInt8.toInt32)), (.int (11 : Int32)), (.ref da)])) _
    refine st70 _ ?_
    show Steps p.tables e below (T70.setTop (mkF m 32 #[.val (.ref ca), .val (.int (11 : Int32)), .val (.ref da), .val (.int (11 : Int32)), .val (.int (26 : Int32)), .val (.int (11 : Int32)), .val (.int c11)] [])) _
    refine XS.iinc X70.here hx rfl (hb hby d20_32) rfl (l' := #[.val (.ref ca), .val (.int (12 : Int32)), .val (.ref da), .val (.int (11 : Int32)), .val (.int (26 : Int32)), .val (.int (11 : Int32)), .val (.int c11)]) rfl ?_
    show Steps p.tables e below (T70.setTop (mkF m 35 #[.val (.ref ca), .val (.int (12 : Int32)), .val (.ref da), .val (.int (11 : Int32)), .val (.int (26 : Int32)), .val (.int (11 : Int32)), .val (.int c11)] [])) _
    refine XS.iinc X70.here hx rfl (hb hby d20_35) rfl (l' := #[.val (.ref ca), .val (.int (12 : Int32)), .val (.ref da), .val (.int (12 : Int32)), .val (.int (26 : Int32)), .val (.int (11 : Int32)), .val (.int c11)]) rfl ?_
    show Steps p.tables e below (T70.setTop (mkF m 38 #[.val (.ref ca), .val (.int (12 : Int32)), .val (.ref da), .val (.int (12 : Int32)), .val (.int (26 : Int32)), .val (.int (11 : Int32)), .val (.int c11)] [])) _
    refine XS.iinc X70.here hx rfl (hb hby d20_38) rfl (l' := #[.val (.ref ca), .val (.int (12 : Int32)), .val (.ref da), .val (.int (12 : Int32)), .val (.int (26 : Int32)), .val (.int (12 : Int32)), .val (.int c11)]) rfl ?_
    show Steps p.tables e below (T70.setTop (mkF m 41 #[.val (.ref ca), .val (.int (12 : Int32)), .val (.ref da), .val (.int (12 : Int32)), .val (.int (26 : Int32)), .val (.int (12 : Int32)), .val (.int c11)] [])) _
    refine XS.goto X70.here hx rfl (pc0 := 41) (pc' := 3) rfl (hb hby d20_41) (by decide) (by decide) ?_
    show Steps p.tables e below (T70.setTop (mkF m 3 #[.val (.ref ca), .val (.int (12 : Int32)), .val (.ref da), .val (.int (12 : Int32)), .val (.int (26 : Int32)), .val (.int (12 : Int32)), .val (.int c11)] [])) _
    refine XS.iload X70.here hx rfl (hb hby d20_3) rfl ?_
    show Steps p.tables e below (T70.setTop (mkF m 5 #[.val (.ref ca), .val (.int (12 : Int32)), .val (.ref da), .val (.int (12 : Int32)), .val (.int (26 : Int32)), .val (.int (12 : Int32)), .val (.int c11)] [(.int (12 : Int32))])) _
    refine XS.iload X70.here hx rfl (hb hby d20_5) rfl ?_
    show Steps p.tables e below (T70.setTop (mkF m 7 #[.val (.ref ca), .val (.int (12 : Int32)), .val (.ref da), .val (.int (12 : Int32)), .val (.int (26 : Int32)), .val (.int (12 : Int32)), .val (.int c11)] [(.int (26 : Int32)), (.int (12 : Int32))])) _
    refine XS.icmpNo X70.here hx rfl (hb hby d20_7) rfl (tlt (by decide : ((12 : Int32) < (26 : Int32)))).2.1 ?_
    show Steps p.tables e below (T70.setTop (mkF m 10 #[.val (.ref ca), .val (.int (12 : Int32)), .val (.ref da), .val (.int (12 : Int32)), .val (.int (26 : Int32)), .val (.int (12 : Int32)), .val (.int c11)] [])) _
    refine XS.aloadN X70.here hx rfl (hb hby d20_10) rfl rfl ?_
    show Steps p.tables e below (T70.setTop (mkF m 11 #[.val (.ref ca), .val (.int (12 : Int32)), .val (.ref da), .val (.int (12 : Int32)), .val (.int (26 : Int32)), .val (.int (12 : Int32)), .val (.int c11)] [(.ref ca)])) _
    refine XS.iloadN X70.here hx rfl (hb hby d20_11) rfl ?_
    show Steps p.tables e below (T70.setTop (mkF m 12 #[.val (.ref ca), .val (.int (12 : Int32)), .val (.ref da), .val (.int (12 : Int32)), .val (.int (26 : Int32)), .val (.int (12 : Int32)), .val (.int c11)] [(.int (12 : Int32)), (.ref ca)])) _
    refine ldC X70 hx hZ e70 G71 ix73.1 ix73.2 (g := (mkF m 12 #[.val (.ref ca), .val (.int (12 : Int32)), .val (.ref da), .val (.int (12 : Int32)), .val (.int (26 : Int32)), .val (.int (12 : Int32)), .val (.int c11)] [(.int (12 : Int32)), (.ref ca)])) rfl rfl (hb hby d20_12) _ ?_
    show Steps p.tables e below (T70.setTop (mkF m 13 #[.val (.ref ca), .val (.int (12 : Int32)), .val (.ref da), .val (.int (12 : Int32)), .val (.int (26 : Int32)), .val (.int (12 : Int32)), .val (.int c11)] [(.int c12)])) _
    refine XS.istore X70.here hx rfl (hb hby d20_13) rfl (l' := #[.val (.ref ca), .val (.int (12 : Int32)), .val (.ref da), .val (.int (12 : Int32)), .val (.int (26 : Int32)), .val (.int (12 : Int32)), .val (.int c12)]) rfl ?_
    show Steps p.tables e below (T70.setTop (mkF m 15 #[.val (.ref ca), .val (.int (12 : Int32)), .val (.ref da), .val (.int (12 : Int32)), .val (.int (26 : Int32)), .val (.int (12 : Int32)), .val (.int c12)] [])) _
    refine XS.iload X70.here hx rfl (hb hby d20_15) rfl ?_
    show Steps p.tables e below (T70.setTop (mkF m 17 #[.val (.ref ca), .val (.int (12 : Int32)), .val (.ref da), .val (.int (12 : Int32)), .val (.int (26 : Int32)), .val (.int (12 : Int32)), .val (.int c12)] [(.int c12)])) _
    refine XS.sipush X70.here hx rfl (hb hby d20_17) ?_
    exact kt
  have hd74 : ¬ ((255 : Int32) < c12) := hle _ (by simp)
  have ix75 : 0 ≤ ((12 : Int32)).toInt ∧ ((12 : Int32)).toInt < (([(nar .byte (c0.toInt8.toInt32)), (nar .byte (c1.toInt8.toInt32)), (nar .byte (c2.toInt8.toInt32)), (nar .byte (c3.toInt8.toInt32)), (nar .byte (c4.toInt8.toInt32)), (nar .byte (c5.toInt8.toInt32)), (nar .byte (c6.toInt8.toInt32)), (nar .byte (c7.toInt8.toInt32)), (nar .byte (c8.toInt8.toInt32)), (nar .byte (c9.toInt8.toInt32)), (nar .byte (c10.toInt8.toInt32)), (nar .byte (c11.toInt8.toInt32)), (0 : Int32), (0 : Int32), (0 : Int32), (0 : Int32), (0 : Int32), (0 : Int32), (0 : Int32), (0 : Int32), (0 : Int32), (0 : Int32), (0 : Int32), (0 : Int32), (0 : Int32), (0 : Int32)]).length : Int) := by constructor <;> first | decide | (simp; done)
  obtain ⟨T76, h76, X76, e76, W76, V76, st76⟩ := putB X70 hx hZ e70 G72 ix75.1 ix75.2 (g := (mkF m 31 #[.val (.ref ca), .val (.int (12 : Int32)), .val (.ref da), .val (.int (12 : Int32)), .val (.int (26 : Int32)), .val (.int (12 : Int32)), .val (.int c12)] [(.int (c12.toInt8.toInt32)), (.int (12 : Int32)), (.ref da)])) rfl rfl (hb hby d20_31)
  have G77 : VA Z h76 ca .char ([c0, c1, c2, c3, c4, c5, c6, c7, c8, c9, c10, c11, c12, c13, c14, c15, c16, c17, c18, c19, c20, c21, c22, c23, c24, c25].map Value.int) := G71.other W76 ne_ca_da
  have G78 : VA Z h76 da .byte ([(nar .byte (c0.toInt8.toInt32)), (nar .byte (c1.toInt8.toInt32)), (nar .byte (c2.toInt8.toInt32)), (nar .byte (c3.toInt8.toInt32)), (nar .byte (c4.toInt8.toInt32)), (nar .byte (c5.toInt8.toInt32)), (nar .byte (c6.toInt8.toInt32)), (nar .byte (c7.toInt8.toInt32)), (nar .byte (c8.toInt8.toInt32)), (nar .byte (c9.toInt8.toInt32)), (nar .byte (c10.toInt8.toInt32)), (nar .byte (c11.toInt8.toInt32)), (nar .byte (c12.toInt8.toInt32)), (0 : Int32), (0 : Int32), (0 : Int32), (0 : Int32), (0 : Int32), (0 : Int32), (0 : Int32), (0 : Int32), (0 : Int32), (0 : Int32), (0 : Int32), (0 : Int32), (0 : Int32)].map Value.int) := V76
  have N76 := Fr.snoc X76 N70 g_da
  have K76 : Keep h0 h76 [da] := Keep.wr K70 W76 (Or.inl (List.mem_of_getElem? (i := 0) rfl))
  have Z76 : n0 ≤ h76.size := Nat.le_trans Z0 K76.1
  have ix79 : 0 ≤ ((13 : Int32)).toInt ∧ ((13 : Int32)).toInt < (([c0, c1, c2, c3, c4, c5, c6, c7, c8, c9, c10, c11, c12, c13, c14, c15, c16, c17, c18, c19, c20, c21, c22, c23, c24, c25]).length : Int) := by constructor <;> first | decide | (simp; done)
  refine Go.step (T' := T76) (f' := (mkF m 20 #[.val (.ref ca), .val (.int (13 : Int32)), .val (.ref da), .val (.int (13 : Int32)), .val (.int (26 : Int32)), .val (.int (13 : Int32)), .val (.int c13)] [(.int (255 : Int32)), (.int c13)])) (fun t kt => ?_) ?_
  · show Steps p.tables e below (T70.setTop (mkF m 20 #[.val (.ref ca), .val (.int (12 : Int32)), .val (.ref da), .val (.int (12 : Int32)), .val (.int (26 : Int32)), .val (.int (12 : Int32)), .val (.int c12)] [(.int (255 : Int32)), (.int c12)])) _
    refine XS.icmpYes X70.here hx rfl (pc0 := 20) (pc' := 26) rfl (hb hby d20_20) rfl (flt hd74).2.2.2 (by decide) (by decide) ?_
    show Steps p.tables e below (T70.setTop (mkF m 26 #[.val (.ref ca), .val (.int (12 : Int32)), .val (.ref da), .val (.int (12 : Int32)), .val (.int (26 : Int32)), .val (.int (12 : Int32)), .val (.int c12)] [])) _
    refine XS.aloadN X70.here hx rfl (hb hby d20_26) rfl rfl ?_
    show Steps p.tables e below (T70.setTop (mkF m 27 #[.val (.ref ca), .val (.int (12 : Int32)), .val (.ref da), .val (.int (12 : Int32)), .val (.int (26 : Int32)), .val (.int (12 : Int32)), .val (.int c12)] [(.ref da)])) _
    refine XS.iloadN X70.here hx rfl (hb hby d20_27) rfl ?_
    show Steps p.tables e below (T70.setTop (mkF m 28 #[.val (.ref ca), .val (.int (12 : Int32)), .val (.ref da), .val (.int (12 : Int32)), .val (.int (26 : Int32)), .val (.int (12 : Int32)), .val (.int c12)] [(.int (12 : Int32)), (.ref da)])) _
    refine XS.iload X70.here hx rfl (hb hby d20_28) rfl ?_
    show Steps p.tables e below (T70.setTop (mkF m 30 #[.val (.ref ca), .val (.int (12 : Int32)), .val (.ref da), .val (.int (12 : Int32)), .val (.int (26 : Int32)), .val (.int (12 : Int32)), .val (.int c12)] [(.int c12), (.int (12 : Int32)), (.ref da)])) _
    refine XS.i2b X70.here hx rfl (hb hby d20_30) rfl ?_
    show Steps p.tables e below (T70.setTop (mkF m 31 #[.val (.ref ca), .val (.int (12 : Int32)), .val (.ref da), .val (.int (12 : Int32)), .val (.int (26 : Int32)), .val (.int (12 : Int32)), .val (.int c12)] [(.int (c12.toInt8.toInt32)), (.int (12 : Int32)), (.ref da)])) _
    refine st76 _ ?_
    show Steps p.tables e below (T76.setTop (mkF m 32 #[.val (.ref ca), .val (.int (12 : Int32)), .val (.ref da), .val (.int (12 : Int32)), .val (.int (26 : Int32)), .val (.int (12 : Int32)), .val (.int c12)] [])) _
    refine XS.iinc X76.here hx rfl (hb hby d20_32) rfl (l' := #[.val (.ref ca), .val (.int (13 : Int32)), .val (.ref da), .val (.int (12 : Int32)), .val (.int (26 : Int32)), .val (.int (12 : Int32)), .val (.int c12)]) rfl ?_
    show Steps p.tables e below (T76.setTop (mkF m 35 #[.val (.ref ca), .val (.int (13 : Int32)), .val (.ref da), .val (.int (12 : Int32)), .val (.int (26 : Int32)), .val (.int (12 : Int32)), .val (.int c12)] [])) _
    refine XS.iinc X76.here hx rfl (hb hby d20_35) rfl (l' := #[.val (.ref ca), .val (.int (13 : Int32)), .val (.ref da), .val (.int (13 : Int32)), .val (.int (26 : Int32)), .val (.int (12 : Int32)), .val (.int c12)]) rfl ?_
    show Steps p.tables e below (T76.setTop (mkF m 38 #[.val (.ref ca), .val (.int (13 : Int32)), .val (.ref da), .val (.int (13 : Int32)), .val (.int (26 : Int32)), .val (.int (12 : Int32)), .val (.int c12)] [])) _
    refine XS.iinc X76.here hx rfl (hb hby d20_38) rfl (l' := #[.val (.ref ca), .val (.int (13 : Int32)), .val (.ref da), .val (.int (13 : Int32)), .val (.int (26 : Int32)), .val (.int (13 : Int32)), .val (.int c12)]) rfl ?_
    show Steps p.tables e below (T76.setTop (mkF m 41 #[.val (.ref ca), .val (.int (13 : Int32)), .val (.ref da), .val (.int (13 : Int32)), .val (.int (26 : Int32)), .val (.int (13 : Int32)), .val (.int c12)] [])) _
    refine XS.goto X76.here hx rfl (pc0 := 41) (pc' := 3) rfl (hb hby d20_41) (by decide) (by decide) ?_
    show Steps p.tables e below (T76.setTop (mkF m 3 #[.val (.ref ca), .val (.int (13 : Int32)), .val (.ref da), .val (.int (13 : Int32)), .val (.int (26 : Int32)), .val (.int (13 : Int32)), .val (.int c12)] [])) _
    refine XS.iload X76.here hx rfl (hb hby d20_3) rfl ?_
    show Steps p.tables e below (T76.setTop (mkF m 5 #[.val (.ref ca), .val (.int (13 : Int32)), .val (.ref da), .val (.int (13 : Int32)), .val (.int (26 : Int32)), .val (.int (13 : Int32)), .val (.int c12)] [(.int (13 : Int32))])) _
    refine XS.iload X76.here hx rfl (hb hby d20_5) rfl ?_
    show Steps p.tables e below (T76.setTop (mkF m 7 #[.val (.ref ca), .val (.int (13 : Int32)), .val (.ref da), .val (.int (13 : Int32)), .val (.int (26 : Int32)), .val (.int (13 : Int32)), .val (.int c12)] [(.int (26 : Int32)), (.int (13 : Int32))])) _
    refine XS.icmpNo X76.here hx rfl (hb hby d20_7) rfl (tlt (by decide : ((13 : Int32) < (26 : Int32)))).2.1 ?_
    show Steps p.tables e below (T76.setTop (mkF m 10 #[.val (.ref ca), .val (.int (13 : Int32)), .val (.ref da), .val (.int (13 : Int32)), .val (.int (26 : Int32)), .val (.int (13 : Int32)), .val (.int c12)] [])) _
    refine XS.aloadN X76.here hx rfl (hb hby d20_10) rfl rfl ?_
    show Steps p.tables e below (T76.setTop (mkF m 11 #[.val (.ref ca), .val (.int (13 : Int32)), .val (.ref da), .val (.int (13 : Int32)), .val (.int (26 : Int32)), .val (.int (13 : Int32)), .val (.int c12)] [(.ref ca)])) _
    refine XS.iloadN X76.here hx rfl (hb hby d20_11) rfl ?_
    show Steps p.tables e below (T76.setTop (mkF m 12 #[.val (.ref ca), .val (.int (13 : Int32)), .val (.ref da), .val (.int (13 : Int32)), .val (.int (26 : Int32)), .val (.int (13 : Int32)), .val (.int c12)] [(.int (13 : Int32)), (.ref ca)])) _
    refine ldC X76 hx hZ e76 G77 ix79.1 ix79.2 (g := (mkF m 12 #[.val (.ref ca), .val (.int (13 : Int32)), .val (.ref da), .val (.int (13 : Int32)), .val (.int (26 : Int32)), .val (.int (13 : Int32)), .val (.int c12)] [(.int (13 : Int32)), (.ref ca)])) rfl rfl (hb hby d20_12) _ ?_
    show Steps p.tables e below (T76.setTop (mkF m 13 #[.val (.ref ca), .val (.int (13 : Int32)), .val (.ref da), .val (.int (13 : Int32)), .val (.int (26 : Int32)), .val (.int (13 : Int32)), .val (.int c12)] [(.int c13)])) _
    refine XS.istore X76.here hx rfl (hb hby d20_13) rfl (l' := #[.val (.ref ca), .val (.int (13 : Int32)), .val (.ref da), .val (.int (13 : Int32)), .val (.int (26 : Int32)), .val (.int (13 : Int32)), .val (.int c13)]) rfl ?_
    show Steps p.tables e below (T76.setTop (mkF m 15 #[.val (.ref ca), .val (.int (13 : Int32)), .val (.ref da), .val (.int (13 : Int32)), .val (.int (26 : Int32)), .val (.int (13 : Int32)), .val (.int c13)] [])) _
    refine XS.iload X76.here hx rfl (hb hby d20_15) rfl ?_
    show Steps p.tables e below (T76.setTop (mkF m 17 #[.val (.ref ca), .val (.int (13 : Int32)), .val (.ref da), .val (.int (13 : Int32)), .val (.int (26 : Int32)), .val (.int (13 : Int32)), .val (.int c13)] [(.int c13)])) _
    refine XS.sipush X76.here hx rfl (hb hby d20_17) ?_
    exact kt
  have hd80 : ¬ ((255 : Int32) < c13) := hle _ (by simp)
  have ix81 : 0 ≤ ((13 : Int32)).toInt ∧ ((13 : Int32)).toInt < (([(nar .byte (c0.toInt8.toInt32)), (nar .byte (c1.toInt8.toInt32)), (nar .byte (c2.toInt8.toInt32)), (nar .byte (c3.toInt8.toInt32)), (nar .byte (c4.toInt8.toInt32)), (nar .byte (c5.toInt8.toInt32)), (nar .byte (c6.toInt8.toInt32)), (nar .byte (c7.toInt8.toInt32)), (nar .byte (c8.toInt8.toInt32)), (nar .byte (c9.toInt8.toInt32)), (nar .byte (c10.toInt8.toInt32)), (nar .byte (c11.toInt8.toInt32)), (nar .byte (c12.toInt8.toInt32)), (0 : Int32), (0 : Int32), (0 : Int32), (0 : Int32), (0 : Int32), (0 : Int32), (0 : Int32), (0 : Int32), (0 : Int32), (0 : Int32), (0 : Int32), (0 : Int32), (0 : Int32)]).length : Int) := by constructor <;> first | decide | (simp; done)
  obtain ⟨T82, h82, X82, e82, W82, V82, st82⟩ := putB X76 hx hZ e76 G78 ix81.1 ix81.2 (g := (mkF m 31 #[.val (.ref ca), .val (.int (13 : Int32)), .val (.ref da), .val (.int (13 : Int32)), .val (.int (26 : Int32)), .val (.int (13 : Int32)), .val (.int c13)] [(.int (c13.toInt8.toInt32)), (.int (13 : Int32)), (.ref da)])) rfl rfl (hb hby d20_31)
  have G83 : VA Z h82 ca .char ([c0, c1, c2, c3, c4, c5, c6, c7, c8, c9, c10, c11, c12, c13, c14, c15, c16, c17, c18, c19, c20, c21, c22, c23, c24, c25].map Value.int) := G77.other W82 ne_ca_da
  have G84 : VA Z h82 da .byte ([(nar .byte (c0.toInt8.toInt32)), (nar .byte (c1.toInt8.toInt32)), (nar .byte (c2.toInt8.toInt32)), (nar .byte (c3.toInt8.toInt32)), (nar .byte (c4.toInt8.toInt32)), (nar .byte (c5.toInt8.toInt32)), (nar .byte (c6.toInt8.toInt32)), (nar .byte (c7.toInt8.toInt32)), (nar .byte (c8.toInt8.toInt32)), (nar .byte (c9.toInt8.toInt32)), (nar .byte (c10.toInt8.toInt32)), (nar .byte (c11.toInt8.toInt32)), (nar .byte (c12.toInt8.toInt32)), (nar .byte (c13.toInt8.toInt32)), (0 : Int32), (0 : Int32), (0 : Int32), (0 : Int32), (0 : Int32), (0 : Int32), (0 : Int32), (0 : Int32), (0 : Int32), (0 : Int32), (0 : Int32), (0 : Int32)].map Value.int) := V82
  have N82 := Fr.snoc X82 N76 g_da
  have K82 : Keep h0 h82 [da] := Keep.wr K76 W82 (Or.inl (List.mem_of_getElem? (i := 0) rfl))
  have Z82 : n0 ≤ h82.size := Nat.le_trans Z0 K82.1
  have ix85 : 0 ≤ ((14 : Int32)).toInt ∧ ((14 : Int32)).toInt < (([c0, c1, c2, c3, c4, c5, c6, c7, c8, c9, c10, c11, c12, c13, c14, c15, c16, c17, c18, c19, c20, c21, c22, c23, c24, c25]).length : Int) := by constructor <;> first | decide | (simp; done)
  refine Go.step (T' := T82) (f' := (mkF m 20 #[.val (.ref ca), .val (.int (14 : Int32)), .val (.ref da), .val (.int (14 : Int32)), .val (.int (26 : Int32)), .val (.int (14 : Int32)), .val (.int c14)] [(.int (255 : Int32)), (.int c14)])) (fun t kt => ?_) ?_
  · show Steps p.tables e below (T76.setTop (mkF m 20 #[.val (.ref ca), .val (.int (13 : Int32)), .val (.ref da), .val (.int (13 : Int32)), .val (.int (26 : Int32)), .val (.int (13 : Int32)), .val (.int c13)] [(.int (255 : Int32)), (.int c13)])) _
    refine XS.icmpYes X76.here hx rfl (pc0 := 20) (pc' := 26) rfl (hb hby d20_20) rfl (flt hd80).2.2.2 (by decide) (by decide) ?_
    show Steps p.tables e below (T76.setTop (mkF m 26 #[.val (.ref ca), .val (.int (13 : Int32)), .val (.ref da), .val (.int (13 : Int32)), .val (.int (26 : Int32)), .val (.int (13 : Int32)), .val (.int c13)] [])) _
    refine XS.aloadN X76.here hx rfl (hb hby d20_26) rfl rfl ?_
    show Steps p.tables e below (T76.setTop (mkF m 27 #[.val (.ref ca), .val (.int (13 : Int32)), .val (.ref da), .val (.int (13 : Int32)), .val (.int (26 : Int32)), .val (.int (13 : Int32)), .val (.int c13)] [(.ref da)])) _
    refine XS.iloadN X76.here hx rfl (hb hby d20_27) rfl ?_
    show Steps p.tables e below (T76.setTop (mkF m 28 #[.val (.ref ca), .val (.int (13 : Int32)), .val (.ref da), .val (.int (13 : Int32)), .val (.int (26 : Int32)), .val (.int (13 : Int32)), .val (.int c13)] [(.int (13 : Int32)), (.ref da)])) _
    refine XS.iload X76.here hx rfl (hb hby d20_28) rfl ?_
    show Steps p.tables e below (T76.setTop (mkF m 30 #[.val (.ref ca), .val (.int (13 : Int32)), .val (.ref da), .val (.int (13 : Int32)), .val (.int (26 : Int32)), .val (.int (13 : Int32)), .val (.int c13)] [(.int c13), (.int (13 : Int32)), (.ref da)])) _
    refine XS.i2b X76.here hx rfl (hb hby d20_30) rfl ?_
    show Steps p.tables e below (T76.setTop (mkF m 31 #[.val (.ref ca), .val (.int (13 : Int32)), .val (.ref da), .val (.int (13 : Int32)), .val (.int (26 : Int32)), .val (.int (13 : Int32)), .val (.int c13)] [(.int (c13.toInt8.toInt32)), (.int (13 : Int32)), (.ref da)])) _
    refine st82 _ ?_
    show Steps p.tables e below (T82.setTop (mkF m 32 #[.val (.ref ca), .val (.int (13 : Int32)), .val (.ref da), .val (.int (13 : Int32)), .val (.int (26 : Int32)), .val (.int (13 : Int32)), .val (.int c13)] [])) _
    refine XS.iinc X82.here hx rfl (hb hby d20_32) rfl (l' := #[.val (.ref ca), .val (.int (14 : Int32)), .val (.ref da), .val (.int (13 : Int32)), .val (.int (26 : Int32)), .val (.int (13 : Int32)), .val (.int c13)]) rfl ?_
    show Steps p.tables e below (T82.setTop (mkF m 35 #[.val (.ref ca), .val (.int (14 : Int32)), .val (.ref da), .val (.int (13 : Int32)), .val (.int (26 : Int32)), .val (.int (13 : Int32)), .val (.int c13)] [])) _
    refine XS.iinc X82.here hx rfl (hb hby d20_35) rfl (l' := #[.val (.ref ca), .val (.int (14 : Int32)), .val (.ref da), .val (.int (14 : Int32)), .val (.int (26 : Int32)), .val (.int (13 : Int32)), .val (.int c13)]) rfl ?_
    show Steps p.tables e below (T82.setTop (mkF m 38 #[.val (.ref ca), .val (.int (14 : Int32)), .val (.ref da), .val (.int (14 : Int32)), .val (.int (26 : Int32)), .val (.int (13 : Int32)), .val (.int c13)] [])) _
    refine XS.iinc X82.here hx rfl (hb hby d20_38) rfl (l' := #[.val (.ref ca), .val (.int (14 : Int32)), .val (.ref da), .val (.int (14 : Int32)), .val (.int (26 : Int32)), .val (.int (14 : Int32)), .val (.int c13)]) rfl ?_
    show Steps p.tables e below (T82.setTop (mkF m 41 #[.val (.ref ca), .val (.int (14 : Int32)), .val (.ref da), .val (.int (14 : Int32)), .val (.int (26 : Int32)), .val (.int (14 : Int32)), .val (.int c13)] [])) _
    refine XS.goto X82.here hx rfl (pc0 := 41) (pc' := 3) rfl (hb hby d20_41) (by decide) (by decide) ?_
    show Steps p.tables e below (T82.setTop (mkF m 3 #[.val (.ref ca), .val (.int (14 : Int32)), .val (.ref da), .val (.int (14 : Int32)), .val (.int (26 : Int32)), .val (.int (14 : Int32)), .val (.int c13)] [])) _
    refine XS.iload X82.here hx rfl (hb hby d20_3) rfl ?_
    show Steps p.tables e below (T82.setTop (mkF m 5 #[.val (.ref ca), .val (.int (14 : Int32)), .val (.ref da), .val (.int (14 : Int32)), .val (.int (26 : Int32)), .val (.int (14 : Int32)), .val (.int c13)] [(.int (14 : Int32))])) _
    refine XS.iload X82.here hx rfl (hb hby d20_5) rfl ?_
    show Steps p.tables e below (T82.setTop (mkF m 7 #[.val (.ref ca), .val (.int (14 : Int32)), .val (.ref da), .val (.int (14 : Int32)), .val (.int (26 : Int32)), .val (.int (14 : Int32)), .val (.int c13)] [(.int (26 : Int32)), (.int (14 : Int32))])) _
    refine XS.icmpNo X82.here hx rfl (hb hby d20_7) rfl (tlt (by decide : ((14 : Int32) < (26 : Int32)))).2.1 ?_
    show Steps p.tables e below (T82.setTop (mkF m 10 #[.val (.ref ca), .val (.int (14 : Int32)), .val (.ref da), .val (.int (14 : Int32)), .val (.int (26 : Int32)), .val (.int (14 : Int32)), .val (.int c13)] [])) _
    refine XS.aloadN X82.here hx rfl (hb hby d20_10) rfl rfl ?_
    show Steps p.tables e below (T82.setTop (mkF m 11 #[.val (.ref ca), .val (.int (14 : Int32)), .val (.ref da), .val (.int (14 : Int32)), .val (.int (26 : Int32)), .val (.int (14 : Int32)), .val (.int c13)] [(.ref ca)])) _
    refine XS.iloadN X82.here hx rfl (hb hby d20_11) rfl ?_
    show Steps p.tables e below (T82.setTop (mkF m 12 #[.val (.ref ca), .val (.int (14 : Int32)), .val (.ref da), .val (.int (14 : Int32)), .val (.int (26 : Int32)), .val (.int (14 : Int32)), .val (.int c13)] [(.int (14 : Int32)), (.ref ca)])) _
    refine ldC X82 hx hZ e82 G83 ix85.1 ix85.2 (g := (mkF m 12 #[.val (.ref ca), .val (.int (14 : Int32)), .val (.ref da), .val (.int (14 : Int32)), .val (.int (26 : Int32)), .val (.int (14 : Int32)), .val (.int c13)] [(.int (14 : Int32)), (.ref ca)])) rfl rfl (hb hby d20_12) _ ?_
    show Steps p.tables e below (T82.setTop (mkF m 13 #[.val (.ref ca), .val (.int (14 : Int32)), .val (.ref da), .val (.int (14 : Int32)), .val (.int (26 : Int32)), .val (.int (14 : Int32)), .val (.int c13)] [(.int c14)])) _
    refine XS.istore X82.here hx rfl (hb hby d20_13) rfl (l' := #[.val (.ref ca), .val (.int (14 : Int32)), .val (.ref da), .val (.int (14 : Int32)), .val (.int (26 : Int32)), .val (.int (14 : Int32)), .val (.int c14)]) rfl ?_
    show Steps p.tables e below (T82.setTop (mkF m 15 #[.val (.ref ca), .val (.int (14 : Int32)), .val (.ref da), .val (.int (14 : Int32)), .val (.int (26 : Int32)), .val (.int (14 : Int32)), .val (.int c14)] [])) _
    refine XS.iload X82.here hx rfl (hb hby d20_15) rfl ?_
    show Steps p.tables e below (T82.setTop (mkF m 17 #[.val (.ref ca), .val (.int (14 : Int32)), .val (.ref da), .val (.int (14 : Int32)), .val (.int (26 : Int32)), .val (.int (14 : Int32)), .val (.int c14)] [(.int c14)])) _
    refine XS.sipush X82.here hx rfl (hb hby d20_17) ?_
    exact kt
  have hd86 : ¬ ((255 : Int32) < c14) := hle _ (by simp)
  have ix87 : 0 ≤ ((14 : Int32)).toInt ∧ ((14 : Int32)).toInt < (([(nar .byte (c0.toInt8.toInt32)), (nar .byte (c1.toInt8.toInt32)), (nar .byte (c2.toInt8.toInt32)), (nar .byte (c3.toInt8.toInt32)), (nar .byte (c4.toInt8.toInt32)), (nar .byte (c5.toInt8.toInt32)), (nar .byte (c6.toInt8.toInt32)), (nar .byte (c7.toInt8.toInt32)), (nar .byte (c8.toInt8.toInt32)), (nar .byte (c9.toInt8.toInt32)), (nar .byte (c10.toInt8.toInt32)), (nar .byte (c11.toInt8.toInt32)), (nar .byte (c12.toInt8.toInt32)), (nar .byte (c13.toInt8.toInt32)), (0 : Int32), (0 : Int32), (0 : Int32), (0 : Int32), (0 : Int32), (0 : Int32), (0 : Int32), (0 : Int32), (0 : Int32), (0 : Int32), (0 : Int32), (0 : Int32)]).length : Int) := by constructor <;> first | decide | (simp; done)
  obtain ⟨T88, h88, X88, e88, W88, V88, st88⟩ := putB X82 hx hZ e82 G84 ix87.1 ix87.2 (g := (mkF m 31 #[.val (.ref ca), .val (.int (14 : Int32)), .val (.ref da), .val (.int (14 : Int32)), .val (.int (26 : Int32)), .val (.int (14 : Int32)), .val (.int c14)] [(.int (c14.toInt8.toInt32)), (.int (14 : Int32)), (.ref da)])) rfl rfl (hb hby d20_31)
  have G89 : VA Z h88 ca .char ([c0, c1, c2, c3, c4, c5, c6, c7, c8, c9, c10, c11, c12, c13, c14, c15, c16, c17, c18, c19, c20, c21, c22, c23, c24, c25].map Value.int) := G83.other W88 ne_ca_da
  have G90 : VA Z h88 da .byte ([(nar .byte (c0.toInt8.toInt32)), (nar .byte (c1.toInt8.toInt32)), (nar .byte (c2.toInt8.toInt32)), (nar .byte (c3.toInt8.toInt32)), (nar .byte (c4.toInt8.toInt32)), (nar .byte (c5.toInt8.toInt32)), (nar .byte (c6.toInt8.toInt32)), (nar .byte (c7.toInt8.toInt32)), (nar .byte (c8.toInt8.toInt32)), (nar .byte (c9.toInt8.toInt32)), (nar .byte (c10.toInt8.toInt32)), (nar .byte (c11.toInt8.toInt32)), (nar .byte (c12.toInt8.toInt32)), (nar .byte (c13.toInt8.toInt32)), (nar .byte (c14.toInt8.toInt32)), (0 : Int32), (0 : Int32), (0 : Int32), (0 : Int32), (0 : Int32), (0 : Int32), (0 : Int32), (0 : Int32), (0 : Int32), (0 : Int32), (0 : Int32)].map Value.int) := V88
  have N88 := Fr.snoc X88 N82 g_da
  have K88 : Keep h0 h88 [da] := Keep.wr K82 W88 (Or.inl (List.mem_of_getElem? (i := 0) rfl))
  have Z88 : n0 ≤ h88.size := Nat.le_trans Z0 K88.1
  have ix91 : 0 ≤ ((15 : Int32)).toInt ∧ ((15 : Int32)).toInt < (([c0, c1, c2, c3, c4, c5, c6, c7, c8, c9, c10, c11, c12, c13, c14, c15, c16, c17, c18, c19, c20, c21, c22, c23, c24, c25]).length : Int) := by constructor <;> first | decide | (simp; done)
  refine Go.step (T' := T88) (f' := (mkF m 20 #[.val (.ref ca), .val (.int (15 : Int32)), .val (.ref da), .val (.int (15 : Int32)), .val (.int (26 : Int32)), .val (.int (15 : Int32)), .val (.int c15)] [(.int (255 : Int32)), (.int c15)])) (fun t kt => ?_) ?_
  · show Steps p.tables e below (T82.setTop (mkF m 20 #[.val (.ref ca), .val (.int (14 : Int32)), .val (.ref da), .val (.int (14 : Int32)), .val (.int (26 : Int32)), .val (.int (14 : Int32)), .val (.int c14)] [(.int (255 : Int32)), (.int c14)])) _
    refine XS.icmpYes X82.here hx rfl (pc0 := 20) (pc' := 26) rfl (hb hby d20_20) rfl (flt hd86).2.2.2 (by decide) (by decide) ?_
    show Steps p.tables e below (T82.setTop (mkF m 26 #[.val (.ref ca), .val (.int (14 : Int32)), .val (.ref da), .val (.int (14 : Int32)), .val (.int (26 : Int32)), .val (.int (14 : Int32)), .val (.int c14)] [])) _
    refine XS.aloadN X82.here hx rfl (hb hby d20_26) rfl rfl ?_
    show Steps p.tables e below (T82.setTop (mkF m 27 #[.val (.ref ca), .val (.int (14 : Int32)), .val (.ref da), .val (.int (14 : Int32)), .val (.int (26 : Int32)), .val (.int (14 : Int32)), .val (.int c14)] [(.ref da)])) _
    refine XS.iloadN X82.here hx rfl (hb hby d20_27) rfl ?_
    show Steps p.tables e below (T82.setTop (mkF m 28 #[.val (.ref ca), .val (.int (14 : Int32)), .val (.ref da), .val (.int (14 : Int32)), .val (.int (26 : Int32)), .val (.int (14 : Int32)), .val (.int c14)] [(.int (14 : Int32)), (.ref da)])) _
    refine XS.iload X82.here hx rfl (hb hby d20_28) rfl ?_
    show Steps p.tables e below (T82.setTop (mkF m 30 #[.val (.ref ca), .val (.int (14 : Int32)), .val (.ref da), .val (.int (14 : Int32)), .val (.int (26 : Int32)), .val (.int (14 : Int32)), .val (.int c14)] [(.int c14), (.int (14 : Int32)), (.ref da)])) _
    refine XS.i2b X82.here hx rfl (hb hby d20_30) rfl ?_
    show Steps p.tables e below (T82.setTop (mkF m 31 #[.val (.ref ca), .val (.int (14 : Int32)), .val (.ref da), .val (.int (14 : Int32)), .val (.int (26 : Int32)), .val (.int (14 : Int32)), .val (.int c14)] [(.int (c14.toInt8.toInt32)), (.int (14 : Int32)), (.ref da)])) _
    refine st88 _ ?_
    show Steps p.tables e below (T88.setTop (mkF m 32 #[.val (.ref ca), .val (.int (14 : Int32)), .val (.ref da), .val (.int (14 : Int32)), .val (.int (26 : Int32)), .val (.int (14 : Int32)), .val (.int c14)] [])) _
    refine XS.iinc X88.here hx rfl (hb hby d20_32) rfl (l' := #[.val (.ref ca), .val (.int (15 : Int32)), .val (.ref da), .val (.int (14 : Int32)), .val (.int (26 : Int32)), .val (.int (14 : Int32)), .val (.int c14)]) rfl ?_
    show Steps p.tables e below (T88.setTop (mkF m 35 #[.val (.ref ca), .val (.int (15 : Int32)), .val (.ref da), .val (.int (14 : Int32)), .val (.int (26 : Int32)), .val (.int (14 : Int32)), .val (.int c14)] [])) _
    refine XS.iinc X88.here hx rfl (hb hby d20_35) rfl (l' := #[.val (.ref ca), .val (.int (15 : Int32)), .val (.ref da), .val (.int (15 : Int32)), .val (.int (26 : Int32)), .val (.int (14 : Int32)), .val (.int c14)]) rfl ?_
    show Steps p.tables e below (T88.setTop (mkF m 38 #[.val (.ref ca), .val (.int (15 : Int32)), .val (.ref da), .val (.int (15 : Int32)), .val (.int (26 : Int32)), .val (.int (14 : Int32)), .val (.int c14)] [])) _
    refine XS.iinc X88.here hx rfl (hb hby d20_38) rfl (l' := #[.val (.ref ca), .val (.int (15 : Int32)), .val (.ref da), .val (.int (15 : Int32)), .val (.int (26 : Int32)), .val (.int (15 : Int32)), .val (.int c14)]) rfl ?_
    show Steps p.tables e below (T88.setTop (mkF m 41 #[.val (.ref ca), .val (.int (15 : Int32)), .val (.ref da), .val (.int (15 : Int32)), .val (.int (26 : Int32)), .val (.int (15 : Int32)), .val (.int c14)] [])) _
    refine XS.goto X88.here hx rfl (pc0 := 41) (pc' := 3) rfl (hb hby d20_41) (by decide) (by decide) ?_
    show Steps p.tables e below (T88.setTop (mkF m 3 #[.val (.ref ca), .val (.int (15 : Int32)), .val (.ref da), .val (.int (15 : Int32)), .val (.int (26 : Int32)), .val (.int (15 : Int32)), .val (.int c14)] [])) _
    refine XS.iload X88.here hx rfl (hb hby d20_3) rfl ?_
    show Steps p.tables e below (T88.setTop (mkF m 5 #[.val (.ref ca), .val (.int (15 : Int32)), .val (.ref da), .val (.int (15 : Int32)), .val (.int (26 : Int32)), .val (.int (15 : Int32)), .val (.int c14)] [(.int (15 : Int32))])) _
    refine XS.iload X88.here hx rfl (hb hby d20_5) rfl ?_
    show Steps p.tables e below (T88.setTop (mkF m 7 #[.val (.ref ca), .val (.int (15 : Int32)), .val (.ref da), .val (.int (15 : Int32)), .val (.int (26 : Int32)), .val (.int (15 : Int32)), .val (.int c14)] [(.int (26 : Int32)), (.int (15 : Int32))])) _
    refine XS.icmpNo X88.here hx rfl (hb hby d20_7) rfl (tlt (by decide : ((15 : Int32) < (26 : Int32)))).2.1 ?_
    show Steps p.tables e below (T88.setTop (mkF m 10 #[.val (.ref ca), .val (.int (15 : Int32)), .val (.ref da), .val (.int (15 : Int32)), .val (.int (26 : Int32)), .val (.int (15 : Int32)), .val (.int c14)] [])) _
    refine XS.aloadN X88.here hx rfl (hb hby d20_10) rfl rfl ?_
    show Steps p.tables e below (T88.setTop (mkF m 11 #[.val (.ref ca), .val (.int (15 : Int32)), .val (.ref da), .val (.int (15 : Int32)), .val (.int (26 : Int32)), .val (.int (15 : Int32)), .val (.int c14)] [(.ref ca)])) _
    refine XS.iloadN X88.here hx rfl (hb hby d20_11) rfl ?_
    show Steps p.tables e below (T88.setTop (mkF m 12 #[.val (.ref ca), .val (.int (15 : Int32)), .val (.ref da), .val (.int (15 : Int32)), .val (.int (26 : Int32)), .val (.int (15 : Int32)), .val (.int c14)] [(.int (15 : Int32)), (.ref ca)])) _
    refine ldC X88 hx hZ e88 G89 ix91.1 ix91.2 (g := (mkF m 12 #[.val (.ref ca), .val (.int (15 : Int32)), .val (.ref da), .val (.int (15 : Int32)), .val (.int (26 : Int32)), .val (.int (15 : Int32)), .val (.int c14)] [(.int (15 : Int32)), (.ref ca)])) rfl rfl (hb hby d20_12) _ ?_
    show Steps p.tables e below (T88.setTop (mkF m 13 #[.val (.ref ca), .val (.int (15 : Int32)), .val (.ref da), .val (.int (15 : Int32)), .val (.int (26 : Int32)), .val (.int (15 : Int32)), .val (.int c14)] [(.int c15)])) _
    refine XS.istore X88.here hx rfl (hb hby d20_13) rfl (l' := #[.val (.ref ca), .val (.int (15 : Int32)), .val (.ref da), .val (.int (15 : Int32)), .val (.int (26 : Int32)), .val (.int (15 : Int32)), .val (.int c15)]) rfl ?_
    show Steps p.tables e below (T88.setTop (mkF m 15 #[.val (.ref ca), .val (.int (15 : Int32)), .val (.ref da), .val (.int (15 : Int32)), .val (.int (26 : Int32)), .val (.int (15 : Int32)), .val (.int c15)] [])) _
    refine XS.iload X88.here hx rfl (hb hby d20_15) rfl ?_
    show Steps p.tables e below (T88.setTop (mkF m 17 #[.val (.ref ca), .val (.int (15 : Int32)), .val (.ref da), .val (.int (15 : Int32)), .val (.int (26 : Int32)), .val (.int (15 : Int32)), .val (.int c15)] [(.int c15)])) _
    refine XS.sipush X88.here hx rfl (hb hby d20_17) ?_
    exact kt
  have hd92 : ¬ ((255 : Int32) < c15) := hle _ (by simp)
  have ix93 : 0 ≤ ((15 : Int32)).toInt ∧ ((15 : Int32)).toInt < (([(nar .byte (c0.toInt8.toInt32)), (nar .byte (c1.toInt8.toInt32)), (nar .byte (c2.toInt8.toInt32)), (nar .byte (c3.toInt8.toInt32)), (nar .byte (c4.toInt8.toInt32)), (nar .byte (c5.toInt8.toInt32)), (nar .byte (c6.toInt8.toInt32)), (nar .byte (c7.toInt8.toInt32)), (nar .byte (c8.toInt8.toInt32)), (nar .byte (c9.toInt8.toInt32)), (nar .byte (c10.toInt8.toInt32)), (nar .byte (c11.toInt8.toInt32)), (nar .byte (c12.toInt8.toInt32)), (nar .byte (c13.toInt8.toInt32)), (nar .byte (c14.toInt8.toInt32)), (0 : Int32), (0 : Int32), (0 : Int32), (0 : Int32), (0 : Int32), (0 : Int32), (0 : Int32), (0 : Int32), (0 : Int32), (0 : Int32), (0 : Int32)]).length : Int) := by constructor <;> first | decide | (simp; done)
  obtain ⟨T94, h94, X94, e94, W94, V94, st94⟩ := putB X88 hx hZ e88 G90 ix93.1 ix93.2 (g := (mkF m 31 #[.val (.ref ca), .val (.int (15 : Int32)), .val (.ref da), .val (.int (15 : Int32)), .val (.int (26 : Int32)), .val (.int (15 : Int32)), .val (.int c15)] [(.int (c15.toInt8.toInt32)), (.int (15 : Int32)), (.ref da)])) rfl rfl (hb hby d20_31)
  have G95 : VA Z h94 ca .char ([c0, c1, c2, c3, c4, c5, c6, c7, c8, c9, c10, c11, c12, c13, c14, c15, c16, c17, c18, c19, c20, c21, c22, c23, c24, c25].map Value.int) := G89.other W94 ne_ca_da
  have G96 : VA Z h94 da .byte ([(nar .byte (c0.toInt8.toInt32)), (nar .byte (c1.toInt8.toInt32)), (nar .byte (c2.toInt8.toInt32)), (nar .byte (c3.toInt8.toInt32)), (nar .byte (c4.toInt8.toInt32)), (nar .byte (c5.toInt8.toInt32)), (nar .byte (c6.toInt8.toInt32)), (nar .byte (c7.toInt8.toInt32)), (nar .byte (c8.toInt8.toInt32)), (nar .byte (c9.toInt8.toInt32)), (nar .byte (c10.toInt8.toInt32)), (nar .byte (c11.toInt8.toInt32)), (nar .byte (c12.toInt8.toInt32)), (nar .byte (c13.toInt8.toInt32)), (nar .byte (c14.toInt8.toInt32)), (nar .byte (c15.toInt8.toInt32)), (0 : Int32), (0 : Int32), (0 : Int32), (0 : Int32), (0 : Int32), (0 : Int32), (0 : Int32), (0 : Int32), (0 : Int32), (0 : Int32)].map Value.int) := V94
  have N94 := Fr.snoc X94 N88 g_da
  have K94 : Keep h0 h94 [da] := Keep.wr K88 W94 (Or.inl (List.mem_of_getElem? (i := 0) rfl))
  have Z94 : n0 ≤ h94.size := Nat.le_trans Z0 K94.1
  have ix97 : 0 ≤ ((16 : Int32)).toInt ∧ ((16 : Int32)).toInt < (([c0, c1, c2, c3, c4, c5, c6, c7, c8, c9, c10, c11, c12, c13, c14, c15, c16, c17, c18, c19, c20, c21, c22, c23, c24, c25]).length : Int) := by constructor <;> first | decide | (simp; done)
  refine Go.step (T' := T94) (f' := (mkF m 20 #[.val (.ref ca), .val (.int (16 : Int32)), .val (.ref da), .val (.int (16 : Int32)), .val (.int (26 : Int32)), .val (.int (16 : Int32)), .val (.int c16)] [(.int (255 : Int32)), (.int c16)])) (fun t kt => ?_) ?_
  · show Steps p.tables e below (T88.setTop (mkF m 20 #[.val (.ref ca), .val (.int (15 : Int32)), .val (.ref da), .val (.int (15 : Int32)), .val (.int (26 : Int32)), .val (.int (15 : Int32)), .val (.int c15)] [(.int (255 : Int32)), (.int c15)])) _
    refine XS.icmpYes X88.here hx rfl (pc0 := 20) (pc' := 26) rfl (hb hby d20_20) rfl (flt hd92).2.2.2 (by decide) (by decide) ?_
    show Steps p.tables e below (T88.setTop (mkF m 26 #[.val (.ref ca), .val (.int (15 : Int32)), .val (.ref da), .val (.int (15 : Int32)), .val (.int (26 : Int32)), .val (.int (15 : Int32)), .val (.int c15)] [])) _
    refine XS.aloadN X88.here hx rfl (hb hby d20_26) rfl rfl ?_
    show Steps p.tables e below (T88.setTop (mkF m 27 #[.val (.ref ca), .val (.int (15 : Int32)), .val (.ref da), .val (.int (15 : Int32)), .val (.int (26 : Int32)), .val (.int (15 : Int32)), .val (.int c15)] [(.ref da)])) _
    refine XS.iloadN X88.here hx rfl (hb hby d20_27) rfl ?_
    show Steps p.tables e below (T88.setTop (mkF m 28 #[.val (.ref ca), .val (.int (15 : Int32)), .val (.ref da), .val (.int (15 : Int32)), .val (.int (26 : Int32)), .val (.int (15 : Int32)), .val (.int c15)] [(.int (15 : Int32)), (.ref da)])) _
    refine XS.iload X88.here hx rfl (hb hby d20_28) rfl ?_
    show Steps p.tables e below (T88.setTop (mkF m 30 #[.val (.ref ca), .val (.int (15 : Int32)), .val (.ref da), .val (.int (15 : Int32)), .val (.int (26 : Int32)), .val (.int (15 : Int32)), .val (.int c15)] [(.int c15), (.int (15 : Int32)), (.ref da)])) _
    refine XS.i2b X88.here hx rfl (hb hby d20_30) rfl ?_
    show Steps p.tables e below (T88.setTop (mkF m 31 #[.val (.ref ca), .val (.int (15 : Int32)), .val (.ref da), .val (.int (15 : Int32)), .val (.int (26 : Int32)), .val (.int (15 : Int32)), .val (.int c15)] [(.int (c15.toInt8.toInt32)), (.int (15 : Int32)), (.ref da)])) _
    refine st94 _ ?_
    show Steps p.tables e below (T94.setTop (mkF m 32 #[.val (.ref ca), .val (.int (15 : Int32)), .val (.ref da), .val (.int (15 : Int32)), .val (.int (26 : Int32)), .val (.int (15 : Int32)), .val (.int c15)] [])) _
    refine XS.iinc X94.here hx rfl (hb hby d20_32) rfl (l' := #[.val (.ref ca), .val (.int (16 : Int32)), .val (.ref da), .val (.int (15 : Int32)), .val (.int (26 : Int32)), .val (.int (15 : Int32)), .val (.int c15)]) rfl ?_
    show Steps p.tables e below (T94.setTop (mkF m 35 #[.val (.ref ca), .val (.int (16 : Int32)), .val (.ref da), .val (.int (15 : Int32)), .val (.int (26 : Int32)), .val (.int (15 : Int32)), .val (.int c15)] [])) _
    refine XS.iinc X94.here hx rfl (hb hby d20_35) rfl (l' := #[.val (.ref ca), .val (.int (16 : Int32)), .val (.ref da), .val (.int (16 : Int32)), .val (.int (26 : Int32)), .val (.int (15 : Int32)), .val (.int c15)]) rfl ?_
    show Steps p.tables e below (T94.setTop (mkF m 38 #[.val (.ref ca), .val (.int (16 : Int32)), .val (.ref da), .val (.int (16 : Int32)), .val (.int (26 : Int32)), .val (.int (15 : Int32)), .val (.int c15)] [])) _
    refine XS.iinc X94.here hx rfl (hb hby d20_38) rfl (l' := #[.val (.ref ca), .val (.int (16 : Int32)), .val (.ref da), .val (.int (16 : Int32)), .val (.int (26 : Int32)), .val (.int (16 : Int32)), .val (.int c15)]) rfl ?_
    show Steps p.tables e below (T94.setTop (mkF m 41 #[.val (.ref ca), .val (.int (16 : Int32)), .val (.ref da), .val (.int (16 : Int32)), .val (.int (26 : Int32)), .val (.int (16 : Int32)), .val (.int c15)] [])) _
    refine XS.goto X94.here hx rfl (pc0 := 41) (pc' := 3) rfl (hb hby d20_41) (by decide) (by decide) ?_
    show Steps p.tables e below (T94.setTop (mkF m 3 #[.val (.ref ca), .val (.int (16 : Int32)), .val (.ref da), .val (.int (16 : Int32)), .val (.int (26 : Int32)), .val (.int (16 : Int32)), .val (.int c15)] [])) _
    refine XS.iload X94.here hx rfl (hb hby d20_3) rfl ?_
    show Steps p.tables e below (T94.setTop (mkF m 5 #[.val (.ref ca), .val (.int (16 : Int32)), .val (.ref da), .val (.int (16 : Int32)), .val (.int (26 : Int32)), .val (.int (16 : Int32)), .val (.int c15)] [(.int (16 : Int32))])) _
    refine XS.iload X94.here hx rfl (hb hby d20_5) rfl ?_
    show Steps p.tables e below (T94.setTop (mkF m 7 #[.val (.ref ca), .val (.int (16 : Int32)), .val (.ref da), .val (.int (16 : Int32)), .val (.int (26 : Int32)), .val (.int (16 : Int32)), .val (.int c15)] [(.int (26 : Int32)), (.int (16 : Int32))])) _
    refine XS.icmpNo X94.here hx rfl (hb hby d20_7) rfl (tlt (by decide : ((16 : Int32) < (26 : Int32)))).2.1 ?_
    show Steps p.tables e below (T94.setTop (mkF m 10 #[.val (.ref ca), .val (.int (16 : Int32)), .val (.ref da), .val (.int (16 : Int32)), .val (.int (26 : Int32)), .val (.int (16 : Int32)), .val (.int c15)] [])) _
    refine XS.aloadN X94.here hx rfl (hb hby d20_10) rfl rfl ?_
    show Steps p.tables e below (T94.setTop (mkF m 11 #[.val (.ref ca), .val (.int (16 : Int32)), .val (.ref da), .val (.int (16 : Int32)), .val (.int (26 : Int32)), .val (.int (16 : Int32)), .val (.int c15)] [(.ref ca)])) _
    refine XS.iloadN X94.here hx rfl (hb hby d20_11) rfl ?_
    show Steps p.tables e below (T94.setTop (mkF m 12 #[.val (.ref ca), .val (.int (16 : Int32)), .val (.ref da), .val (.int (16 : Int32)), .val (.int (26 : Int32)), .val (.int (16 : Int32)), .val (.int c15)] [(.int (16 : Int32)), (.ref ca)])) _
    refine ldC X94 hx hZ e94 G95 ix97.1 ix97.2 (g := (mkF m 12 #[.val (.ref ca), .val (.int (16 : Int32)), .val (.ref da), .val (.int (16 : Int32)), .val (.int (26 : Int32)), .val (.int (16 : Int32)), .val (.int c15)] [(.int (16 : Int32)), (.ref ca)])) rfl rfl (hb hby d20_12) _ ?_
    show Steps p.tables e below (T94.setTop (mkF m 13 #[.val (.ref ca), .val (.int (16 : Int32)), .val (.ref da), .val (.int (16 : Int32)), .val (.int (26 : Int32)), .val (.int (16 : Int32)), .val (.int c15)] [(.int c16)])) _
    refine XS.istore X94.here hx rfl (hb hby d20_13) rfl (l' := #[.val (.ref ca), .val (.int (16 : Int32)), .val (.ref da), .val (.int (16 : Int32)), .val (.int (26 : Int32)), .val (.int (16 : Int32)), .val (.int c16)]) rfl ?_
    show Steps p.tables e below (T94.setTop (mkF m 15 #[.val (.ref ca), .val (.int (16 : Int32)), .val (.ref da), .val (.int (16 : Int32)), .val (.int (26 : Int32)), .val (.int (16 : Int32)), .val (.int c16)] [])) _
    refine XS.iload X94.here hx rfl (hb hby d20_15) rfl ?_
    show Steps p.tables e below (T94.setTop (mkF m 17 #[.val (.ref ca), .val (.int (16 : Int32)), .val (.ref da), .val (.int (16 : Int32)), .val (.int (26 : Int32)), .val (.int (16 : Int32)), .val (.int c16)] [(.int c16)])) _
    refine XS.sipush X94.here hx rfl (hb hby d20_17) ?_
    exact kt
  have hd98 : ¬ ((255 : Int32) < c16) := hle _ (by simp)
  have ix99 : 0 ≤ ((16 : Int32)).toInt ∧ ((16 : Int32)).toInt < (([(nar .byte (c0.toInt8.toInt32)), (nar .byte (c1.toInt8.toInt32)), (nar .byte (c2.toInt8.toInt32)), (nar .byte (c3.toInt8.toInt32)), (nar .byte (c4.toInt8.toInt32)), (nar .byte (c5.toInt8.toInt32)), (nar .byte (c6.toInt8.toInt32)), (nar .byte (c7.toInt8.toInt32)), (nar .byte (c8.toInt8.toInt32)), (nar .byte (c9.toInt8.toInt32)), (nar .byte (c10.toInt8.toInt32)), (nar .byte (c11.toInt8.toInt32)), (nar .byte (c12.toInt8.toInt32)), (nar .byte (c13.toInt8.toInt32)), (nar .byte (c14.toInt8.toInt32)), (nar .byte (c15.toInt8.toInt32)), (0 : Int32), (0 : Int32), (0 : Int32), (0 : Int32), (0 : Int32), (0 : Int32), (0 : Int32), (0 : Int32), (0 : Int32), (0 : Int32)]).length : Int) := by constructor <;> first | decide | (simp; done)
  obtain ⟨T100, h100, X100, e100, W100, V100, st100⟩ := putB X94 hx hZ e94 G96 ix99.1 ix99.2 (g := (mkF m 31 #[.val (.ref ca), .val (.int (16 : Int32)), .val (.ref da), .val (.int (16 : Int32)), .val (.int (26 : Int32)), .val (.int (16 : Int32)), .val (.int c16)] [(.int (c16.toInt8.toInt32)), (.int (16 : Int32)), (.ref da)])) rfl rfl (hb hby d20_31)
  have G101 : VA Z h100 ca .char ([c0, c1, c2, c3, c4, c5, c6, c7, c8, c9, c10, c11, c12, c13, c14, c15, c16, c17, c18, c19, c20, c21, c22, c23, c24, c25].map Value.int) := G95.other W100 ne_ca_da
  have G102 : VA Z h100 da .byte ([(nar .byte (c0.toInt8.toInt32)), (nar .byte (c1.toInt8.toInt32)), (nar .byte (c2.toInt8.toInt32)), (nar .byte (c3.toInt8.toInt32)), (nar .byte (c4.toInt8.toInt32)), (nar .byte (c5.toInt8.toInt32)), (nar .byte (c6.toInt8.toInt32)), (nar .byte (c7.toInt8.toInt32)), (nar .byte (c8.toInt8.toInt32)), (nar .byte (c9.toInt8.toInt32)), (nar .byte (c10.toInt8.toInt32)), (nar .byte (c11.toInt8.toInt32)), (nar .byte (c12.toInt8.toInt32)), (nar .byte (c13.toInt8.toInt32)), (nar .byte (c14.toInt8.toInt32)), (nar .byte (c15.toInt8.toInt32)), (nar .byte (c16.toInt8.toInt32)), (0 : Int32), (0 : Int32), (0 : Int32), (0 : Int32), (0 : Int32), (0 : Int32), (0 : Int32), (0 : Int32), (0 : Int32)].map Value.int) := V100
  have N100 := Fr.snoc X100 N94 g_da
  have K100 : Keep h0 h100 [da] := Keep.wr K94 W100 (Or.inl (List.mem_of_getElem? (i := 0) rfl))
  have Z100 : n0 ≤ h100.size := Nat.le_trans Z0 K100.1
  have ix103 : 0 ≤ ((17 : Int32)).toInt ∧ ((17 : Int32)).toInt < (([c0, c1, c2, c3, c4, c5, c6, c7, c8, c9, c10, c11, c12, c13, c14, c15, c16, c17, c18, c19, c20, c21, c22, c23, c24, c25]).length : Int) := by constructor <;> first | decide | (simp; done)
  refine Go.step (T' := T100) (f' := (mkF m 20 #[.val (.ref ca), .val (.int (17 : Int32)), .val (.ref da), .val (.int (17 : Int32)), .val (.int (26 : Int32)), .val (.int (17 : Int32)), .val (.int c17)] [(.int (255 : Int32)), (.int c17)])) (fun t kt => ?_) ?_
  · show Steps p.tables e below (T94.setTop (mkF m 20 #[.val (.ref ca), .val (.int (16 : Int32)), .val (.ref da), .val (.int (16 : Int32)), .val (.int (26 : Int32)), .val (.int (16 : Int32)), .val (.int c16)] [(.int (255 : Int32)), (.int c16)])) _
    refine XS.icmpYes X94.here hx rfl (pc0 := 20) (pc' := 26) rfl (hb hby d20_20) rfl (flt hd98).2.2.2 (by decide) (by decide) ?_
    show Steps p.tables e below (T94.setTop (mkF m 26 #[.val (.ref ca), .val (.int (16 : Int32)), .val (.ref da), .val (.int (16 : Int32)), .val (.int (26 : Int32)), .val (.int (16 : Int32)), .val (.int c16)] [])) _
    refine XS.aloadN X94.here hx rfl (hb hby d20_26) rfl rfl ?_
    show Steps p.tables e below (T94.setTop (mkF m 27 #[.val (.ref ca), .val (.int (16 : Int32)), .val (.ref da), .val (.int (16 : Int32)), .val (.int (26 : Int32)), .val (.int (16 : Int32)), .val (.int c16)] [(.ref da)])) _
    refine XS.iloadN X94.here hx rfl (hb hby d20_27) rfl ?_
    show Steps p.tables e below (T94.setTop (mkF m 28 #[.val (.ref ca), .val (.int (16 : Int32)), .val (.ref da), .val (.int (16 : Int32)), .val (.int (26 : Int32)), .val (.int (16 : Int32)), .val (.int c16)] [(.int (16 : Int32)), (.ref da)])) _
    refine XS.iload X94.here hx rfl (hb hby d20_28) rfl ?_
    show Steps p.tables e below (T94.setTop (mkF m 30 #[.val (.ref ca), .val (.int (16 : Int32)), .val (.ref da), .val (.int (16 : Int32)), .val (.int (26 : Int32)), .val (.int (16 : Int32)), .val (.int c16)] [(.int c16), (.int (16 : Int32)), (.ref da)])) _
    refine XS.i2b X94.here hx rfl (hb hby d20_30) rfl ?_
    show Steps p.tables e below (T94.setTop (mkF m 31 #[.val (.ref ca), .val (.int (16 : Int32)), .val (.ref da), .val (.int (16 : Int32)), .val (.int (26 : Int32)), .val (.int (16 : Int32)), .val (.int c16)] [(.int (c16.toInt8.toInt32)), (.int (16 : Int32)), (.ref da)])) _
    refine st100 _ ?_
    show Steps p.tables e below (T100.setTop (mkF m 32 #[.val (.ref ca), .val (.int (16 : Int32)), .val (.ref da), .val (.int (16 : Int32)), .val (.int (26 : Int32)), .val (.int (16 : Int32)), .val (.int c16)] [])) _
    refine XS.iinc X100.here hx rfl (hb hby d20_32) rfl (l' := #[.val (.ref ca), .val (.int (17 : Int32)), .val (.ref da), .val (.int (16 : Int32)), .val (.int (26 : Int32)), .val (.int (16 : Int32)), .val (.int c16)]) rfl ?_
    show Steps p.tables e below (T100.setTop (mkF m 35 #[.val (.ref ca), .val (.int (17 : Int32)), .val (.ref da), .val (.int (16 : Int32)), .val (.int (26 : Int32)), .val (.int (16 : Int32)), .val (.int c16)] [])) _
    refine XS.iinc X100.here hx rfl (hb hby d20_35) rfl (l' := #[.val (.ref ca), .val (.int (17 : Int32)), .val (.ref da), .val (.int (17 : Int32)), .val (.int (26 : Int32)), .val (.int (16 : Int32)), .val (.int c16)]) rfl ?_
    show Steps p.tables e below (T100.setTop (mkF m 38 #[.val (.ref ca), .val (.int (17 : Int32)), .val (.ref da), .val (.int (17 : Int32)), .val (.int (26 : Int32)), .val (.int (16 : Int32)), .val (.int c16)] [])) _
    refine XS.iinc X100.here hx rfl (hb hby d20_38) rfl (l' := #[.val (.ref ca), .val (.int (17 : Int32)), .val (.ref da), .val (.int (17 : Int32)), .val (.int (26 : Int32)), .val (.int (17 : Int32)), .val (.int c16)]) rfl ?_
    show Steps p.tables e below (T100.setTop (mkF m 41 #[.val (.ref ca), .val (.int (17 : Int32)), .val (.ref da), .val (.int (17 : Int32)), .val (.int (26 : Int32)), .val (.int (17 : Int32)), .val (.int c16)] [])) _
    refine XS.goto X100.here hx rfl (pc0 := 41) (pc' := 3) rfl (hb hby d20_41) (by decide) (by decide) ?_
    show Steps p.tables e below (T100.setTop (mkF m 3 #[.val (.ref ca), .val (.int (17 : Int32)), .val (.ref da), .val (.int (17 : Int32)), .val (.int (26 : Int32)), .val (.int (17 : Int32)), .val (.int c16)] [])) _
    refine XS.iload X100.here hx rfl (hb hby d20_3) rfl ?_
    show Steps p.tables e below (T100.setTop (mkF m 5 #[.val (.ref ca), .val (.int (17 : Int32)), .val (.ref da), .val (.int (17 : Int32)), .val (.int (26 : Int32)), .val (.int (17 : Int32)), .val (.int c16)] [(.int (17 : Int32))])) _
    refine XS.iload X100.here hx rfl (hb hby d20_5) rfl ?_
    show Steps p.tables e below (T100.setTop (mkF m 7 #[.val (.ref ca), .val (.int (17 : Int32)), .val (.ref da), .val (.int (17 : Int32)), .val (.int (26 : Int32)), .val (.int (17 : Int32)), .val (.int c16)] [(.int (26 : Int32)), (.int (17 : Int32))])) _
    refine XS.icmpNo X100.here hx rfl (hb hby d20_7) rfl (tlt (by decide : ((17 : Int32) < (26 : Int32)))).2.1 ?_
    show Steps p.tables e below (T100.setTop (mkF m 10 #[.val (.ref ca), .val (.int (17 : Int32)), .val (.ref da), .val (.int (17 : Int32)), .val (.int (26 : Int32)), .val (.int (17 : Int32)), .val (.int c16)] [])) _
    refine XS.aloadN X100.here hx rfl (hb hby d20_10) rfl rfl ?_
    show Steps p.tables e below (T100.setTop (mkF m 11 #[.val (.ref ca), .val (.int (17 : Int32)), .val (.ref da), .val (.int (17 : Int32)), .val (.int (26 : Int32)), .val (.int (17 : Int32)), .val (.int c16)] [(.ref ca)])) _
    refine XS.iloadN X100.here hx rfl (hb hby d20_11) rfl ?_
    show Steps p.tables e below (T100.setTop (mkF m 12 #[.val (.ref ca), .val (.int (17 : Int32)), .val (.ref da), .val (.int (17 : Int32)), .val (.int (26 : Int32)), .val (.int (17 : Int32)), .val (.int c16)] [(.int (17 : Int32)), (.ref ca)])) _
    refine ldC X100 hx hZ e100 G101 ix103.1 ix103.2 (g := (mkF m 12 #[.val (.ref ca), .val (.int (17 : Int32)), .val (.ref da), .val (.int (17 : Int32)), .val (.int (26 : Int32)), .val (.int (17 : Int32)), .val (.int c16)] [(.int (17 : Int32)), (.ref ca)])) rfl rfl (hb hby d20_12) _ ?_
    show Steps p.tables e below (T100.setTop (mkF m 13 #[.val (.ref ca), .val (.int (17 : Int32)), .val (.ref da), .val (.int (17 : Int32)), .val (.int (26 : Int32)), .val (.int (17 : Int32)), .val (.int c16)] [(.int c17)])) _
    refine XS.istore X100.here hx rfl (hb hby d20_13) rfl (l' := #[.val (.ref ca), .val (.int (17 : Int32)), .val (.ref da), .val (.int (17 : Int32)), .val (.int (26 : Int32)), .val (.int (17 : Int32)), .val (.int c17)]) rfl ?_
    show Steps p.tables e below (T100.setTop (mkF m 15 #[.val (.ref ca), .val (.int (17 : Int32)), .val (.ref da), .val (.int (17 : Int32)), .val (.int (26 : Int32)), .val (.int (17 : Int32)), .val (.int c17)] [])) _
    refine XS.iload X100.here hx rfl (hb hby d20_15) rfl ?_
    show Steps p.tables e below (T100.setTop (mkF m 17 #[.val (.ref ca), .val (.int (17 : Int32)), .val (.ref da), .val (.int (17 : Int32)), .val (.int (26 : Int32)), .val (.int (17 : Int32)), .val (.int c17)] [(.int c17)])) _
    refine XS.sipush X100.here hx rfl (hb hby d20_17) ?_
    exact kt
  have hd104 : ¬ ((255 : Int32) < c17) := hle _ (by simp)
  have ix105 : 0 ≤ ((17 : Int32)).toInt ∧ ((17 : Int32)).toInt < (([(nar .byte (c0.toInt8.toInt32)), (nar .byte (c1.toInt8.toInt32)), (nar .byte (c2.toInt8.toInt32)), (nar .byte (c3.toInt8.toInt32)), (nar .byte (c4.toInt8.toInt32)), (nar .byte (c5.toInt8.toInt32)), (nar .byte (c6.toInt8.toInt32)), (nar .byte (c7.toInt8.toInt32)), (nar .byte (c8.toInt8.toInt32)), (nar .byte (c9.toInt8.toInt32)), (nar .byte (c10.toInt8.toInt32)), (nar .byte (c11.toInt8.toInt32)), (nar .byte (c12.toInt8.toInt32)), (nar .byte (c13.toInt8.toInt32)), (nar .byte (c14.toInt8.toInt32)), (nar .byte (c15.toInt8.toInt32)), (nar .byte (c16.toInt8.toInt32)), (0 : Int32), (0 : Int32), (0 : Int32), (0 : Int32), (0 : Int32), (0 : Int32), (0 : Int32), (0 : Int32), (0 : Int32)]).length : Int) := by constructor <;> first | decide | (simp; done)
  obtain ⟨T106, h106, X106, e106, W106, V106, st106⟩ := putB X100 hx hZ e100 G102 ix105.1 ix105.2 (g := (mkF m 31 #[.val (.ref ca), .val (.int (17 : Int32)), .val (.ref da), .val (.int (17 : Int32)), .val (.int (26 : Int32)), .val (.int (17 : Int32)), .val (.int c17)] [(.int (c17.toInt8.toInt32)), (.int (17 : Int32)), (.ref da)])) rfl rfl (hb hby d20_31)
  have G107 : VA Z h106 ca .char ([c0, c1, c2, c3, c4, c5, c6, c7, c8, c9, c10, c11, c12, c13, c14, c15, c16, c17, c18, c19, c20, c21, c22, c23, c24, c25].map Value.int) := G101.other W106 ne_ca_da
  have G108 : VA Z h106 da .byte ([(nar .byte (c0.toInt8.toInt32)), (nar .byte (c1.toInt8.toInt32)), (nar .byte (c2.toInt8.toInt32)), (nar .byte (c3.toInt8.toInt32)), (nar .byte (c4.toInt8.toInt32)), (nar .byte (c5.toInt8.toInt32)), (nar .byte (c6.toInt8.toInt32)), (nar .byte (c7.toInt8.toInt32)), (nar .byte (c8.toInt8.toInt32)), (nar .byte (c9.toInt8.toInt32)), (nar .byte (c10.toInt8.toInt32)), (nar .byte (c11.toInt8.toInt32)), (nar .byte (c12.toInt8.toInt32)), (nar .byte (c13.toInt8.toInt32)), (nar .byte (c14.toInt8.toInt32)), (nar .byte (c15.toInt8.toInt32)), (nar .byte (c16.toInt8.toInt32)), (nar .byte (c17.toInt8.toInt32)), (0 : Int32), (0 : Int32), (0 : Int32), (0 : Int32), (0 : Int32), (0 : Int32), (0 : Int32), (0 : Int32)].map Value.int) := V106
  have N106 := Fr.snoc X106 N100 g_da
  have K106 : Keep h0 h106 [da] := Keep.wr K100 W106 (Or.inl (List.mem_of_getElem? (i := 0) rfl))
  have Z106 : n0 ≤ h106.size := Nat.le_trans Z0 K106.1
  have ix109 : 0 ≤ ((18 : Int32)).toInt ∧ ((18 : Int32)).toInt < (([c0, c1, c2, c3, c4, c5, c6, c7, c8, c9, c10, c11, c12, c13, c14, c15, c16, c17, c18, c19, c20, c21, c22, c23, c24, c25]).length : Int) := by constructor <;> first | decide | (simp; done)
  refine Go.step (T' := T106) (f' := (mkF m 20 #[.val (.ref ca), .val (.int (18 : Int32)), .val (.ref da), .val (.int (18 : Int32)), .val (.int (26 : Int32)), .val (.int (18 : Int32)), .val (.int c18)] [(.int (255 : Int32)), (.int c18)])) (fun t kt => ?_) ?_
  · show Steps p.tables e below (T100.setTop (mkF m 20 #[.val (.ref ca), .val (.int (17 : Int32)), .val (.ref da), .val (.int (17 : Int32)), .val (.int (26 : Int32)), .val (.int (17 : Int32)), .val (.int c17)] [(.int (255 : Int32)), (.int c17)])) _
    refine XS.icmpYes X100.here hx rfl (pc0 := 20) (pc' := 26) rfl (hb hby d20_20) rfl (flt hd104).2.2.2 (by decide) (by decide) ?_
    show Steps p.tables e below (T100.setTop (mkF m 26 #[.val (.ref ca), .val (.int (17 : Int32)), .val (.ref da), .val (.int (17 : Int32)), .val (.int (26 : Int32)), .val (.int (17 : Int32)), .val (.int c17)] [])) _
    refine XS.aloadN X100.here hx rfl (hb hby d20_26) rfl rfl ?_
    show Steps p.tables e below (T100.setTop (mkF m 27 #[.val (.ref ca), .val (.int (17 : Int32)), .val (.ref da), .val (.int (17 : Int32)), .val (.int (26 : Int32)), .val (.int (17 : Int32)), .val (.int c17)] [(.ref da)])) _
    refine XS.iloadN X100.here hx rfl (hb hby d20_27) rfl ?_
    show Steps p.tables e below (T100.setTop (mkF m 28 #[.val (.ref ca), .val (.int (17 : Int32)), .val (.ref da), .val (.int (17 : Int32)), .val (.int (26 : Int32)), .val (.int (17 : Int32)), .val (.int c17)] [(.int (17 : Int32)), (.ref da)])) _
    refine XS.iload X100.here hx rfl (hb hby d20_28) rfl ?_
    show Steps p.tables e below (T100.setTop (mkF m 30 #[.val (.ref ca), .val (.int (17 : Int32)), .val (.ref da), .val (.int (17 : Int32)), .val (.int (26 : Int32)), .val (.int (17 : Int32)), .val (.int c17)] [(.int c17), (.int (17 : Int32)), (.ref da)])) _
    refine XS.i2b X100.here hx rfl (hb hby d20_30) rfl ?_
    show Steps p.tables e below (T100.setTop (mkF m 31 #[.val (.ref ca), .val (.int (17 : Int32)), .val (.ref da), .val (.int (17 : Int32)), .val (.int (26 : Int32)), .val (.int (17 : Int32)), .val (.int c17)] [(.int (c17.toInt8.toInt32)), (.int (17 : Int32)), (.ref da)])) _
    refine st106 _ ?_
    show Steps p.tables e below (T106.setTop (mkF m 32 #[.val (.ref ca), .val (.int (17 : Int32)), .val (.ref da), .val (.int (17 : Int32)), .val (.int (26 : Int32)), .val (.int (17 : Int32)), .val (.int c17)] [])) _
    refine XS.iinc X106.here hx rfl (hb hby d20_32) rfl (l' := #[.val (.ref ca), .val (.int (18 : Int32)), .val (.ref da), .val (.int (17 : Int32)), .val (.int (26 : Int32)), .val (.int (17 : Int32)), .val (.int c17)]) rfl ?_
    show Steps p.tables e below (T106.setTop (mkF m 35 #[.val (.ref ca), .val (.int (18 : Int32)), .val (.ref da), .val (.int (17 : Int32)), .val (.int (26 : Int32)), .val (.int (17 : Int32)), .val (.int c17)] [])) _
    refine XS.iinc X106.here hx rfl (hb hby d20_35) rfl (l' := #[.val (.ref ca), .val (.int (18 : Int32)), .val (.ref da), .val (.int (18 : Int32)), .val (.int (26 : Int32)), .val (.int (17 : Int32)), .val (.int c17)]) rfl ?_
    show Steps p.tables e below (T106.setTop (mkF m 38 #[.val (.ref ca), .val (.int (18 : Int32)), .val (.ref da), .val (.int (18 : Int32)), .val (.int (26 : Int32)), .val (.int (17 : Int32)), .val (.int c17)] [])) _
    refine XS.iinc X106.here hx rfl (hb hby d20_38) rfl (l' := #[.val (.ref ca), .val (.int (18 : Int32)), .val (.ref da), .val (.int (18 : Int32)), .val (.int (26 : Int32)), .val (.int (18 : Int32)), .val (.int c17)]) rfl ?_
    show Steps p.tables e below (T106.setTop (mkF m 41 #[.val (.ref ca), .val (.int (18 : Int32)), .val (.ref da), .val (.int (18 : Int32)), .val (.int (26 : Int32)), .val (.int (18 : Int32)), .val (.int c17)] [])) _
    refine XS.goto X106.here hx rfl (pc0 := 41) (pc' := 3) rfl (hb hby d20_41) (by decide) (by decide) ?_
    show Steps p.tables e below (T106.setTop (mkF m 3 #[.val (.ref ca), .val (.int (18 : Int32)), .val (.ref da), .val (.int (18 : Int32)), .val (.int (26 : Int32)), .val (.int (18 : Int32)), .val (.int c17)] [])) _
    refine XS.iload X106.here hx rfl (hb hby d20_3) rfl ?_
    show Steps p.tables e below (T106.setTop (mkF m 5 #[.val (.ref ca), .val (.int (18 : Int32)), .val (.ref da), .val (.int (18 : Int32)), .val (.int (26 : Int32)), .val (.int (18 : Int32)), .val (.int c17)] [(.int (18 : Int32))])) _
    refine XS.iload X106.here hx rfl (hb hby d20_5) rfl ?_
    show Steps p.tables e below (T106.setTop (mkF m 7 #[.val (.ref ca), .val (.int (18 : Int32)), .val (.ref da), .val (.int (18 : Int32)), .val (.int (26 : Int32)), .val (.int (18 : Int32)), .val (.int c17)] [(.int (26 : Int32)), (.int (18 : Int32))])) _
    refine XS.icmpNo X106.here hx rfl (hb hby d20_7) rfl (tlt (by decide : ((18 : Int32) < (26 : Int32)))).2.1 ?_
    show Steps p.tables e below (T106.setTop (mkF m 10 #[.val (.ref ca), .val (.int (18 : Int32)), .val (.ref da), .val (.int (18 : Int32)), .val (.int (26 : Int32)), .val (.int (18 : Int32)), .val (.int c17)] [])) _
    refine XS.aloadN X106.here hx rfl (hb hby d20_10) rfl rfl ?_
    show Steps p.tables e below (T106.setTop (mkF m 11 #[.val (.ref ca), .val (.int (18 : Int32)), .val (.ref da), .val (.int (18 : Int32)), .val (.int (26 : Int32)), .val (.int (18 : Int32)), .val (.int c17)] [(.ref ca)])) _
    refine XS.iloadN X106.here hx rfl (hb hby d20_11) rfl ?_
    show Steps p.tables e below (T106.setTop (mkF m 12 #[.val (.ref ca), .val (.int (18 : Int32)), .val (.ref da), .val (.int (18 : Int32)), .val (.int (26 : Int32)), .val (.int (18 : Int32)), .val (.int c17)] [(.int (18 : Int32)), (.ref ca)])) _
    refine ldC X106 hx hZ e106 G107 ix109.1 ix109.2 (g := (mkF m 12 #[.val (.ref ca), .val (.int (18 : Int32)), .val (.ref da), .val (.int (18 : Int32)), .val (.int (26 : Int32)), .val (.int (18 : Int32)), .val (.int c17)] [(.int (18 : Int32)), (.ref ca)])) rfl rfl (hb hby d20_12) _ ?_
    show Steps p.tables e below (T106.setTop (mkF m 13 #[.val (.ref ca), .val (.int (18 : Int32)), .val (.ref da), .val (.int (18 : Int32)), .val (.int (26 : Int32)), .val (.int (18 : Int32)), .val (.int c17)] [(.int c18)])) _
    refine XS.istore X106.here hx rfl (hb hby d20_13) rfl (l' := #[.val (.ref ca), .val (.int (18 : Int32)), .val (.ref da), .val (.int (18 : Int32)), .val (.int (26 : Int32)), .val (.int (18 : Int32)), .val (.int c18)]) rfl ?_
    show Steps p.tables e below (T106.setTop (mkF m 15 #[.val (.ref ca), .val (.int (18 : Int32)), .val (.ref da), .val (.int (18 : Int32)), .val (.int (26 : Int32)), .val (.int (18 : Int32)), .val (.int c18)] [])) _
    refine XS.iload X106.here hx rfl (hb hby d20_15) rfl ?_
    show Steps p.tables e below (T106.setTop (mkF m 17 #[.val (.ref ca), .val (.int (18 : Int32)), .val (.ref da), .val (.int (18 : Int32)), .val (.int (26 : Int32)), .val (.int (18 : Int32)), .val (.int c18)] [(.int c18)])) _
    refine XS.sipush X106.here hx rfl (hb hby d20_17) ?_
    exact kt
  have hd110 : ¬ ((255 : Int32) < c18) := hle _ (by simp)
  have ix111 : 0 ≤ ((18 : Int32)).toInt ∧ ((18 : Int32)).toInt < (([(nar .byte (c0.toInt8.toInt32)), (nar .byte (c1.toInt8.toInt32)), (nar .byte (c2.toInt8.toInt32)), (nar .byte (c3.toInt8.toInt32)), (nar .byte (c4.toInt8.toInt32)), (nar .byte (c5.toInt8.toInt32)), (nar .byte (c6.toInt8.toInt32)), (nar .byte (c7.toInt8.toInt32)), (nar .byte (c8.toInt8.toInt32)), (nar .byte (c9.toInt8.toInt32)), (nar .byte (c10.toInt8.toInt32)), (nar .byte (c11.toInt8.toInt32)), (nar .byte (c12.toInt8.toInt32)), (nar .byte (c13.toInt8.toInt32)), (nar .byte (c14.toInt8.toInt32)), (nar .byte (c15.toInt8.toInt32)), (nar .byte (c16.toInt8.toInt32)), (nar .byte (c17.toInt8.toInt32)), (0 : Int32), (0 : Int32), (0 : Int32), (0 : Int32), (0 : Int32), (0 : Int32), (0 : Int32), (0 : Int32)]).length : Int) := by constructor <;> first | decide | (simp; done)
  obtain ⟨T112, h112, X112, e112, W112, V112, st112⟩ := putB X106 hx hZ e106 G108 ix111.1 ix111.2 (g := (mkF m 31 #[.val (.ref ca), .val (.int (18 : Int32)), .val (.ref da), .val (.int (18 : Int32)), .val (.int (26 : Int32)), .val (.int (18 : Int32)), .val (.int c18)] [(.int (c18.toInt8.toInt32)), (.int (18 : Int32)), (.ref da)])) rfl rfl (hb hby d20_31)
  have G113 : VA Z h112 ca .char ([c0, c1, c2, c3, c4, c5, c6, c7, c8, c9, c10, c11, c12, c13, c14, c15, c16, c17, c18, c19, c20, c21, c22, c23, c24, c25].map Value.int) := G107.other W112 ne_ca_da
  have G114 : VA Z h112 da .byte ([(nar .byte (c0.toInt8.toInt32)), (nar .byte (c1.toInt8.toInt32)), (nar .byte (c2.toInt8.toInt32)), (nar .byte (c3.toInt8.toInt32)), (nar .byte (c4.toInt8.toInt32)), (nar .byte (c5.toInt8.toInt32)), (nar .byte (c6.toInt8.toInt32)), (nar .byte (c7.toInt8.toInt32)), (nar .byte (c8.toInt8.toInt32)), (nar .byte (c9.toInt8.toInt32)), (nar .byte (c10.toInt8.toInt32)), (nar .byte (c11.toInt8.toInt32)), (nar .byte (c12.toInt8.toInt32)), (nar .byte (c13.toInt8.toInt32)), (nar .byte (c14.toInt8.toInt32)), (nar .byte (c15.toInt8.toInt32)), (nar .byte (c16.toInt8.toInt32)), (nar .byte (c17.toInt8.toInt32)), (nar .byte (c18.toInt8.toInt32)), (0 : Int32), (0 : Int32), (0 : Int32), (0 : Int32), (0 : Int32), (0 : Int32), (0 : Int32)].map Value.int) := V112
  have N112 := Fr.snoc X112 N106 g_da
  have K112 : Keep h0 h112 [da] := Keep.wr K106 W112 (Or.inl (List.mem_of_getElem? (i := 0) rfl))
  have Z112 : n0 ≤ h112.size := Nat.le_trans Z0 K112.1
  have ix115 : 0 ≤ ((19 : Int32)).toInt ∧ ((19 : Int32)).toInt < (([c0, c1, c2, c3, c4, c5, c6, c7, c8, c9, c10, c11, c12, c13, c14, c15, c16, c17, c18, c19, c20, c21, c22, c23, c24, c25]).length : Int) := by constructor <;> first | decide | (simp; done)
  refine Go.step (T' := T112) (f' := (mkF m 20 #[.val (.ref ca), .val (.int (19 : Int32)), .val (.ref da), .val (.int (19 : Int32)), .val (.int (26 : Int32)), .val (.int (19 : Int32)), .val (.int c19)] [(.int (255 : Int32)), (.int c19)])) (fun t kt => ?_) ?_
  · show Steps p.tables e below (T106.setTop (mkF m 20 #[.val (.ref ca), .val (.int (18 : Int32)), .val (.ref da), .val (.int (18 : Int32)), .val (.int (26 : Int32)), .val (.int (18 : Int32)), .val (.int c18)] [(.int (255 : Int32)), (.int c18)])) _
    refine XS.icmpYes X106.here hx rfl (pc0 := 20) (pc' := 26) rfl (hb hby d20_20) rfl (flt hd110).2.2.2 (by decide) (by decide) ?_
    show Steps p.tables e below (T106.setTop (mkF m 26 #[.val (.ref ca), .val (.int (18 : Int32)), .val (.ref da), .val (.int (18 : Int32)), .val (.int (26 : Int32)), .val (.int (18 : Int32)), .val (.int c18)] [])) _
    refine XS.aloadN X106.here hx rfl (hb hby d20_26) rfl rfl ?_
    show Steps p.tables e below (T106.setTop (mkF m 27 #[.val (.ref ca), .val (.int (18 : Int32)), .val (.ref da), .val (.int (18 : Int32)), .val (.int (26 : Int32)), .val (.int (18 : Int32)), .val (.int c18)] [(.ref da)])) _
    refine XS.iloadN X106.here hx rfl (hb hby d20_27) rfl ?_
    show Steps p.tables e below (T106.setTop (mkF m 28 #[.val (.ref ca), .val (.int (18 : Int32)), .val (.ref da), .val (.int (18 : Int32)), .val (.int (26 : Int32)), .val (.int (18 : Int32)), .val (.int c18)] [(.int (18 : Int32)), (.ref da)])) _
    refine XS.iload X106.here hx rfl (hb hby d20_28) rfl ?_
    show Steps p.tables e below (T106.setTop (mkF m 30 #[.val (.ref ca), .val (.int (18 : Int32)), .val (.ref da), .val (.int (18 : Int32)), .val (.int (26 : Int32)), .val (.int (18 : Int32)), .val (.int c18)] [(.int c18), (.int (18 : Int32)), (.ref da)])) _
    refine XS.i2b X106.here hx rfl (hb hby d20_30) rfl ?_
    show Steps p.tables e below (T106.setTop (mkF m 31 #[.val (.ref ca), .val (.int (18 : Int32)), .val (.ref da), .val (.int (18 : Int32)), .val (.int (26 : Int32)), .val (.int (18 : Int32)), .val (.int c18)] [(.int (c18.toInt8.toInt32)), (.int (18 : Int32)), (.ref da)])) _
    refine st112 _ ?_
    show Steps p.tables e below (T112.setTop (mkF m 32 #[.val (.ref ca), .val (.int (18 : Int32)), .val (.ref da), .val (.int (18 : Int32)), .val (.int (26 : Int32)), .val (.int (18 : Int32)), .val (.int c18)] [])) _
    refine XS.iinc X112.here hx rfl (hb hby d20_32) rfl (l' := #[.val (.ref ca), .val (.int (19 : Int32)), .val (.ref da), .val (.int (18 : Int32)), .val (.int (26 : Int32)), .val (.int (18 : Int32)), .val (.int c18)]) rfl ?_
    show Steps p.tables e below (T112.setTop (mkF m 35 #[.val (.ref ca), .val (.int (19 : Int32)), .val (.ref da), .val (.int (18 : Int32)), .val (.int (26 : Int32)), .val (.int (18 : Int32)), .val (.int c18)] [])) _
    refine XS.iinc X112.here hx rfl (hb hby d20_35) rfl (l' := #[.val (.ref ca), .val (.int (19 : Int32)), .val (.ref da), .val (.int (19 : Int32)), .val (.int (26 : Int32)), .val (.int (18 : Int32)), .val (.int c18)]) rfl ?_
    show Steps p.tables e below (T112.setTop (mkF m 38 #[.val (.ref ca), .val (.int (19 : Int32)), .val (.ref da), .val (.int (19 : Int32)), .val (.int (26 : Int32)), .val (.int (18 : Int32)), .val (.int c18)] [])) _
    refine XS.iinc X112.here hx rfl (hb hby d20_38) rfl (l' := #[.val (.ref ca), .val (.int (19 : Int32)), .val (.ref da), .val (.int (19 : Int32)), .val (.int (26 : Int32)), .val (.int (19 : Int32)), .val (.int c18)]) rfl ?_
    show Steps p.tables e below (T112.setTop (mkF m 41 #[.val (.ref ca), .val (.int (19 : Int32)), .val (.ref da), .val (.int (19 : Int32)), .val (.int (26 : Int32)), .val (.int (19 : Int32)), .val (.int c18)] [])) _
    refine XS.goto X112.here hx rfl (pc0 := 41) (pc' := 3) rfl (hb hby d20_41) (by decide) (by decide) ?_
    show Steps p.tables e below (T112.setTop (mkF m 3 #[.val (.ref ca), .val (.int (19 : Int32)), .val (.ref da), .val (.int (19 : Int32)), .val (.int (26 : Int32)), .val (.int (19 : Int32)), .val (.int c18)] [])) _
    refine XS.iload X112.here hx rfl (hb hby d20_3) rfl ?_
    show Steps p.tables e below (T112.setTop (mkF m 5 #[.val (.ref ca), .val (.int (19 : Int32)), .val (.ref da), .val (.int (19 : Int32)), .val (.int (26 : Int32)), .val (.int (19 : Int32)), .val (.int c18)] [(.int (19 : Int32))])) _
    refine XS.iload X112.here hx rfl (hb hby d20_5) rfl ?_
    show Steps p.tables e below (T112.setTop (mkF m 7 #[.val (.ref ca), .val (.int (19 : Int32)), .val (.ref da), .val (.int (19 : Int32)), .val (.int (26 : Int32)), .val (.int (19 : Int32)), .val (.int c18)] [(.int (26 : Int32)), (.int (19 : Int32))])) _
    refine XS.icmpNo X112.here hx rfl (hb hby d20_7) rfl (tlt (by decide : ((19 : Int32) < (26 : Int32)))).2.1 ?_
    show Steps p.tables e below (T112.setTop (mkF m 10 #[.val (.ref ca), .val (.int (19 : Int32)), .val (.ref da), .val (.int (19 : Int32)), .val (.int (26 : Int32)), .val (.int (19 : Int32)), .val (.int c18)] [])) _
    refine XS.aloadN X112.here hx rfl (hb hby d20_10) rfl rfl ?_
    show Steps p.tables e below (T112.setTop (mkF m 11 #[.val (.ref ca), .val (.int (19 : Int32)), .val (.ref da), .val (.int (19 : Int32)), .val (.int (26 : Int32)), .val (.int (19 : Int32)), .val (.int c18)] [(.ref ca)])) _
    refine XS.iloadN X112.here hx rfl (hb hby d20_11) rfl ?_
    show Steps p.tables e below (T112.setTop (mkF m 12 #[.val (.ref ca), .val (.int (19 : Int32)), .val (.ref da), .val (.int (19 : Int32)), .val (.int (26 : Int32)), .val (.int (19 : Int32)), .val (.int c18)] [(.int (19 : Int32)), (.ref ca)])) _
    refine ldC X112 hx hZ e112 G113 ix115.1 ix115.2 (g := (mkF m 12 #[.val (.ref ca), .val (.int (19 : Int32)), .val (.ref da), .val (.int (19 : Int32)), .val (.int (26 : Int32)), .val (.int (19 : Int32)), .val (.int c18)] [(.int (19 : Int32)), (.ref ca)])) rfl rfl (hb hby d20_12) _ ?_
    show Steps p.tables e below (T112.setTop (mkF m 13 #[.val (.ref ca), .val (.int (19 : Int32)), .val (.ref da), .val (.int (19 : Int32)), .val (.int (26 : Int32)), .val (.int (19 : Int32)), .val (.int c18)] [(.int c19)])) _
    refine XS.istore X112.here hx rfl (hb hby d20_13) rfl (l' := #[.val (.ref ca), .val (.int (19 : Int32)), .val (.ref da), .val (.int (19 : Int32)), .val (.int (26 : Int32)), .val (.int (19 : Int32)), .val (.int c19)]) rfl ?_
    show Steps p.tables e below (T112.setTop (mkF m 15 #[.val (.ref ca), .val (.int (19 : Int32)), .val (.ref da), .val (.int (19 : Int32)), .val (.int (26 : Int32)), .val (.int (19 : Int32)), .val (.int c19)] [])) _
    refine XS.iload X112.here hx rfl (hb hby d20_15) rfl ?_
    show Steps p.tables e below (T112.setTop (mkF m 17 #[.val (.ref ca), .val (.int (19 : Int32)), .val (.ref da), .val (.int (19 : Int32)), .val (.int (26 : Int32)), .val (.int (19 : Int32)), .val (.int c19)] [(.int c19)])) _
    refine XS.sipush X112.here hx rfl (hb hby d20_17) ?_
    exact kt
  have hd116 : ¬ ((255 : Int32) < c19) := hle _ (by simp)
  have ix117 : 0 ≤ ((19 : Int32)).toInt ∧ ((19 : Int32)).toInt < (([(nar .byte (c0.toInt8.toInt32)), (nar .byte (c1.toInt8.toInt32)), (nar .byte (c2.toInt8.toInt32)), (nar .byte (c3.toInt8.toInt32)), (nar .byte (c4.toInt8.toInt32)), (nar .byte (c5.toInt8.toInt32)), (nar .byte (c6.toInt8.toInt32)), (nar .byte (c7.toInt8.toInt32)), (nar .byte (c8.toInt8.toInt32)), (nar .byte (c9.toInt8.toInt32)), (nar .byte (c10.toInt8.toInt32)), (nar .byte (c11.toInt8.toInt32)), (nar .byte (c12.toInt8.toInt32)), (nar .byte (c13.toInt8.toInt32)), (nar .byte (c14.toInt8.toInt32)), (nar .byte (c15.toInt8.toInt32)), (nar .byte (c16.toInt8.toInt32)), (nar .byte (c17.toInt8.toInt32)), (nar .byte (c18.toInt8.toInt32)), (0 : Int32), (0 : Int32), (0 : Int32), (0 : Int32), (0 : Int32), (0 : Int32), (0 : Int32)]).length : Int) := by constructor <;> first | decide | (simp; done)
  obtain ⟨T118, h118, X118, e118, W118, V118, st118⟩ := putB X112 hx hZ e112 G114 ix117.1 ix117.2 (g := (mkF m 31 #[.val (.ref ca), .val (.int (19 : Int32)), .val (.ref da), .val (.int (19 : Int32)), .val (.int (26 : Int32)), .val (.int (19 : Int32)), .val (.int c19)] [(.int (c19.toInt8.toInt32)), (.int (19 : Int32)), (.ref da)])) rfl rfl (hb hby d20_31)
  have G119 : VA Z h118 ca .char ([c0, c1, c2, c3, c4, c5, c6, c7, c8, c9, c10, c11, c12, c13, c14, c15, c16, c17, c18, c19, c20, c21, c22, c23, c24, c25].map Value.int) := G113.other W118 ne_ca_da
  have G120 : VA Z h118 da .byte ([(nar .byte (c0.toInt8.toInt32)), (nar .byte (c1.toInt8.toInt32)), (nar .byte (c2.toInt8.toInt32)), (nar .byte (c3.toInt8.toInt32)), (nar .byte (c4.toInt8.toInt32)), (nar .byte (c5.toInt8.toInt32)), (nar .byte (c6.toInt8.toInt32)), (nar .byte (c7.toInt8.toInt32)), (nar .byte (c8.toInt8.toInt32)), (nar .byte (c9.toInt8.toInt32)), (nar .byte (c10.toInt8.toInt32)), (nar .byte (c11.toInt8.toInt32)), (nar .byte (c12.toInt8.toInt32)), (nar .byte (c13.toInt8.toInt32)), (nar .byte (c14.toInt8.toInt32)), (nar .byte (c15.toInt8.toInt32)), (nar .byte (c16.toInt8.toInt32)), (nar .byte (c17.toInt8.toInt32)), (nar .byte (c18.toInt8.toInt32)), (nar .byte (c19.toInt8.toInt32)), (0 : Int32), (0 : Int32), (0 : Int32), (0 : Int32), (0 : Int32), (0 : Int32)].map Value.int) := V118
  have N118 := Fr.snoc X118 N112 g_da
  have K118 : Keep h0 h118 [da] := Keep.wr K112 W118 (Or.inl (List.mem_of_getElem? (i := 0) rfl))
  have Z118 : n0 ≤ h118.size := Nat.le_trans Z0 K118.1
  have ix121 : 0 ≤ ((20 : Int32)).toInt ∧ ((20 : Int32)).toInt < (([c0, c1, c2, c3, c4, c5, c6, c7, c8, c9, c10, c11, c12, c13, c14, c15, c16, c17, c18, c19, c20, c21, c22, c23, c24, c25]).length : Int) := by constructor <;> first | decide | (simp; done)
  refine Go.step (T' := T118) (f' := (mkF m 20 #[.val (.ref ca), .val (.int (20 : Int32)), .val (.ref da), .val (.int (20 : Int32)), .val (.int (26 : Int32)), .val (.int (20 : Int32)), .val (.int c20)] [(.int (255 : Int32)), (.int c20)])) (fun t kt => ?_) ?_
  · show Steps p.tables e below (T112.setTop (mkF m 20 #[.val (.ref ca), .val (.int (19 : Int32)), .val (.ref da), .val (.int (19 : Int32)), .val (.int (26 : Int32)), .val (.int (19 : Int32)), .val (.int c19)] [(.int (255 : Int32)), (.int c19)])) _
    refine XS.icmpYes X112.here hx rfl (pc0 := 20) (pc' := 26) rfl (hb hby d20_20) rfl (flt hd116).2.2.2 (by decide) (by decide) ?_
    show Steps p.tables e below (T112.setTop (mkF m 26 #[.val (.ref ca), .val (.int (19 : Int32)), .val (.ref da), .val (.int (19 : Int32)), .val (.int (26 : Int32)), .val (.int (19 : Int32)), .val (.int c19)] [])) _
    refine XS.aloadN X112.here hx rfl (hb hby d20_26) rfl rfl ?_
    show Steps p.tables e below (T112.setTop (mkF m 27 #[.val (.ref ca), .val (.int (19 : Int32)), .val (.ref da), .val (.int (19 : Int32)), .val (.int (26 : Int32)), .val (.int (19 : Int32)), .val (.int c19)] [(.ref da)])) _
    refine XS.iloadN X112.here hx rfl (hb hby d20_27) rfl ?_
    show Steps p.tables e below (T112.setTop (mkF m 28 #[.val (.ref ca), .val (.int (19 : Int32)), .val (.ref da), .val (.int (19 : Int32)), .val (.int (26 : Int32)), .val (.int (19 : Int32)), .val (.int c19)] [(.int (19 : Int32)), (.ref da)])) _
    refine XS.iload X112.here hx rfl (hb hby d20_28) rfl ?_
    show Steps p.tables e below (T112.setTop (mkF m 30 #[.val (.ref ca), .val (.int (19 : Int32)), .val (.ref da), .val (.int (19 : Int32)), .val (.int (26 : Int32)), .val (.int (19 : Int32)), .val (.int c19)] [(.int c19), (.int (19 : Int32)), (.ref da)])) _
    refine XS.i2b X112.here hx rfl (hb hby d20_30) rfl ?_
    show Steps p.tables e below (T112.setTop (mkF m 31 #[.val (.ref ca), .val (.int (19 : Int32)), .val (.ref da), .val (.int (19 : Int32)), .val (.int (26 : Int32)), .val (.int (19 : Int32)), .val (.int c19)] [(.int (c19.toInt8.toInt32)), (.int (19 : Int32)), (.ref da)])) _
    refine st118 _ ?_
    show Steps p.tables e below (T118.setTop (mkF m 32 #[.val (.ref ca), .val (.int (19 : Int32)), .val (.ref da), .val (.int (19 : Int32)), .val (.int (26 : Int32)), .val (.int (19 : Int32)), .val (.int c19)] [])) _
    refine XS.iinc X118.here hx rfl (hb hby d20_32) rfl (l' := #[.val (.ref ca), .val (.int (20 : Int32)), .val (.ref da), .val (.int (19 : Int32)), .val (.int (26 : Int32)), .val (.int (19 : Int32)), .val (.int c19)]) rfl ?_
    show Steps p.tables e below (T118.setTop (mkF m 35 #[.val (.ref ca), .val (.int (20 : Int32)), .val (.ref da), .val (.int (19 : Int32)), .val (.int (26 : Int32)), .val (.int (19 : Int32)), .val (.int c19)] [])) _
    refine XS.iinc X118.here hx rfl (hb hby d20_35) rfl (l' := #[.val (.ref ca), .val (.int (20 : Int32)), .val (.ref da), .val (.int (20 : Int32)), .val (.int (26 : Int32)), .val (.int (19 : Int32)), .val (.int c19)]) rfl ?_
    show Steps p.tables e below (T118.setTop (mkF m 38 #[.val (.ref ca), .val (.int (20 : Int32)), .val (.ref da), .val (.int (20 : Int32)), .val (.int (26 : Int32)), .val (.int (19 : Int32)), .val (.int c19)] [])) _
    refine XS.iinc X118.here hx rfl (hb hby d20_38) rfl (l' := #[.val (.ref ca), .val (.int (20 : Int32)), .val (.ref da), .val (.int (20 : Int32)), .val (.int (26 : Int32)), .val (.int (20 : Int32)), .val (.int c19)]) rfl ?_
    show Steps p.tables e below (T118.setTop (mkF m 41 #[.val (.ref ca), .val (.int (20 : Int32)), .val (.ref da), .val (.int (20 : Int32)), .val (.int (26 : Int32)), .val (.int (20 : Int32)), .val (.int c19)] [])) _
    refine XS.goto X118.here hx rfl (pc0 := 41) (pc' := 3) rfl (hb hby d20_41) (by decide) (by decide) ?_
    show Steps p.tables e below (T118.setTop (mkF m 3 #[.val (.ref ca), .val (.int (20 : Int32)), .val (.ref da), .val (.int (20 : Int32)), .val (.int (26 : Int32)), .val (.int (20 : Int32)), .val (.int c19)] [])) _
    refine XS.iload X118.here hx rfl (hb hby d20_3) rfl ?_
    show Steps p.tables e below (T118.setTop (mkF m 5 #[.val (.ref ca), .val (.int (20 : Int32)), .val (.ref da), .val (.int (20 : Int32)), .val (.int (26 : Int32)), .val (.int (20 : Int32)), .val (.int c19)] [(.int (20 : Int32))])) _
    refine XS.iload X118.here hx rfl (hb hby d20_5) rfl ?_
    show Steps p.tables e below (T118.setTop (mkF m 7 #[.val (.ref ca), .val (.int (20 : Int32)), .val (.ref da), .val (.int (20 : Int32)), .val (.int (26 : Int32)), .val (.int (20 : Int32)), .val (.int c19)] [(.int (26 : Int32)), (.int (20 : Int32))])) _
    refine XS.icmpNo X118.here hx rfl (hb hby d20_7) rfl (tlt (by decide : ((20 : Int32) < (26 : Int32)))).2.1 ?_
    show Steps p.tables e below (T118.setTop (mkF m 10 #[.val (.ref ca), .val (.int (20 : Int32)), .val (.ref da), .val (.int (20 : Int32)), .val (.int (26 : Int32)), .val (.int (20 : Int32)), .val (.int c19)] [])) _
    refine XS.aloadN X118.here hx rfl (hb hby d20_10) rfl rfl ?_
    show Steps p.tables e below (T118.setTop (mkF m 11 #[.val (.ref ca), .val (.int (20 : Int32)), .val (.ref da), .val (.int (20 : Int32)), .val (.int (26 : Int32)), .val (.int (20 : Int32)), .val (.int c19)] [(.ref ca)])) _
    refine XS.iloadN X118.here hx rfl (hb hby d20_11) rfl ?_
    show Steps p.tables e below (T118.setTop (mkF m 12 #[.val (.ref ca), .val (.int (20 : Int32)), .val (.ref da), .val (.int (20 : Int32)), .val (.int (26 : Int32)), .val (.int (20 : Int32)), .val (.int c19)] [(.int (20 : Int32)), (.ref ca)])) _
    refine ldC X118 hx hZ e118 G119 ix121.1 ix121.2 (g := (mkF m 12 #[.val (.ref ca), .val (.int (20 : Int32)), .val (.ref da), .val (.int (20 : Int32)), .val (.int (26 : Int32)), .val (.int (20 : Int32)), .val (.int c19)] [(.int (20 : Int32)), (.ref ca)])) rfl rfl (hb hby d20_12) _ ?_
    show Steps p.tables e below (T118.setTop (mkF m 13 #[.val (.ref ca), .val (.int (20 : Int32)), .val (.ref da), .val (.int (20 : Int32)), .val (.int (26 : Int32)), .val (.int (20 : Int32)), .val (.int c19)] [(.int c20)])) _
    refine XS.istore X118.here hx rfl (hb hby d20_13) rfl (l' := #[.val (.ref ca), .val (.int (20 : Int32)), .val (.ref da), .val (.int (20 : Int32)), .val (.int (26 : Int32)), .val (.int (20 : Int32)), .val (.int c20)]) rfl ?_
    show Steps p.tables e below (T118.setTop (mkF m 15 #[.val (.ref ca), .val (.int (20 : Int32)), .val (.ref da), .val (.int (20 : Int32)), .val (.int (26 : Int32)), .val (.int (20 : Int32)), .val (.int c20)] [])) _
    refine XS.iload X118.here hx rfl (hb hby d20_15) rfl ?_
    show Steps p.tables e below (T118.setTop (mkF m 17 #[.val (.ref ca), .val (.int (20 : Int32)), .val (.ref da), .val (.int (20 : Int32)), .val (.int (26 : Int32)), .val (.int (20 : Int32)), .val (.int c20)] [(.int c20)])) _
    refine XS.sipush X118.here hx rfl (hb hby d20_17) ?_
    exact kt
  have hd122 : ¬ ((255 : Int32) < c20) := hle _ (by simp)
  have ix123 : 0 ≤ ((20 : Int32)).toInt ∧ ((20 : Int32)).toInt < (([(nar .byte (c0.toInt8.toInt32)), (nar .byte (c1.toInt8.toInt32)), (nar .byte (c2.toInt8.toInt32)), (nar .byte (c3.toInt8.toInt32)), (nar .byte (c4.toInt8.toInt32)), (nar .byte (c5.toInt8.toInt32)), (nar .byte (c6.toInt8.toInt32)), (nar .byte (c7.toInt8.toInt32)), (nar .byte (c8.toInt8.toInt32)), (nar .byte (c9.toInt8.toInt32)), (nar .byte (c10.toInt8.toInt32)), (nar .byte (c11.toInt8.toInt32)), (nar .byte (c12.toInt8.toInt32)), (nar .byte (c13.toInt8.toInt32)), (nar .byte (c14.toInt8.toInt32)), (nar .byte (c15.toInt8.toInt32)), (nar .byte (c16.toInt8.toInt32)), (nar .byte (c17.toInt8.toInt32)), (nar .byte (c18.toInt8.toInt32)), (nar .byte (c19.toInt8.toInt32)), (0 : Int32), (0 : Int32), (0 : Int32), (0 : Int32), (0 : Int32), (0 : Int32)]).length : Int) := by constructor <;> first | decide | (simp; done)
  obtain ⟨T124, h124, X124, e124, W124, V124, st124⟩ := putB X118 hx hZ e118 G120 ix123.1 ix123.2 (g := (mkF m 31 #[.val (.ref ca), .val (.int (20 : Int32)), .val (.ref da), .val (.int (20 : Int32)), .val (.int (26 : Int32)), .val (.int (20 : Int32)), .val (.int c20)] [(.int (c20.toInt8.toInt32)), (.int (20 : Int32)), (.ref da)])) rfl rfl (hb hby d20_31)
  have G125 : VA Z h124 ca .char ([c0, c1, c2, c3, c4, c5, c6, c7, c8, c9, c10, c11, c12, c13, c14, c15, c16, c17, c18, c19, c20, c21, c22, c23, c24, c25].map Value.int) := G119.other W124 ne_ca_da
  have G126 : VA Z h124 da .byte ([(nar .byte (c0.toInt8.toInt32)), (nar .byte (c1.toInt8.toInt32)), (nar .byte (c2.toInt8.toInt32)), (nar .byte (c3.toInt8.toInt32)), (nar .byte (c4.toInt8.toInt32)), (nar .byte (c5.toInt8.toInt32)), (nar .byte (c6.toInt8.toInt32)), (nar .byte (c7.toInt8.toInt32)), (nar .byte (c8.toInt8.toInt32)), (nar .byte (c9.toInt8.toInt32)), (nar .byte (c10.toInt8.toInt32)), (nar .byte (c11.toInt8.toInt32)), (nar .byte (c12.toInt8.toInt32)), (nar .byte (c13.toInt8.toInt32)), (nar .byte (c14.toInt8.toInt32)), (nar .byte (c15.toInt8.toInt32)), (nar .byte (c16.toInt8.toInt32)), (nar .byte (c17.toInt8.toInt32)), (nar .byte (c18.toInt8.toInt32)), (nar .byte (c19.toInt8.toInt32)), (nar .byte (c20.toInt8.toInt32)), (0 : Int32), (0 : Int32), (0 : Int32), (0 : Int32), (0 : Int32)].map Value.int) := V124
  have N124 := Fr.snoc X124 N118 g_da
  have K124 : Keep h0 h124 [da] := Keep.wr K118 W124 (Or.inl (List.mem_of_getElem? (i := 0) rfl))
  have Z124 : n0 ≤ h124.size := Nat.le_trans Z0 K124.1
  have ix127 : 0 ≤ ((21 : Int32)).toInt ∧ ((21 : Int32)).toInt < (([c0, c1, c2, c3, c4, c5, c6, c7, c8, c9, c10, c11, c12, c13, c14, c15, c16, c17, c18, c19, c20, c21, c22, c23, c24, c25]).length : Int) := by constructor <;> first | decide | (simp; done)
  refine Go.step (T' := T124) (f' := (mkF m 20 #[.val (.ref ca), .val (.int (21 : Int32)), .val (.ref da), .val (.int (21 : Int32)), .val (.int (26 : Int32)), .val (.int (21 : Int32)), .val (.int c21)] [(.int (255 : Int32)), (.int c21)])) (fun t kt => ?_) ?_
  · show Steps p.tables e below (T118.setTop (mkF m 20 #[.val (.ref ca), .val (.int (20 : Int32)), .val (.ref da), .val (.int (20 : Int32)), .val (.int (26 : Int32)), .val (.int (20 : Int32)), .val (.int c20)] [(.int (255 : Int32)), (.int c20)])) _
    refine XS.icmpYes X118.here hx rfl (pc0 := 20) (pc' := 26) rfl (hb hby d20_20) rfl (flt hd122).2.2.2 (by decide) (by decide) ?_
    show Steps p.tables e below (T118.setTop (mkF m 26 #[.val (.ref ca), .val (.int (20 : Int32)), .val (.ref da), .val (.int (20 : Int32)), .val (.int (26 : Int32)), .val (.int (20 : Int32)), .val (.int c20)] [])) _
    refine XS.aloadN X118.here hx rfl (hb hby d20_26) rfl rfl ?_
    show Steps p.tables e below (T118.setTop (mkF m 27 #[.val (.ref ca), .val (.int (20 : Int32)), .val (.ref da), .val (.int (20 : Int32)), .val (.int (26 : Int32)), .val (.int (20 : Int32)), .val (.int c20)] [(.ref da)])) _
    refine XS.iloadN X118.here hx rfl (hb hby d20_27) rfl ?_
    show Steps p.tables e below (T118.setTop (mkF m 28 #[.val (.ref ca), .val (.int (20 : Int32)), .val (.ref da), .val (.int (20 : Int32)), .val (.int (26 : Int32)), .val (.int (20 : Int32)), .val (.int c20)] [(.int (20 : Int32)), (.ref da)])) _
    refine XS.iload X118.here hx rfl (hb hby d20_28) rfl ?_
    show Steps p.tables e below (T118.setTop (mkF m 30 #[.val (.ref ca), .val (.int (20 : Int32)), .val (.ref da), .val (.int (20 : Int32)), .val (.int (26 : Int32)), .val (.int (20 : Int32)), .val (.int c20)] [(.int c20), (.int (20 : Int32)), (.ref da)])) _
    refine XS.i2b X118.here hx rfl (hb hby d20_30) rfl ?_
    show Steps p.tables e below (T118.setTop (mkF m 31 #[.val (.ref ca), .val (.int (20 : Int32)), .val (.ref da), .val (.int (20 : Int32)), .val (.int (26 : Int32)), .val (.int (20 : Int32)), .val (.int c20)] [(.int (c20.toInt8.toInt32)), (.int (20 : Int32)), (.ref da)])) _
    refine st124 _ ?_
    show Steps p.tables e below (T124.setTop (mkF m 32 #[.val (.ref ca), .val (.int (20 : Int32)), .val (.ref da), .val (.int (20 : Int32)), .val (.int (26 : Int32)), .val (.int (20 : Int32)), .val (.int c20)] [])) _
    refine XS.iinc X124.here hx rfl (hb hby d20_32) rfl (l' := #[.val (.ref ca), .val (.int (21 : Int32)), .val (.ref da), .val (.int (20 : Int32)), .val (.int (26 : Int32)), .val (.int (20 : Int32)), .val (.int c20)]) rfl ?_
    show Steps p.tables e below (T124.setTop (mkF m 35 #[.val (.ref ca), .val (.int (21 : Int32)), .val (.ref da), .val (.int (20 : Int32)), .val (.int (26 : Int32)), .val (.int (20 : Int32)), .val (.int c20)] [])) _
    refine XS.iinc X124.here hx rfl (hb hby d20_35) rfl (l' := #[.val (.ref ca), .val (.int (21 : Int32)), .val (.ref da), .val (.int (21 : Int32)), .val (.int (26 : Int32)), .val (.int (20 : Int32)), .val (.int c20)]) rfl ?_
    show Steps p.tables e below (T124.setTop (mkF m 38 #[.val (.ref ca), .val (.int (21 : Int32)), .val (.ref da), .val (.int (21 : Int32)), .val (.int (26 : Int32)), .val (.int (20 : Int32)), .val (.int c20)] [])) _
    refine XS.iinc X124.here hx rfl (hb hby d20_38) rfl (l' := #[.val (.ref ca), .val (.int (21 : Int32)), .val (.ref da), .val (.int (21 : Int32)), .val (.int (26 : Int32)), .val (.int (21 : Int32)), .val (.int c20)]) rfl ?_
    show Steps p.tables e below (T124.setTop (mkF m 41 #[.val (.ref ca), .val (.int (21 : Int32)), .val (.ref da), .val (.int (21 : Int32)), .val (.int (26 : Int32)), .val (.int (21 : Int32)), .val (.int c20)] [])) _
    refine XS.goto X124.here hx rfl (pc0 := 41) (pc' := 3) rfl (hb hby d20_41) (by decide) (by decide) ?_
    show Steps p.tables e below (T124.setTop (mkF m 3 #[.val (.ref ca), .val (.int (21 : Int32)), .val (.ref da), .val (.int (21 : Int32)), .val (.int (26 : Int32)), .val (.int (21 : Int32)), .val (.int c20)] [])) _
    refine XS.iload X124.here hx rfl (hb hby d20_3) rfl ?_
    show Steps p.tables e below (T124.setTop (mkF m 5 #[.val (.ref ca), .val (.int (21 : Int32)), .val (.ref da), .val (.int (21 : Int32)), .val (.int (26 : Int32)), .val (.int (21 : Int32)), .val (.int c20)] [(.int (21 : Int32))])) _
    refine XS.iload X124.here hx rfl (hb hby d20_5) rfl ?_
    show Steps p.tables e below (T124.setTop (mkF m 7 #[.val (.ref ca), .val (.int (21 : Int32)), .val (.ref da), .val (.int (21 : Int32)), .val (.int (26 : Int32)), .val (.int (21 : Int32)), .val (.int c20)] [(.int (26 : Int32)), (.int (21 : Int32))])) _
    refine XS.icmpNo X124.here hx rfl (hb hby d20_7) rfl (tlt (by decide : ((21 : Int32) < (26 : Int32)))).2.1 ?_
    show Steps p.tables e below (T124.setTop (mkF m 10 #[.val (.ref ca), .val (.int (21 : Int32)), .val (.ref da), .val (.int (21 : Int32)), .val (.int (26 : Int32)), .val (.int (21 : Int32)), .val (.int c20)] [])) _
    refine XS.aloadN X124.here hx rfl (hb hby d20_10) rfl rfl ?_
    show Steps p.tables e below (T124.setTop (mkF m 11 #[.val (.ref ca), .val (.int (21 : Int32)), .val (.ref da), .val (.int (21 : Int32)), .val (.int (26 : Int32)), .val (.int (21 : Int32)), .val (.int c20)] [(.ref ca)])) _
    refine XS.iloadN X124.here hx rfl (hb hby d20_11) rfl ?_
    show Steps p.tables e below (T124.setTop (mkF m 12 #[.val (.ref ca), .val (.int (21 : Int32)), .val (.ref da), .val (.int (21 : Int32)), .val (.int (26 : Int32)), .val (.int (21 : Int32)), .val (.int c20)] [(.int (21 : Int32)), (.ref ca)])) _
    refine ldC X124 hx hZ e124 G125 ix127.1 ix127.2 (g := (mkF m 12 #[.val (.ref ca), .val (.int (21 : Int32)), .val (.ref da), .val (.int (21 : Int32)), .val (.int (26 : Int32)), .val (.int (21 : Int32)), .val (.int c20)] [(.int (21 : Int32)), (.ref ca)])) rfl rfl (hb hby d20_12) _ ?_
    show Steps p.tables e below (T124.setTop (mkF m 13 #[.val (.ref ca), .val (.int (21 : Int32)), .val (.ref da), .val (.int (21 : Int32)), .val (.int (26 : Int32)), .val (.int (21 : Int32)), .val (.int c20)] [(.int c21)])) _
    refine XS.istore X124.here hx rfl (hb hby d20_13) rfl (l' := #[.val (.ref ca), .val (.int (21 : Int32)), .val (.ref da), .val (.int (21 : Int32)), .val (.int (26 : Int32)), .val (.int (21 : Int32)), .val (.int c21)]) rfl ?_
    show Steps p.tables e below (T124.setTop (mkF m 15 #[.val (.ref ca), .val (.int (21 : Int32)), .val (.ref da), .val (.int (21 : Int32)), .val (.int (26 : Int32)), .val (.int (21 : Int32)), .val (.int c21)] [])) _
    refine XS.iload X124.here hx rfl (hb hby d20_15) rfl ?_
    show Steps p.tables e below (T124.setTop (mkF m 17 #[.val (.ref ca), .val (.int (21 : Int32)), .val (.ref da), .val (.int (21 : Int32)), .val (.int (26 : Int32)), .val (.int (21 : Int32)), .val (.int c21)] [(.int c21)])) _
    refine XS.sipush X124.here hx rfl (hb hby d20_17) ?_
    exact kt
  have hd128 : ¬ ((255 : Int32) < c21) := hle _ (by simp)
  have ix129 : 0 ≤ ((21 : Int32)).toInt ∧ ((21 : Int32)).toInt < (([(nar .byte (c0.toInt8.toInt32)), (nar .byte (c1.toInt8.toInt32)), (nar .byte (c2.toInt8.toInt32)), (nar .byte (c3.toInt8.toInt32)), (nar .byte (c4.toInt8.toInt32)), (nar .byte (c5.toInt8.toInt32)), (nar .byte (c6.toInt8.toInt32)), (nar .byte (c7.toInt8.toInt32)), (nar .byte (c8.toInt8.toInt32)), (nar .byte (c9.toInt8.toInt32)), (nar .byte (c10.toInt8.toInt32)), (nar .byte (c11.toInt8.toInt32)), (nar .byte (c12.toInt8.toInt32)), (nar .byte (c13.toInt8.toInt32)), (nar .byte (c14.toInt8.toInt32)), (nar .byte (c15.toInt8.toInt32)), (nar .byte (c16.toInt8.toInt32)), (nar .byte (c17.toInt8.toInt32)), (nar .byte (c18.toInt8.toInt32)), (nar .byte (c19.toInt8.toInt32)), (nar .byte (c20.toInt8.toInt32)), (0 : Int32), (0 : Int32), (0 : Int32), (0 : Int32), (0 : Int32)]).length : Int) := by constructor <;> first | decide | (simp; done)
  obtain ⟨T130, h130, X130, e130, W130, V130, st130⟩ := putB X124 hx hZ e124 G126 ix129.1 ix129.2 (g := (mkF m 31 #[.val (.ref ca), .val (.int (21 : Int32)), .val (.ref da), .val (.int (21 : Int32)), .val (.int (26 : Int32)), .val (.int (21 : Int32)), .val (.int c21)] [(.int (c21.toInt8.toInt32)), (.int (21 : Int32)), (.ref da)])) rfl rfl (hb hby d20_31)
  have G131 : VA Z h130 ca .char ([c0, c1, c2, c3, c4, c5, c6, c7, c8, c9, c10, c11, c12, c13, c14, c15, c16, c17, c18, c19, c20, c21, c22, c23, c24, c25].map Value.int) := G125.other W130 ne_ca_da
  have G132 : VA Z h130 da .byte ([(nar .byte (c0.toInt8.toInt32)), (nar .byte (c1.toInt8.toInt32)), (nar .byte (c2.toInt8.toInt32)), (nar .byte (c3.toInt8.toInt32)), (nar .byte (c4.toInt8.toInt32)), (nar .byte (c5.toInt8.toInt32)), (nar .byte (c6.toInt8.toInt32)), (nar .byte (c7.toInt8.toInt32)), (nar .byte (c8.toInt8.toInt32)), (nar .byte (c9.toInt8.toInt32)), (nar .byte (c10.toInt8.toInt32)), (nar .byte (c11.toInt8.toInt32)), (nar .byte (c12.toInt8.toInt32)), (nar .byte (c13.toInt8.toInt32)), (nar .byte (c14.toInt8.toInt32)), (nar .byte (c15.toInt8.toInt32)), (nar .byte (c16.toInt8.toInt32)), (nar .byte (c17.toInt8.toInt32)), (nar .byte (c18.toInt8.toInt32)), (nar .byte (c19.toInt8.toInt32)), (nar .byte (c20.toInt8.toInt32)), (nar .byte (c21.toInt8.toInt32)), (0 : Int32), (0 : Int32), (0 : Int32), (0 : Int32)].map Value.int) := V130
  have N130 := Fr.snoc X130 N124 g_da
  have K130 : Keep h0 h130 [da] := Keep.wr K124 W130 (Or.inl (List.mem_of_getElem? (i := 0) rfl))
  have Z130 : n0 ≤ h130.size := Nat.le_trans Z0 K130.1
  have ix133 : 0 ≤ ((22 : Int32)).toInt ∧ ((22 : Int32)).toInt < (([c0, c1, c2, c3, c4, c5, c6, c7, c8, c9, c10, c11, c12, c13, c14, c15, c16, c17, c18, c19, c20, c21, c22, c23, c24, c25]).length : Int) := by constructor <;> first | decide | (simp; done)
  refine Go.step (T' := T130) (f' := (mkF m 20 #[.val (.ref ca), .val (.int (22 : Int32)), .val (.ref da), .val (.int (22 : Int32)), .val (.int (26 : Int32)), .val (.int (22 : Int32)), .val (.int c22)] [(.int (255 : Int32)), (.int c22)])) (fun t kt => ?_) ?_
  · show Steps p.tables e below (T124.setTop (mkF m 20 #[.val (.ref ca), .val (.int (21 : Int32)), .val (.ref da), .val (.int (21 : Int32)), .val (.int (26 : Int32)), .val (.int (21 : Int32)), .val (.int c21)] [(.int (255 : Int32)), (.int c21)])) _
    refine XS.icmpYes X124.here hx rfl (pc0 := 20) (pc' := 26) rfl (hb hby d20_20) rfl (flt hd128).2.2.2 (by decide) (by decide) ?_
    show Steps p.tables e below (T124.setTop (mkF m 26 #[.val (.ref ca), .val (.int (21 : Int32)), .val (.ref da), .val (.int (21 : Int32)), .val (.int (26 : Int32)), .val (.int (21 : Int32)), .val (.int c21)] [])) _
    refine XS.aloadN X124.here hx rfl (hb hby d20_26) rfl rfl ?_
    show Steps p.tables e below (T124.setTop (mkF m 27 #[.val (.ref ca), .val (.int (21 : Int32)), .val (.ref da), .val (.int (21 : Int32)), .val (.int (26 : Int32)), .val (.int (21 : Int32)), .val (.int c21)] [(.ref da)])) _
    refine XS.iloadN X124.here hx rfl (hb hby d20_27) rfl ?_
    show Steps p.tables e below (T124.setTop (mkF m 28 #[.val (.ref ca), .val (.int (21 : Int32)), .val (.ref da), .val (.int (21 : Int32)), .val (.int (26 : Int32)), .val (.int (21 : Int32)), .val (.int c21)] [(.int (21 : Int32)), (.ref da)])) _
    refine XS.iload X124.here hx rfl (hb hby d20_28) rfl ?_
    show Steps p.tables e below (T124.setTop (mkF m 30 #[.val (.ref ca), .val (.int (21 : Int32)), .val (.ref da), .val (.int (21 : Int32)), .val (.int (26 : Int32)), .val (.int (21 : Int32)), .val (.int c21)] [(.int c21), (.int (21 : Int32)), (.ref da)])) _
    refine XS.i2b X124.here hx rfl (hb hby d20_30) rfl ?_
    show Steps p.tables e below (T124.setTop (mkF m 31 #[.val (.ref ca), .val (.int (21 : Int32)), .val (.ref da), .val (.int (21 : Int32)), .val (.int (26 : Int32)), .val (.int (21 : Int32)), .val (.int c21)] [(.int (c21.toInt8.toInt32)), (.int (21 : Int32)), (.ref da)])) _
    refine st130 _ ?_
    show Steps p.tables e below (T130.setTop (mkF m 32 #[.val (.ref ca), .val (.int (21 : Int32)), .val (.ref da), .val (.int (21 : Int32)), .val (.int (26 : Int32)), .val (.int (21 : Int32)), .val (.int c21)] [])) _
    refine XS.iinc X130.here hx rfl (hb hby d20_32) rfl (l' := #[.val (.ref ca), .val (.int (22 : Int32)), .val (.ref da), .val (.int (21 : Int32)), .val (.int (26 : Int32)), .val (.int (21 : Int32)), .val (.int c21)]) rfl ?_
    show Steps p.tables e below (T130.setTop (mkF m 35 #[.val (.ref ca), .val (.int (22 : Int32)), .val (.ref da), .val (.int (21 : Int32)), .val (.int (26 : Int32)), .val (.int (21 : Int32)), .val (.int c21)] [])) _
    refine XS.iinc X130.here hx rfl (hb hby d20_35) rfl (l' := #[.val (.ref ca), .val (.int (22 : Int32)), .val (.ref da), .val (.int (22 : Int32)), .val (.int (26 : Int32)), .val (.int (21 : Int32)), .val (.int c21)]) rfl ?_
    show Steps p.tables e below (T130.setTop (mkF m 38 #[.val (.ref ca), .val (.int (22 : Int32)), .val (.ref da), .val (.int (22 : Int32)), .val (.int (26 : Int32)), .val (.int (21 : Int32)), .val (.int c21)] [])) _
    refine XS.iinc X130.here hx rfl (hb hby d20_38) rfl (l' := #[.val (.ref ca), .val (.int (22 : Int32)), .val (.ref da), .val (.int (22 : Int32)), .val (.int (26 : Int32)), .val (.int (22 : Int32)), .val (.int c21)]) rfl ?_
    show Steps p.tables e below (T130.setTop (mkF m 41 #[.val (.ref ca), .val (.int (22 : Int32)), .val (.ref da), .val (.int (22 : Int32)), .val (.int (26 : Int32)), .val (.int (22 : Int32)), .val (.int c21)] [])) _
    refine XS.goto X130.here hx rfl (pc0 := 41) (pc' := 3) rfl (hb hby d20_41) (by decide) (by decide) ?_
    show Steps p.tables e below (T130.setTop (mkF m 3 #[.val (.ref ca), .val (.int (22 : Int32)), .val (.ref da), .val (.int (22 : Int32)), .val (.int (26 : Int32)), .val (.int (22 : Int32)), .val (.int c21)] [])) _
    refine XS.iload X130.here hx rfl (hb hby d20_3) rfl ?_
    show Steps p.tables e below (T130.setTop (mkF m 5 #[.val (.ref ca), .val (.int (22 : Int32)), .val (.ref da), .val (.int (22 : Int32)), .val (.int (26 : Int32)), .val (.int (22 : Int32)), .val (.int c21)] [(.int (22 : Int32))])) _
    refine XS.iload X130.here hx rfl (hb hby d20_5) rfl ?_
    show Steps p.tables e below (T130.setTop (mkF m 7 #[.val (.ref ca), .val (.int (22 : Int32)), .val (.ref da), .val (.int (22 : Int32)), .val (.int (26 : Int32)), .val (.int (22 : Int32)), .val (.int c21)] [(.int (26 : Int32)), (.int (22 : Int32))])) _
    refine XS.icmpNo X130.here hx rfl (hb hby d20_7) rfl (tlt (by decide : ((22 : Int32) < (26 : Int32)))).2.1 ?_
    show Steps p.tables e below (T130.setTop (mkF m 10 #[.val (.ref ca), .val (.int (22 : Int32)), .val (.ref da), .val (.int (22 : Int32)), .val (.int (26 : Int32)), .val (.int (22 : Int32)), .val (.int c21)] [])) _
    refine XS.aloadN X130.here hx rfl (hb hby d20_10) rfl rfl ?_
    show Steps p.tables e below (T130.setTop (mkF m 11 #[.val (.ref ca), .val (.int (22 : Int32)), .val (.ref da), .val (.int (22 : Int32)), .val (.int (26 : Int32)), .val (.int (22 : Int32)), .val (.int c21)] [(.ref ca)])) _
    refine XS.iloadN X130.here hx rfl (hb hby d20_11) rfl ?_
    show Steps p.tables e below (T130.setTop (mkF m 12 #[.val (.ref ca), .val (.int (22 : Int32)), .val (.ref da), .val (.int (22 : Int32)), .val (.int (26 : Int32)), .val (.int (22 : Int32)), .val (.int c21)] [(.int (22 : Int32)), (.ref ca)])) _
    refine ldC X130 hx hZ e130 G131 ix133.1 ix133.2 (g := (mkF m 12 #[.val (.ref ca), .val (.int (22 : Int32)), .val (.ref da), .val (.int (22 : Int32)), .val (.int (26 : Int32)), .val (.int (22 : Int32)), .val (.int c21)] [(.int (22 : Int32)), (.ref ca)])) rfl rfl (hb hby d20_12) _ ?_
    show Steps p.tables e below (T130.setTop (mkF m 13 #[.val (.ref ca), .val (.int (22 : Int32)), .val (.ref da), .val (.int (22 : Int32)), .val (.int (26 : Int32)), .val (.int (22 : Int32)), .val (.int c21)] [(.int c22)])) _
    refine XS.istore X130.here hx rfl (hb hby d20_13) rfl (l' := #[.val (.ref ca), .val (.int (22 : Int32)), .val (.ref da), .val (.int (22 : Int32)), .val (.int (26 : Int32)), .val (.int (22 : Int32)), .val (.int c22)]) rfl ?_
    show Steps p.tables e below (T130.setTop (mkF m 15 #[.val (.ref ca), .val (.int (22 : Int32)), .val (.ref da), .val (.int (22 : Int32)), .val (.int (26 : Int32)), .val (.int (22 : Int32)), .val (.int c22)] [])) _
    refine XS.iload X130.here hx rfl (hb hby d20_15) rfl ?_
    show Steps p.tables e below (T130.setTop (mkF m 17 #[.val (.ref ca), .val (.int (22 : Int32)), .val (.ref da), .val (.int (22 : Int32)), .val (.int (26 : Int32)), .val (.int (22 : Int32)), .val (.int c22)] [(.int c22)])) _
    refine XS.sipush X130.here hx rfl (hb hby d20_17) ?_
    exact kt
  have hd134 : ¬ ((255 : Int32) < c22) := hle _ (by simp)
  have ix135 : 0 ≤ ((22 : Int32)).toInt ∧ ((22 : Int32)).toInt < (([(nar .byte (c0.toInt8.toInt32)), (nar .byte (c1.toInt8.toInt32)), (nar .byte (c2.toInt8.toInt32)), (nar .byte (c3.toInt8.toInt32)), (nar .byte (c4.toInt8.toInt32)), (nar .byte (c5.toInt8.toInt32)), (nar .byte (c6.toInt8.toInt32)), (nar .byte (c7.toInt8.toInt32)), (nar .byte (c8.toInt8.toInt32)), (nar .byte (c9.toInt8.toInt32)), (nar .byte (c10.toInt8.toInt32)), (nar .byte (c11.toInt8.toInt32)), (nar .byte (c12.toInt8.toInt32)), (nar .byte (c13.toInt8.toInt32)), (nar .byte (c14.toInt8.toInt32)), (nar .byte (c15.toInt8.toInt32)), (nar .byte (c16.toInt8.toInt32)), (nar .byte (c17.toInt8.toInt32)), (nar .byte (c18.toInt8.toInt32)), (nar .byte (c19.toInt8.toInt32)), (nar .byte (c20.toInt8.toInt32)), (nar .byte (c21.toInt8.toInt32)), (0 : Int32), (0 : Int32), (0 : Int32), (0 : Int32)]).length : Int) := by constructor <;> first | decide | (simp; done)
  obtain ⟨T136, h136, X136, e136, W136, V136, st136⟩ := putB X130 hx hZ e130 G132 ix135.1 ix135.2 (g := (mkF m 31 #[.val (.ref ca), .val (.int (22 : Int32)), .val (.ref da), .val (.int (22 : Int32)), .val (.int (26 : Int32)), .val (.int (22 : Int32)), .val (.int c22)] [(.int (c22.toInt8.toInt32)), (.int (22 : Int32)), (.ref da)])) rfl rfl (hb hby d20_31)
  have G137 : VA Z h136 ca .char ([c0, c1, c2, c3, c4, c5, c6, c7, c8, c9, c10, c11, c12, c13, c14, c15, c16, c17, c18, c19, c20, c21, c22, c23, c24, c25].map Value.int) := G131.other W136 ne_ca_da
  have G138 : VA Z h136 da .byte ([(nar .byte (c0.toInt8.toInt32)), (nar .byte (c1.toInt8.toInt32)), (nar .byte (c2.toInt8.toInt32)), (nar .byte (c3.toInt8.toInt32)), (nar .byte (c4.toInt8.toInt32)), (nar .byte (c5.toInt8.toInt32)), (nar .byte (c6.toInt8.toInt32)), (nar .byte (c7.toInt8.toInt32)), (nar .byte (c8.toInt8.toInt32)), (nar .byte (c9.toInt8.toInt32)), (nar .byte (c10.toInt8.toInt32)), (nar .byte (c11.toInt8.toInt32)), (nar .byte (c12.toInt8.toInt32)), (nar .byte (c13.toInt8.toInt32)), (nar .byte (c14.toInt8.toInt32)), (nar .byte (c15.toInt8.toInt32)), (nar .byte (c16.toInt8.toInt32)), (nar .byte (c17.toInt8.toInt32)), (nar .byte (c18.toInt8.toInt32)), (nar .byte (c19.toInt8.toInt32)), (nar .byte (c20.toInt8.toInt32)), (nar .byte (c21.toInt8.toInt32)), (nar .byte (c22.toInt8.toInt32)), (0 : Int32), (0 : Int32), (0 : Int32)].map Value.int) := V136
  have N136 := Fr.snoc X136 N130 g_da
  have K136 : Keep h0 h136 [da] := Keep.wr K130 W136 (Or.inl (List.mem_of_getElem? (i := 0) rfl))
  have Z136 : n0 ≤ h136.size := Nat.le_trans Z0 K136.1
  have ix139 : 0 ≤ ((23 : Int32)).toInt ∧ ((23 : Int32)).toInt < (([c0, c1, c2, c3, c4, c5, c6, c7, c8, c9, c10, c11, c12, c13, c14, c15, c16, c17, c18, c19, c20, c21, c22, c23, c24, c25]).length : Int) := by constructor <;> first | decide | (simp; done)
  refine Go.step (T' := T136) (f' := (mkF m 20 #[.val (.ref ca), .val (.int (23 : Int32)), .val (.ref da), .val (.int (23 : Int32)), .val (.int (26 : Int32)), .val (.int (23 : Int32)), .val (.int c23)] [(.int (255 : Int32)), (.int c23)])) (fun t kt => ?_) ?_
  · show Steps p.tables e below (T130.setTop (mkF m 20 #[.val (.ref ca), .val (.int (22 : Int32)), .val (.ref da), .val (.int (22 : Int32)), .val (.int (26 : Int32)), .val (.int (22 : Int32)), .val (.int c22)] [(.int (255 : Int32)), (.int c22)])) _
    refine XS.icmpYes X130.here hx rfl (pc0 := 20) (pc' := 26) rfl (hb hby d20_20) rfl (flt hd134).2.2.2 (by decide) (by decide) ?_
    show Steps p.tables e below (T130.setTop (mkF m 26 #[.val (.ref ca), .val (.int (22 : Int32)), .val (.ref da), .val (.int (22 : Int32)), .val (.int (26 : Int32)), .val (.int (22 : Int32)), .val (.int c22)] [])) _
    refine XS.aloadN X130.here hx rfl (hb hby d20_26) rfl rfl ?_
    show Steps p.tables e below (T130.setTop (mkF m 27 #[.val (.ref ca), .val (.int (22 : Int32)), .val (.ref da), .val (.int (22 : Int32)), .val (.int (26 : Int32)), .val (.int (22 : Int32)), .val (.int c22)] [(.ref da)])) _
    refine XS.iloadN X130.here hx rfl (hb hby d20_27) rfl ?_
    show Steps p.tables e below (T130.setTop (mkF m 28 #[.val (.ref ca), .val (.int (22 : Int32)), .val (.ref da), .val (.int (22 : Int32)), .val (.int (26 : Int32)), .val (.int (22 : Int32)), .val (.int c22)] [(.int (22 : Int32)), (.ref da)])) _
    refine XS.iload X130.here hx rfl (hb hby d20_28) rfl ?_
    show Steps p.tables e below (T130.setTop (mkF m 30 #[.val (.ref ca), .val (.int (22 : Int32)), .val (.ref da), .val (.int (22 : Int32)), .val (.int (26 : Int32)), .val (.int (22 : Int32)), .val (.int c22)] [(.int c22), (.int (22 : Int32)), (.ref da)])) _
    refine XS.i2b X130.here hx rfl (hb hby d20_30) rfl ?_
    show Steps p.tables e below (T130.setTop (mkF m 31 #[.val (.ref ca), .val (.int (22 : Int32)), .val (.ref da), .val (.int (22 : Int32)), .val (.int (26 : Int32)), .val (.int (22 : Int32)), .val (.int c22)] [(.int (c22.toInt8.toInt32)), (.int (22 : Int32)), (.ref da)])) _
    refine st136 _ ?_
    show Steps p.tables e below (T136.setTop (mkF m 32 #[.val (.ref ca), .val (.int (22 : Int32)), .val (.ref da), .val (.int (22 : Int32)), .val (.int (26 : Int32)), .val (.int (22 : Int32)), .val (.int c22)] [])) _
    refine XS.iinc X136.here hx rfl (hb hby d20_32) rfl (l' := #[.val (.ref ca), .val (.int (23 : Int32)), .val (.ref da), .val (.int (22 : Int32)), .val (.int (26 : Int32)), .val (.int (22 : Int32)), .val (.int c22)]) rfl ?_
    show Steps p.tables e below (T136.setTop (mkF m 35 #[.val (.ref ca), .val (.int (23 : Int32)), .val (.ref da), .val (.int (22 : Int32)), .val (.int (26 : Int32)), .val (.int (22 : Int32)), .val (.int c22)] [])) _
    refine XS.iinc X136.here hx rfl (hb hby d20_35) rfl (l' := #[.val (.ref ca), .val (.int (23 : Int32)), .val (.ref da), .val (.int (23 : Int32)), .val (.int (26 : Int32)), .val (.int (22 : Int32)), .val (.int c22)]) rfl ?_
    show Steps p.tables e below (T136.setTop (mkF m 38 #[.val (.ref ca), .val (.int (23 : Int32)), .val (.ref da), .val (.int (23 : Int32)), .val (.int (26 : Int32)), .val (.int (22 : Int32)), .val (.int c22)] [])) _
    refine XS.iinc X136.here hx rfl (hb hby d20_38) rfl (l' := #[.val (.ref ca), .val (.int (23 : Int32)), .val (.ref da), .val (.int (23 : Int32)), .val (.int (26 : Int32)), .val (.int (23 : Int32)), .val (.int c22)]) rfl ?_
    show Steps p.tables e below (T136.setTop (mkF m 41 #[.val (.ref ca), .val (.int (23 : Int32)), .val (.ref da), .val (.int (23 : Int32)), .val (.int (26 : Int32)), .val (.int (23 : Int32)), .val (.int c22)] [])) _
    refine XS.goto X136.here hx rfl (pc0 := 41) (pc' := 3) rfl (hb hby d20_41) (by decide) (by decide) ?_
    show Steps p.tables e below (T136.setTop (mkF m 3 #[.val (.ref ca), .val (.int (23 : Int32)), .val (.ref da), .val (.int (23 : Int32)), .val (.int (26 : Int32)), .val (.int (23 : Int32)), .val (.int c22)] [])) _
    refine XS.iload X136.here hx rfl (hb hby d20_3) rfl ?_
    show Steps p.tables e below (T136.setTop (mkF m 5 #[.val (.ref ca), .val (.int (23 : Int32)), .val (.ref da), .val (.int (23 : Int32)), .val (.int (26 : Int32)), .val (.int (23 : Int32)), .val (.int c22)] [(.int (23 : Int32))])) _
    refine XS.iload X136.here hx rfl (hb hby d20_5) rfl ?_
    show Steps p.tables e below (T136.setTop (mkF m 7 #[.val (.ref ca), .val (.int (23 : Int32)), .val (.ref da), .val (.int (23 : Int32)), .val (.int (26 : Int32)), .val (.int (23 : Int32)), .val (.int c22)] [(.int (26 : Int32)), (.int (23 : Int32))])) _
    refine XS.icmpNo X136.here hx rfl (hb hby d20_7) rfl (tlt (by decide : ((23 : Int32) < (26 : Int32)))).2.1 ?_
    show Steps p.tables e below (T136.setTop (mkF m 10 #[.val (.ref ca), .val (.int (23 : Int32)), .val (.ref da), .val (.int (23 : Int32)), .val (.int (26 : Int32)), .val (.int (23 : Int32)), .val (.int c22)] [])) _
    refine XS.aloadN X136.here hx rfl (hb hby d20_10) rfl rfl ?_
    show Steps p.tables e below (T136.setTop (mkF m 11 #[.val (.ref ca), .val (.int (23 : Int32)), .val (.ref da), .val (.int (23 : Int32)), .val (.int (26 : Int32)), .val (.int (23 : Int32)), .val (.int c22)] [(.ref ca)])) _
    refine XS.iloadN X136.here hx rfl (hb hby d20_11) rfl ?_
    show Steps p.tables e below (T136.setTop (mkF m 12 #[.val (.ref ca), .val (.int (23 : Int32)), .val (.ref da), .val (.int (23 : Int32)), .val (.int (26 : Int32)), .val (.int (23 : Int32)), .val (.int c22)] [(.int (23 : Int32)), (.ref ca)])) _
    refine ldC X136 hx hZ e136 G137 ix139.1 ix139.2 (g := (mkF m 12 #[.val (.ref ca), .val (.int (23 : Int32)), .val (.ref da), .val (.int (23 : Int32)), .val (.int (26 : Int32)), .val (.int (23 : Int32)), .val (.int c22)] [(.int (23 : Int32)), (.ref ca)])) rfl rfl (hb hby d20_12) _ ?_
    show Steps p.tables e below (T136.setTop (mkF m 13 #[.val (.ref ca), .val (.int (23 : Int32)), .val (.ref da), .val (.int (23 : Int32)), .val (.int (26 : Int32)), .val (.int (23 : Int32)), .val (.int c22)] [(.int c23)])) _
    refine XS.istore X136.here hx rfl (hb hby d20_13) rfl (l' := #[.val (.ref ca), .val (.int (23 : Int32)), .val (.ref da), .val (.int (23 : Int32)), .val (.int (26 : Int32)), .val (.int (23 : Int32)), .val (.int c23)]) rfl ?_
    show Steps p.tables e below (T136.setTop (mkF m 15 #[.val (.ref ca), .val (.int (23 : Int32)), .val (.ref da), .val (.int (23 : Int32)), .val (.int (26 : Int32)), .val (.int (23 : Int32)), .val (.int c23)] [])) _
    refine XS.iload X136.here hx rfl (hb hby d20_15) rfl ?_
    show Steps p.tables e below (T136.setTop (mkF m 17 #[.val (.ref ca), .val (.int (23 : Int32)), .val (.ref da), .val (.int (23 : Int32)), .val (.int (26 : Int32)), .val (.int (23 : Int32)), .val (.int c23)] [(.int c23)])) _
    refine XS.sipush X136.here hx rfl (hb hby d20_17) ?_
    exact kt
  have hd140 : ¬ ((255 : Int32) < c23) := hle _ (by simp)
  have ix141 : 0 ≤ ((23 : Int32)).toInt ∧ ((23 : Int32)).toInt < (([(nar .byte (c0.toInt8.toInt32)), (nar .byte (c1.toInt8.toInt32)), (nar .byte (c2.toInt8.toInt32)), (nar .byte (c3.toInt8.toInt32)), (nar .byte (c4.toInt8.toInt32)), (nar .byte (c5.toInt8.toInt32)), (nar .byte (c6.toInt8.toInt32)), (nar .byte (c7.toInt8.toInt32)), (nar .byte (c8.toInt8.toInt32)), (nar .byte (c9.toInt8.toInt32)), (nar .byte (c10.toInt8.toInt32)), (nar .byte (c11.toInt8.toInt32)), (nar .byte (c12.toInt8.toInt32)), (nar .byte (c13.toInt8.toInt32)), (nar .byte (c14.toInt8.toInt32)), (nar .byte (c15.toInt8.toInt32)), (nar .byte (c16.toInt8.toInt32)), (nar .byte (c17.toInt8.toInt32)), (nar .byte (c18.toInt8.toInt32)), (nar .byte (c19.toInt8.toInt32)), (nar .byte (c20.toInt8.toInt32)), (nar .byte (c21.toInt8.toInt32)), (nar .byte (c22.toInt8.toInt32)), (0 : Int32), (0 : Int32), (0 : Int32)]).length : Int) := by constructor <;> first | decide | (simp; done)
  obtain ⟨T142, h142, X142, e142, W142, V142, st142⟩ := putB X136 hx hZ e136 G138 ix141.1 ix141.2 (g := (mkF m 31 #[.val (.ref ca), .val (.int (23 : Int32)), .val (.ref da), .val (.int (23 : Int32)), .val (.int (26 : Int32)), .val (.int (23 : Int32)), .val (.int c23)] [(.int (c23.toInt8.toInt32)), (.int (23 : Int32)), (.ref da)])) rfl rfl (hb hby d20_31)
  have G143 : VA Z h142 ca .char ([c0, c1, c2, c3, c4, c5, c6, c7, c8, c9, c10, c11, c12, c13, c14, c15, c16, c17, c18, c19, c20, c21, c22, c23, c24, c25].map Value.int) := G137.other W142 ne_ca_da
  have G144 : VA Z h142 da .byte ([(nar .byte (c0.toInt8.toInt32)), (nar .byte (c1.toInt8.toInt32)), (nar .byte (c2.toInt8.toInt32)), (nar .byte (c3.toInt8.toInt32)), (nar .byte (c4.toInt8.toInt32)), (nar .byte (c5.toInt8.toInt32)), (nar .byte (c6.toInt8.toInt32)), (nar .byte (c7.toInt8.toInt32)), (nar .byte (c8.toInt8.toInt32)), (nar .byte (c9.toInt8.toInt32)), (nar .byte (c10.toInt8.toInt32)), (nar .byte (c11.toInt8.toInt32)), (nar .byte (c12.toInt8.toInt32)), (nar .byte (c13.toInt8.toInt32)), (nar .byte (c14.toInt8.toInt32)), (nar .byte (c15.toInt8.toInt32)), (nar .byte (c16.toInt8.toInt32)), (nar .byte (c17.toInt8.toInt32)), (nar .byte (c18.toInt8.toInt32)), (nar .byte (c19.toInt8.toInt32)), (nar .byte (c20.toInt8.toInt32)), (nar .byte (c21.toInt8.toInt32)), (nar .byte (c22.toInt8.toInt32)), (nar .byte (c23.toInt8.toInt32)), (0 : Int32), (0 : Int32)].map Value.int) := V142
  have N142 := Fr.snoc X142 N136 g_da
  have K142 : Keep h0 h142 [da] := Keep.wr K136 W142 (Or.inl (List.mem_of_getElem? (i := 0) rfl))
  have Z142 : n0 ≤ h142.size := Nat.le_trans Z0 K142.1
  have ix145 : 0 ≤ ((24 : Int32)).toInt ∧ ((24 : Int32)).toInt < (([c0, c1, c2, c3, c4, c5, c6, c7, c8, c9, c10, c11, c12, c13, c14, c15, c16, c17, c18, c19, c20, c21, c22, c23, c24, c25]).length : Int) := by constructor <;> first | decide | (simp; done)
  refine Go.step (T' := T142) (f' := (mkF m 20 #[.val (.ref ca), .val (.int (24 : Int32)), .val (.ref da), .val (.int (24 : Int32)), .val (.int (26 : Int32)), .val (.int (24 : Int32)), .val (.int c24)] [(.int (255 : Int32)), (.int c24)])) (fun t kt => ?_) ?_
  · show Steps p.tables e below (T136.setTop (mkF m 20 #[.val (.ref ca), .val (.int (23 : Int32)), .val (.ref da), .val (.int (23 : Int32)), .val (.int (26 : Int32)), .val (.int (23 : Int32)), .val (.int c23)] [(.int (255 : Int32)), (.int c23)])) _
    refine XS.icmpYes X136.here hx rfl (pc0 := 20) (pc' := 26) rfl (hb hby d20_20) rfl (flt hd140).2.2.2 (by decide) (by decide) ?_
    show Steps p.tables e below (T136.setTop (mkF m 26 #[.val (.ref ca), .val (.int (23 : Int32)), .val (.ref da), .val (.int (23 : Int32)), .val (.int (26 : Int32)), .val (.int (23 : Int32)), .val (.int c23)] [])) _
    refine XS.aloadN X136.here hx rfl (hb hby d20_26) rfl rfl ?_
    show Steps p.tables e below (T136.setTop (mkF m 27 #[.val (.ref ca), .val (.int (23 : Int32)), .val (.ref da), .val (.int (23 : Int32)), .val (.int (26 : Int32)), .val (.int (23 : Int32)), .val (.int c23)] [(.ref da)])) _
    refine XS.iloadN X136.here hx rfl (hb hby d20_27) rfl ?_
    show Steps p.tables e below (T136.setTop (mkF m 28 #[.val (.ref ca), .val (.int (23 : Int32)), .val (.ref da), .val (.int (23 : Int32)), .val (.int (26 : Int32)), .val (.int (23 : Int32)), .val (.int c23)] [(.int (23 : Int32)), (.ref da)])) _
    refine XS.iload X136.here hx rfl (hb hby d20_28) rfl ?_
    show Steps p.tables e below (T136.setTop (mkF m 30 #[.val (.ref ca), .val (.int (23 : Int32)), .val (.ref da), .val (.int (23 : Int32)), .val (.int (26 : Int32)), .val (.int (23 : Int32)), .val (.int c23)] [(.int c23), (.int (23 : Int32)), (.ref da)])) _
    refine XS.i2b X136.here hx rfl (hb hby d20_30) rfl ?_
    show Steps p.tables e below (T136.setTop (mkF m 31 #[.val (.ref ca), .val (.int (23 : Int32)), .val (.ref da), .val (.int (23 : Int32)), .val (.int (26 : Int32)), .val (.int (23 : Int32)), .val (.int c23)] [(.int (c23.toInt8.toInt32)), (.int (23 : Int32)), (.ref da)])) _
    refine st142 _ ?_
    show Steps p.tables e below (T142.setTop (mkF m 32 #[.val (.ref ca), .val (.int (23 : Int32)), .val (.ref da), .val (.int (23 : Int32)), .val (.int (26 : Int32)), .val (.int (23 : Int32)), .val (.int c23)] [])) _
    refine XS.iinc X142.here hx rfl (hb hby d20_32) rfl (l' := #[.val (.ref ca), .val (.int (24 : Int32)), .val (.ref da), .val (.int (23 : Int32)), .val (.int (26 : Int32)), .val (.int (23 : Int32)), .val (.int c23)]) rfl ?_
    show Steps p.tables e below (T142.setTop (mkF m 35 #[.val (.ref ca), .val (.int (24 : Int32)), .val (.ref da), .val (.int (23 : Int32)), .val (.int (26 : Int32)), .val (.int (23 : Int32)), .val (.int c23)] [])) _
    refine XS.iinc X142.here hx rfl (hb hby d20_35) rfl (l' := #[.val (.ref ca), .val (.int (24 : Int32)), .val (.ref da), .val (.int (24 : Int32)), .val (.int (26 : Int32)), .val (.int (23 : Int32)), .val (.int c23)]) rfl ?_
    show Steps p.tables e below (T142.setTop (mkF m 38 #[.val (.ref ca), .val (.int (24 : Int32)), .val (.ref da), .val (.int (24 : Int32)), .val (.int (26 : Int32)), .val (.int (23 : Int32)), .val (.int c23)] [])) _
    refine XS.iinc X142.here hx rfl (hb hby d20_38) rfl (l' := #[.val (.ref ca), .val (.int (24 : Int32)), .val (.ref da), .val (.int (24 : Int32)), .val (.int (26 : Int32)), .val (.int (24 : Int32)), .val (.int c23)]) rfl ?_
    show Steps p.tables e below (T142.setTop (mkF m 41 #[.val (.ref ca), .val (.int (24 : Int32)), .val (.ref da), .val (.int (24 : Int32)), .val (.int (26 : Int32)), .val (.int (24 : Int32)), .val (.int c23)] [])) _
    refine XS.goto X142.here hx rfl (pc0 := 41) (pc' := 3) rfl (hb hby d20_41) (by decide) (by decide) ?_
    show Steps p.tables e below (T142.setTop (mkF m 3 #[.val (.ref ca), .val (.int (24 : Int32)), .val (.ref da), .val (.int (24 : Int32)), .val (.int (26 : Int32)), .val (.int (24 : Int32)), .val (.int c23)] [])) _
    refine XS.iload X142.here hx rfl (hb hby d20_3) rfl ?_
    show Steps p.tables e below (T142.setTop (mkF m 5 #[.val (.ref ca), .val (.int (24 : Int32)), .val (.ref da), .val (.int (24 : Int32)), .val (.int (26 : Int32)), .val (.int (24 : Int32)), .val (.int c23)] [(.int (24 : Int32))])) _
    refine XS.iload X142.here hx rfl (hb hby d20_5) rfl ?_
    show Steps p.tables e below (T142.setTop (mkF m 7 #[.val (.ref ca), .val (.int (24 : Int32)), .val (.ref da), .val (.int (24 : Int32)), .val (.int (26 : Int32)), .val (.int (24 : Int32)), .val (.int c23)] [(.int (26 : Int32)), (.int (24 : Int32))])) _
    refine XS.icmpNo X142.here hx rfl (hb hby d20_7) rfl (tlt (by decide : ((24 : Int32) < (26 : Int32)))).2.1 ?_
    show Steps p.tables e below (T142.setTop (mkF m 10 #[.val (.ref ca), .val (.int (24 : Int32)), .val (.ref da), .val (.int (24 : Int32)), .val (.int (26 : Int32)), .val (.int (24 : Int32)), .val (.int c23)] [])) _
    refine XS.aloadN X142.here hx rfl (hb hby d20_10) rfl rfl ?_
    show Steps p.tables e below (T142.setTop (mkF m 11 #[.val (.ref ca), .val (.int (24 : Int32)), .val (.ref da), .val (.int (24 : Int32)), .val (.int (26 : Int32)), .val (.int (24 : Int32)), .val (.int c23)] [(.ref ca)])) _
    refine XS.iloadN X142.here hx rfl (hb hby d20_11) rfl ?_
    show Steps p.tables e below (T142.setTop (mkF m 12 #[.val (.ref ca), .val (.int (24 : Int32)), .val (.ref da), .val (.int (24 : Int32)), .val (.int (26 : Int32)), .val (.int (24 : Int32)), .val (.int c23)] [(.int (24 : Int32)), (.ref ca)])) _
    refine ldC X142 hx hZ e142 G143 ix145.1 ix145.2 (g := (mkF m 12 #[.val (.ref ca), .val (.int (24 : Int32)), .val (.ref da), .val (.int (24 : Int32)), .val (.int (26 : Int32)), .val (.int (24 : Int32)), .val (.int c23)] [(.int (24 : Int32)), (.ref ca)])) rfl rfl (hb hby d20_12) _ ?_
    show Steps p.tables e below (T142.setTop (mkF m 13 #[.val (.ref ca), .val (.int (24 : Int32)), .val (.ref da), .val (.int (24 : Int32)), .val (.int (26 : Int32)), .val (.int (24 : Int32)), .val (.int c23)] [(.int c24)])) _
    refine XS.istore X142.here hx rfl (hb hby d20_13) rfl (l' := #[.val (.ref ca), .val (.int (24 : Int32)), .val (.ref da), .val (.int (24 : Int32)), .val (.int (26 : Int32)), .val (.int (24 : Int32)), .val (.int c24)]) rfl ?_
    show Steps p.tables e below (T142.setTop (mkF m 15 #[.val (.ref ca), .val (.int (24 : Int32)), .val (.ref da), .val (.int (24 : Int32)), .val (.int (26 : Int32)), .val (.int (24 : Int32)), .val (.int c24)] [])) _
    refine XS.iload X142.here hx rfl (hb hby d20_15) rfl ?_
    show Steps p.tables e below (T142.setTop (mkF m 17 #[.val (.ref ca), .val (.int (24 : Int32)), .val (.ref da), .val (.int (24 : Int32)), .val (.int (26 : Int32)), .val (.int (24 : Int32)), .val (.int c24)] [(.int c24)])) _
    refine XS.sipush X142.here hx rfl (hb hby d20_17) ?_
    exact kt
  have hd146 : ¬ ((255 : Int32) < c24) := hle _ (by simp)
  have ix147 : 0 ≤ ((24 : Int32)).toInt ∧ ((24 : Int32)).toInt < (([(nar .byte (c0.toInt8.toInt32)), (nar .byte (c1.toInt8.toInt32)), (nar .byte (c2.toInt8.toInt32)), (nar .byte (c3.toInt8.toInt32)), (nar .byte (c4.toInt8.toInt32)), (nar .byte (c5.toInt8.toInt32)), (nar .byte (c6.toInt8.toInt32)), (nar .byte (c7.toInt8.toInt32)), (nar .byte (c8.toInt8.toInt32)), (nar .byte (c9.toInt8.toInt32)), (nar .byte (c10.toInt8.toInt32)), (nar .byte (c11.toInt8.toInt32)), (nar .byte (c12.toInt8.toInt32)), (nar .byte (c13.toInt8.toInt32)), (nar .byte (c14.toInt8.toInt32)), (nar .byte (c15.toInt8.toInt32)), (nar .byte (c16.toInt8.toInt32)), (nar .byte (c17.toInt8.toInt32)), (nar .byte (c18.toInt8.toInt32)), (nar .byte (c19.toInt8.toInt32)), (nar .byte (c20.toInt8.toInt32)), (nar .byte (c21.toInt8.toInt32)), (nar .byte (c22.toInt8.toInt32)), (nar .byte (c23.toInt8.toInt32)), (0 : Int32), (0 : Int32)]).length : Int) := by constructor <;> first | decide | (simp; done)
  obtain ⟨T148, h148, X148, e148, W148, V148, st148⟩ := putB X142 hx hZ e142 G144 ix147.1 ix147.2 (g := (mkF m 31 #[.val (.ref ca), .val (.int (24 : Int32)), .val (.ref da), .val (.int (24 : Int32)), .val (.int (26 : Int32)), .val (.int (24 : Int32)), .val (.int c24)] [(.int (c24.toInt8.toInt32)), (.int (24 : Int32)), (.ref da)])) rfl rfl (hb hby d20_31)
  have G149 : VA Z h148 ca .char ([c0, c1, c2, c3, c4, c5, c6, c7, c8, c9, c10, c11, c12, c13, c14, c15, c16, c17, c18, c19, c20, c21, c22, c23, c24, c25].map Value.int) := G143.other W148 ne_ca_da
  have G150 : VA Z h148 da .byte ([(nar .byte (c0.toInt8.toInt32)), (nar .byte (c1.toInt8.toInt32)), (nar .byte (c2.toInt8.toInt32)), (nar .byte (c3.toInt8.toInt32)), (nar .byte (c4.toInt8.toInt32)), (nar .byte (c5.toInt8.toInt32)), (nar .byte (c6.toInt8.toInt32)), (nar .byte (c7.toInt8.toInt32)), (nar .byte (c8.toInt8.toInt32)), (nar .byte (c9.toInt8.toInt32)), (nar .byte (c10.toInt8.toInt32)), (nar .byte (c11.toInt8.toInt32)), (nar .byte (c12.toInt8.toInt32)), (nar .byte (c13.toInt8.toInt32)), (nar .byte (c14.toInt8.toInt32)), (nar .byte (c15.toInt8.toInt32)), (nar .byte (c16.toInt8.toInt32)), (nar .byte (c17.toInt8.toInt32)), (nar .byte (c18.toInt8.toInt32)), (nar .byte (c19.toInt8.toInt32)), (nar .byte (c20.toInt8.toInt32)), (nar .byte (c21.toInt8.toInt32)), (nar .byte (c22.toInt8.toInt32)), (nar .byte (c23.toInt8.toInt32)), (nar .byte (c24.toInt8.toInt32)), (0 : Int32)].map Value.int) := V148
  have N148 := Fr.snoc X148 N142 g_da
  have K148 : Keep h0 h148 [da] := Keep.wr K142 W148 (Or.inl (List.mem_of_getElem? (i := 0) rfl))
  have Z148 : n0 ≤ h148.size := Nat.le_trans Z0 K148.1
  have ix151 : 0 ≤ ((25 : Int32)).toInt ∧ ((25 : Int32)).toInt < (([c0, c1, c2, c3, c4, c5, c6, c7, c8, c9, c10, c11, c12, c13, c14, c15, c16, c17, c18, c19, c20, c21, c22, c23, c24, c25]).length : Int) := by constructor <;> first | decide | (simp; done)
  refine Go.step (T' := T148) (f' := (mkF m 20 #[.val (.ref ca), .val (.int (25 : Int32)), .val (.ref da), .val (.int (25 : Int32)), .val (.int (26 : Int32)), .val (.int (25 : Int32)), .val (.int c25)] [(.int (255 : Int32)), (.int c25)])) (fun t kt => ?_) ?_
  · show Steps p.tables e below (T142.setTop (mkF m 20 #[.val (.ref ca), .val (.int (24 : Int32)), .val (.ref da), .val (.int (24 : Int32)), .val (.int (26 : Int32)), .val (.int (24 : Int32)), .val (.int c24)] [(.int (255 : Int32)), (.int c24)])) _
    refine XS.icmpYes X142.here hx rfl (pc0 := 20) (pc' := 26) rfl (hb hby d20_20) rfl (flt hd146).2.2.2 (by decide) (by decide) ?_
    show Steps p.tables e below (T142.setTop (mkF m 26 #[.val (.ref ca), .val (.int (24 : Int32)), .val (.ref da), .val (.int (24 : Int32)), .val (.int (26 : Int32)), .val (.int (24 : Int32)), .val (.int c24)] [])) _
    refine XS.aloadN X142.here hx rfl (hb hby d20_26) rfl rfl ?_
    show Steps p.tables e below (T142.setTop (mkF m 27 #[.val (.ref ca), .val (.int (24 : Int32)), .val (.ref da), .val (.int (24 : Int32)), .val (.int (26 : Int32)), .val (.int (24 : Int32)), .val (.int c24)] [(.ref da)])) _
    refine XS.iloadN X142.here hx rfl (hb hby d20_27) rfl ?_
    show Steps p.tables e below (T142.setTop (mkF m 28 #[.val (.ref ca), .val (.int (24 : Int32)), .val (.ref da), .val (.int (24 : Int32)), .val (.int (26 : Int32)), .val (.int (24 : Int32)), .val (.int c24)] [(.int (24 : Int32)), (.ref da)])) _
    refine XS.iload X142.here hx rfl (hb hby d20_28) rfl ?_
    show Steps p.tables e below (T142.setTop (mkF m 30 #[.val (.ref ca), .val (.int (24 : Int32)), .val (.ref da), .val (.int (24 : Int32)), .val (.int (26 : Int32)), .val (.int (24 : Int32)), .val (.int c24)] [(.int c24), (.int (24 : Int32)), (.ref da)])) _
    refine XS.i2b X142.here hx rfl (hb hby d20_30) rfl ?_
    show Steps p.tables e below (T142.setTop (mkF m 31 #[.val (.ref ca), .val (.int (24 : Int32)), .val (.ref da), .val (.int (24 : Int32)), .val (.int (26 : Int32)), .val (.int (24 : Int32)), .val (.int c24)] [(.int (c24.toInt8.toInt32)), (.int (24 : Int32)), (.ref da)])) _
    refine st148 _ ?_
    show Steps p.tables e below (T148.setTop (mkF m 32 #[.val (.ref ca), .val (.int (24 : Int32)), .val (.ref da), .val (.int (24 : Int32)), .val (.int (26 : Int32)), .val (.int (24 : Int32)), .val (.int c24)] [])) _
    refine XS.iinc X148.here hx rfl (hb hby d20_32) rfl (l' := #[.val (.ref ca), .val (.int (25 : Int32)), .val (.ref da), .val (.int (24 : Int32)), .val (.int (26 : Int32)), .val (.int (24 : Int32)), .val (.int c24)]) rfl ?_
    show Steps p.tables e below (T148.setTop (mkF m 35 #[.val (.ref ca), .val (.int (25 : Int32)), .val (.ref da), .val (.int (24 : Int32)), .val (.int (26 : Int32)), .val (.int (24 : Int32)), .val (.int c24)] [])) _
    refine XS.iinc X148.here hx rfl (hb hby d20_35) rfl (l' := #[.val (.ref ca), .val (.int (25 : Int32)), .val (.ref da), .val (.int (25 : Int32)), .val (.int (26 : Int32)), .val (.int (24 : Int32)), .val (.int c24)]) rfl ?_
    show Steps p.tables e below (T148.setTop (mkF m 38 #[.val (.ref ca), .val (.int (25 : Int32)), .val (.ref da), .val (.int (25 : Int32)), .val (.int (26 : Int32)), .val (.int (24 : Int32)), .val (.int c24)] [])) _
    refine XS.iinc X148.here hx rfl (hb hby d20_38) rfl (l' := #[.val (.ref ca), .val (.int (25 : Int32)), .val (.ref da), .val (.int (25 : Int32)), .val (.int (26 : Int32)), .val (.int (25 : Int32)), .val (.int c24)]) rfl ?_
    show Steps p.tables e below (T148.setTop (mkF m 41 #[.val (.ref ca), .val (.int (25 : Int32)), .val (.ref da), .val (.int (25 : Int32)), .val (.int (26 : Int32)), .val (.int (25 : Int32)), .val (.int c24)] [])) _
    refine XS.goto X148.here hx rfl (pc0 := 41) (pc' := 3) rfl (hb hby d20_41) (by decide) (by decide) ?_
    show Steps p.tables e below (T148.setTop (mkF m 3 #[.val (.ref ca), .val (.int (25 : Int32)), .val (.ref da), .val (.int (25 : Int32)), .val (.int (26 : Int32)), .val (.int (25 : Int32)), .val (.int c24)] [])) _
    refine XS.iload X148.here hx rfl (hb hby d20_3) rfl ?_
    show Steps p.tables e below (T148.setTop (mkF m 5 #[.val (.ref ca), .val (.int (25 : Int32)), .val (.ref da), .val (.int (25 : Int32)), .val (.int (26 : Int32)), .val (.int (25 : Int32)), .val (.int c24)] [(.int (25 : Int32))])) _
    refine XS.iload X148.here hx rfl (hb hby d20_5) rfl ?_
    show Steps p.tables e below (T148.setTop (mkF m 7 #[.val (.ref ca), .val (.int (25 : Int32)), .val (.ref da), .val (.int (25 : Int32)), .val (.int (26 : Int32)), .val (.int (25 : Int32)), .val (.int c24)] [(.int (26 : Int32)), (.int (25 : Int32))])) _
    refine XS.icmpNo X148.here hx rfl (hb hby d20_7) rfl (tlt (by decide : ((25 : Int32) < (26 : Int32)))).2.1 ?_
    show Steps p.tables e below (T148.setTop (mkF m 10 #[.val (.ref ca), .val (.int (25 : Int32)), .val (.ref da), .val (.int (25 : Int32)), .val (.int (26 : Int32)), .val (.int (25 : Int32)), .val (.int c24)] [])) _
    refine XS.aloadN X148.here hx rfl (hb hby d20_10) rfl rfl ?_
    show Steps p.tables e below (T148.setTop (mkF m 11 #[.val (.ref ca), .val (.int (25 : Int32)), .val (.ref da), .val (.int (25 : Int32)), .val (.int (26 : Int32)), .val (.int (25 : Int32)), .val (.int c24)] [(.ref ca)])) _
    refine XS.iloadN X148.here hx rfl (hb hby d20_11) rfl ?_
    show Steps p.tables e below (T148.setTop (mkF m 12 #[.val (.ref ca), .val (.int (25 : Int32)), .val (.ref da), .val (.int (25 : Int32)), .val (.int (26 : Int32)), .val (.int (25 : Int32)), .val (.int c24)] [(.int (25 : Int32)), (.ref ca)])) _
    refine ldC X148 hx hZ e148 G149 ix151.1 ix151.2 (g := (mkF m 12 #[.val (.ref ca), .val (.int (25 : Int32)), .val (.ref da), .val (.int (25 : Int32)), .val (.int (26 : Int32)), .val (.int (25 : Int32)), .val (.int c24)] [(.int (25 : Int32)), (.ref ca)])) rfl rfl (hb hby d20_12) _ ?_
    show Steps p.tables e below (T148.setTop (mkF m 13 #[.val (.ref ca), .val (.int (25 : Int32)), .val (.ref da), .val (.int (25 : Int32)), .val (.int (26 : Int32)), .val (.int (25 : Int32)), .val (.int c24)] [(.int c25)])) _
    refine XS.istore X148.here hx rfl (hb hby d20_13) rfl (l' := #[.val (.ref ca), .val (.int (25 : Int32)), .val (.ref da), .val (.int (25 : Int32)), .val (.int (26 : Int32)), .val (.int (25 : Int32)), .val (.int c25)]) rfl ?_
    show Steps p.tables e below (T148.setTop (mkF m 15 #[.val (.ref ca), .val (.int (25 : Int32)), .val (.ref da), .val (.int (25 : Int32)), .val (.int (26 : Int32)), .val (.int (25 : Int32)), .val (.int c25)] [])) _
    refine XS.iload X148.here hx rfl (hb hby d20_15) rfl ?_
    show Steps p.tables e below (T148.setTop (mkF m 17 #[.val (.ref ca), .val (.int (25 : Int32)), .val (.ref da), .val (.int (25 : Int32)), .val (.int (26 : Int32)), .val (.int (25 : Int32)), .val (.int c25)] [(.int c25)])) _
    refine XS.sipush X148.here hx rfl (hb hby d20_17) ?_
    exact kt
  have hd152 : ¬ ((255 : Int32) < c25) := hle _ (by simp)
  have ix153 : 0 ≤ ((25 : Int32)).toInt ∧ ((25 : Int32)).toInt < (([(nar .byte (c0.toInt8.toInt32)), (nar .byte (c1.toInt8.toInt32)), (nar .byte (c2.toInt8.toInt32)), (nar .byte (c3.toInt8.toInt32)), (nar .byte (c4.toInt8.toInt32)), (nar .byte (c5.toInt8.toInt32)), (nar .byte (c6.toInt8.toInt32)), (nar .byte (c7.toInt8.toInt32)), (nar .byte (c8.toInt8.toInt32)), (nar .byte (c9.toInt8.toInt32)), (nar .byte (c10.toInt8.toInt32)), (nar .byte (c11.toInt8.toInt32)), (nar .byte (c12.toInt8.toInt32)), (nar .byte (c13.toInt8.toInt32)), (nar .byte (c14.toInt8.toInt32)), (nar .byte (c15.toInt8.toInt32)), (nar .byte (c16.toInt8.toInt32)), (nar .byte (c17.toInt8.toInt32)), (nar .byte (c18.toInt8.toInt32)), (nar .byte (c19.toInt8.toInt32)), (nar .byte (c20.toInt8.toInt32)), (nar .byte (c21.toInt8.toInt32)), (nar .byte (c22.toInt8.toInt32)), (nar .byte (c23.toInt8.toInt32)), (nar .byte (c24.toInt8.toInt32)), (0 : Int32)]).length : Int) := by constructor <;> first | decide | (simp; done)
  obtain ⟨T154, h154, X154, e154, W154, V154, st154⟩ := putB X148 hx hZ e148 G150 ix153.1 ix153.2 (g := (mkF m 31 #[.val (.ref ca), .val (.int (25 : Int32)), .val (.ref da), .val (.int (25 : Int32)), .val (.int (26 : Int32)), .val (.int (25 : Int32)), .val (.int c25)] [(.int (c25.toInt8.toInt32)), (.int (25 : Int32)), (.ref da)])) rfl rfl (hb hby d20_31)
  have G155 : VA Z h154 ca .char ([c0, c1, c2, c3, c4, c5, c6, c7, c8, c9, c10, c11, c12, c13, c14, c15, c16, c17, c18, c19, c20, c21, c22, c23, c24, c25].map Value.int) := G149.other W154 ne_ca_da
  have G156 : VA Z h154 da .byte ([(nar .byte (c0.toInt8.toInt32)), (nar .byte (c1.toInt8.toInt32)), (nar .byte (c2.toInt8.toInt32)), (nar .byte (c3.toInt8.toInt32)), (nar .byte (c4.toInt8.toInt32)), (nar .byte (c5.toInt8.toInt32)), (nar .byte (c6.toInt8.toInt32)), (nar .byte (c7.toInt8.toInt32)), (nar .byte (c8.toInt8.toInt32)), (nar .byte (c9.toInt8.toInt32)), (nar .byte (c10.toInt8.toInt32)), (nar .byte (c11.toInt8.toInt32)), (nar .byte (c12.toInt8.toInt32)), (nar .byte (c13.toInt8.toInt32)), (nar .byte (c14.toInt8.toInt32)), (nar .byte (c15.toInt8.toInt32)), (nar .byte (c16.toInt8.toInt32)), (nar .byte (c17.toInt8.toInt32)), (nar .byte (c18.toInt8.toInt32)), (nar .byte (c19.toInt8.toInt32)), (nar .byte (c20.toInt8.toInt32)), (nar .byte (c21.toInt8.toInt32)), (nar .byte (c22.toInt8.toInt32)), (nar .byte (c23.toInt8.toInt32)), (nar .byte (c24.toInt8.toInt32)), (nar .byte (c25.toInt8.toInt32))].map Value.int) := V154
  have N154 := Fr.snoc X154 N148 g_da
  have K154 : Keep h0 h154 [da] := Keep.wr K148 W154 (Or.inl (List.mem_of_getElem? (i := 0) rfl))
  have Z154 : n0 ≤ h154.size := Nat.le_trans Z0 K154.1
  refine Go.step (T' := T154) (f' := (mkF m 46 #[.val (.ref ca), .val (.int (26 : Int32)), .val (.ref da), .val (.int (26 : Int32)), .val (.int (26 : Int32)), .val (.int (26 : Int32)), .val (.int c25)] [(.int (26 : Int32))])) (fun t kt => ?_) ?_
  · show Steps p.tables e below (T148.setTop (mkF m 20 #[.val (.ref ca), .val (.int (25 : Int32)), .val (.ref da), .val (.int (25 : Int32)), .val (.int (26 : Int32)), .val (.int (25 : Int32)), .val (.int c25)] [(.int (255 : Int32)), (.int c25)])) _
    refine XS.icmpYes X148.here hx rfl (pc0 := 20) (pc' := 26) rfl (hb hby d20_20) rfl (flt hd152).2.2.2 (by decide) (by decide) ?_
    show Steps p.tables e below (T148.setTop (mkF m 26 #[.val (.ref ca), .val (.int (25 : Int32)), .val (.ref da), .val (.int (25 : Int32)), .val (.int (26 : Int32)), .val (.int (25 : Int32)), .val (.int c25)] [])) _
    refine XS.aloadN X148.here hx rfl (hb hby d20_26) rfl rfl ?_
    show Steps p.tables e below (T148.setTop (mkF m 27 #[.val (.ref ca), .val (.int (25 : Int32)), .val (.ref da), .val (.int (25 : Int32)), .val (.int (26 : Int32)), .val (.int (25 : Int32)), .val (.int c25)] [(.ref da)])) _
    refine XS.iloadN X148.here hx rfl (hb hby d20_27) rfl ?_
    show Steps p.tables e below (T148.setTop (mkF m 28 #[.val (.ref ca), .val (.int (25 : Int32)), .val (.ref da), .val (.int (25 : Int32)), .val (.int (26 : Int32)), .val (.int (25 : Int32)), .val (.int c25)] [(.int (25 : Int32)), (.ref da)])) _
    refine XS.iload X148.here hx rfl (hb hby d20_28) rfl ?_
    show Steps p.tables e below (T148.setTop (mkF m 30 #[.val (.ref ca), .val (.int (25 : Int32)), .val (.ref da), .val (.int (25 : Int32)), .val (.int (26 : Int32)), .val (.int (25 : Int32)), .val (.int c25)] [(.int c25), (.int (25 : Int32)), (.ref da)])) _
    refine XS.i2b X148.here hx rfl (hb hby d20_30) rfl ?_
    show Steps p.tables e below (T148.setTop (mkF m 31 #[.val (.ref ca), .val (.int (25 : Int32)), .val (.ref da), .val (.int (25 : Int32)), .val (.int (26 : Int32)), .val (.int (25 : Int32)), .val (.int c25)] [(.int (c25.toInt8.toInt32)), (.int (25 : Int32)), (.ref da)])) _
    refine st154 _ ?_
    show Steps p.tables e below (T154.setTop (mkF m 32 #[.val (.ref ca), .val (.int (25 : Int32)), .val (.ref da), .val (.int (25 : Int32)), .val (.int (26 : Int32)), .val (.int (25 : Int32)), .val (.int c25)] [])) _
    refine XS.iinc X154.here hx rfl (hb hby d20_32) rfl (l' := #[.val (.ref ca), .val (.int (26 : Int32)), .val (.ref da), .val (.int (25 : Int32)), .val (.int (26 : Int32)), .val (.int (25 : Int32)), .val (.int c25)]) rfl ?_
    show Steps p.tables e below (T154.setTop (mkF m 35 #[.val (.ref ca), .val (.int (26 : Int32)), .val (.ref da), .val (.int (25 : Int32)), .val (.int (26 : Int32)), .val (.int (25 : Int32)), .val (.int c25)] [])) _
    refine XS.iinc X154.here hx rfl (hb hby d20_35) rfl (l' := #[.val (.ref ca), .val (.int (26 : Int32)), .val (.ref da), .val (.int (26 : Int32)), .val (.int (26 : Int32)), .val (.int (25 : Int32)), .val (.int c25)]) rfl ?_
    show Steps p.tables e below (T154.setTop (mkF m 38 #[.val (.ref ca), .val (.int (26 : Int32)), .val (.ref da), .val (.int (26 : Int32)), .val (.int (26 : Int32)), .val (.int (25 : Int32)), .val (.int c25)] [])) _
    refine XS.iinc X154.here hx rfl (hb hby d20_38) rfl (l' := #[.val (.ref ca), .val (.int (26 : Int32)), .val (.ref da), .val (.int (26 : Int32)), .val (.int (26 : Int32)), .val (.int (26 : Int32)), .val (.int c25)]) rfl ?_
    show Steps p.tables e below (T154.setTop (mkF m 41 #[.val (.ref ca), .val (.int (26 : Int32)), .val (.ref da), .val (.int (26 : Int32)), .val (.int (26 : Int32)), .val (.int (26 : Int32)), .val (.int c25)] [])) _
    refine XS.goto X154.here hx rfl (pc0 := 41) (pc' := 3) rfl (hb hby d20_41) (by decide) (by decide) ?_
    show Steps p.tables e below (T154.setTop (mkF m 3 #[.val (.ref ca), .val (.int (26 : Int32)), .val (.ref da), .val (.int (26 : Int32)), .val (.int (26 : Int32)), .val (.int (26 : Int32)), .val (.int c25)] [])) _
    refine XS.iload X154.here hx rfl (hb hby d20_3) rfl ?_
    show Steps p.tables e below (T154.setTop (mkF m 5 #[.val (.ref ca), .val (.int (26 : Int32)), .val (.ref da), .val (.int (26 : Int32)), .val (.int (26 : Int32)), .val (.int (26 : Int32)), .val (.int c25)] [(.int (26 : Int32))])) _
    refine XS.iload X154.here hx rfl (hb hby d20_5) rfl ?_
    show Steps p.tables e below (T154.setTop (mkF m 7 #[.val (.ref ca), .val (.int (26 : Int32)), .val (.ref da), .val (.int (26 : Int32)), .val (.int (26 : Int32)), .val (.int (26 : Int32)), .val (.int c25)] [(.int (26 : Int32)), (.int (26 : Int32))])) _
    refine XS.icmpYes X154.here hx rfl (pc0 := 7) (pc' := 44) rfl (hb hby d20_7) rfl (flt (by decide : ¬ ((26 : Int32) < (26 : Int32)))).2.1 (by decide) (by decide) ?_
    show Steps p.tables e below (T154.setTop (mkF m 44 #[.val (.ref ca), .val (.int (26 : Int32)), .val (.ref da), .val (.int (26 : Int32)), .val (.int (26 : Int32)), .val (.int (26 : Int32)), .val (.int c25)] [])) _
    refine XS.iload X154.here hx rfl (hb hby d20_44) rfl ?_
    exact kt
  refine Go.fin X154 (v := some (.int (26 : Int32))) (fun h => by rw [Bd.returns] at h; cases h) Bd.notSynchronized ?_ (Nat.le_trans (Nat.le_refl 0) (by decide)) (Nat.le_trans (Nat.le_refl 0) (by decide)) (fun fs hr => retI X154 hx Bd.returns (hb hby d20_46) hr)
  · show Qcp5 Z ca da c0 c1 c2 c3 c4 c5 c6 c7 c8 c9 c10 c11 c12 c13 c14 c15 c16 c17 c18 c19 c20 c21 c22 c23 c24 c25 h0 n0 _ T154.heap _
    rw [e154]
    exact ⟨rfl, N154, K154, G156⟩
theorem pd_5 : parseMethodDescriptor "([CI[BII)I" = some ⟨[(.array .char), .int, (.array .byte), .int, .int], some .int⟩ := by decide +kernel
theorem d19_0 : decode jdk_52_method_16_code 0 = .ok (.iload_n 2, 1) := by decide +kernel
theorem d19_1 : decode jdk_52_method_16_code 1 = .ok (.newarray .byte, 2) := by decide +kernel
theorem d19_3 : decode jdk_52_method_16_code 3 = .ok (.astore_n 3, 1) := by decide +kernel
theorem d19_4 : decode jdk_52_method_16_code 4 = .ok (.aload_n 0, 1) := by decide +kernel
theorem d19_5 : decode jdk_52_method_16_code 5 = .ok (.iload_n 1, 1) := by decide +kernel
theorem d19_6 : decode jdk_52_method_16_code 6 = .ok (.aload_n 3, 1) := by decide +kernel
theorem d19_7 : decode jdk_52_method_16_code 7 = .ok (.iconst 0, 1) := by decide +kernel
theorem d19_8 : decode jdk_52_method_16_code 8 = .ok (.iload_n 2, 1) := by decide +kernel
theorem d19_9 : decode jdk_52_method_16_code 9 = .ok (.invokestatic 115, 3) := by decide +kernel
theorem d19_12 : decode jdk_52_method_16_code 12 = .ok (.istore 4, 2) := by decide +kernel
theorem d19_14 : decode jdk_52_method_16_code 14 = .ok (.iload 4, 2) := by decide +kernel
theorem d19_16 : decode jdk_52_method_16_code 16 = .ok (.iload_n 2, 1) := by decide +kernel
theorem d19_17 : decode jdk_52_method_16_code 17 = .ok (.if_icmp .eq 40, 3) := by decide +kernel
theorem d19_57 : decode jdk_52_method_16_code 57 = .ok (.aload_n 3, 1) := by decide +kernel
theorem d19_58 : decode jdk_52_method_16_code 58 = .ok (.areturn, 1) := by decide +kernel
theorem ef_cp3 (m : MethodId) (x0 : Addr) (x1 : Int32) (x2 : Int32) : entryFrame m #[(.ref x0), (.int x1), (.int x2)] 6 = mkF m 0 #[.val (.ref x0), .val (.int x1), .val (.int x2), .unset, .unset, .unset] [] := by first | (simp [entryFrame, mkF, argsToLocals, Value.category]; done) | rfl
def Qcp3 (Z : State) (ca : Addr) (c0 : Int32) (c1 : Int32) (c2 : Int32) (c3 : Int32) (c4 : Int32) (c5 : Int32) (c6 : Int32) (c7 : Int32) (c8 : Int32) (c9 : Int32) (c10 : Int32) (c11 : Int32) (c12 : Int32) (c13 : Int32) (c14 : Int32) (c15 : Int32) (c16 : Int32) (c17 : Int32) (c18 : Int32) (c19 : Int32) (c20 : Int32) (c21 : Int32) (c22 : Int32) (c23 : Int32) (c24 : Int32) (c25 : Int32) (h0 : Heap) (n0 : Nat) (v : Option Value) (h : Heap) (L : List Loc) : Prop := ∃ (bb : Addr), v = some (.ref bb) ∧ Fr n0 L ∧ Keep h0 h [] ∧ h0.size ≤ bb ∧ VA Z h bb .byte ([(nar .byte (c0.toInt8.toInt32)), (nar .byte (c1.toInt8.toInt32)), (nar .byte (c2.toInt8.toInt32)), (nar .byte (c3.toInt8.toInt32)), (nar .byte (c4.toInt8.toInt32)), (nar .byte (c5.toInt8.toInt32)), (nar .byte (c6.toInt8.toInt32)), (nar .byte (c7.toInt8.toInt32)), (nar .byte (c8.toInt8.toInt32)), (nar .byte (c9.toInt8.toInt32)), (nar .byte (c10.toInt8.toInt32)), (nar .byte (c11.toInt8.toInt32)), (nar .byte (c12.toInt8.toInt32)), (nar .byte (c13.toInt8.toInt32)), (nar .byte (c14.toInt8.toInt32)), (nar .byte (c15.toInt8.toInt32)), (nar .byte (c16.toInt8.toInt32)), (nar .byte (c17.toInt8.toInt32)), (nar .byte (c18.toInt8.toInt32)), (nar .byte (c19.toInt8.toInt32)), (nar .byte (c20.toInt8.toInt32)), (nar .byte (c21.toInt8.toInt32)), (nar .byte (c22.toInt8.toInt32)), (nar .byte (c23.toInt8.toInt32)), (nar .byte (c24.toInt8.toInt32)), (nar .byte (c25.toInt8.toInt32))].map Value.int)
set_option maxRecDepth 65536 in
set_option maxHeartbeats 40000000 in
theorem rm_cp3 (l : Launch) (Z : State) (a0 : Array Value) (hw : ∀ d ∈ tables_1, d.before a0 Z = true) (ws : List Jvm.Cond) (ca : Addr) (c0 : Int32) (c1 : Int32) (c2 : Int32) (c3 : Int32) (c4 : Int32) (c5 : Int32) (c6 : Int32) (c7 : Int32) (c8 : Int32) (c9 : Int32) (c10 : Int32) (c11 : Int32) (c12 : Int32) (c13 : Int32) (c14 : Int32) (c15 : Int32) (c16 : Int32) (c17 : Int32) (c18 : Int32) (c19 : Int32) (c20 : Int32) (c21 : Int32) (c22 : Int32) (c23 : Int32) (c24 : Int32) (c25 : Int32) (h0 : Heap) (n0 : Nat) (Z0 : n0 ≤ h0.size) (F0 : VA Z h0 ca .char ([c0, c1, c2, c3, c4, c5, c6, c7, c8, c9, c10, c11, c12, c13, c14, c15, c16, c17, c18, c19, c20, c21, c22, c23, c24, c25].map Value.int)) (hle : ∀ x ∈ [c0, c1, c2, c3, c4, c5, c6, c7, c8, c9, c10, c11, c12, c13, c14, c15, c16, c17, c18, c19, c20, c21, c22, c23, c24, c25], ¬ (255 : Int32) < x) :
    MetFree l (⟨"java/lang/StringUTF16", "compress", "([CII)[B"⟩ : MethodName) (head1 (Jvm.Cond.code (⟨"java/lang/StringUTF16", "compress", "([CII)[B"⟩ : MethodName) jdk_52_method_16_code 6 (some (.array .byte)) :: ws) ({ frames := 1, cells := 1, slots := 26, locals := 18 } : Room)) (fun A_ U => A_ = #[(.ref ca), (.int (0 : Int32)), (.int (26 : Int32))] ∧ Z.Warmed39 U.vm ∧ U.heap = h0) (fun _ _ _ _ _ => True) (fun _ U o U' => ∃ v L, o = .returned v ∧ Qcp3 Z ca c0 c1 c2 c3 c4 c5 c6 c7 c8 c9 c10 c11 c12 c13 c14 c15 c16 c17 c18 c19 c20 c21 c22 c23 c24 c25 h0 n0 v U'.heap L ∧ FrameEnd U o U' L ({ frames := 1, cells := 1, slots := 26, locals := 18 } : Room).cells ({ frames := 1, cells := 1, slots := 26, locals := 18 } : Room).slots) := by
  refine MetFree.of_bodySF (plainFor_of_name pn_3) hisR ?_
  intro p e s m args below meth c s₁ Bd hml0 hP hK
  obtain ⟨rfl, hZ, hh⟩ := hP
  have hx := Bd.exec
  have hby := Bd.bytes
  have hml : c.maxLocals = 6 := hml0
  have hown : s.vm.findClass "java/lang/StringUTF16" = some m.cls := findClass_of_methodNamed Bd.named
  have hnm := (name_of_methodNamed Bd.named Bd.method).1
  have X0 : Stand p l e ({ frames := 1, cells := 1, slots := 26, locals := 18 } : Room) s m #[(.ref ca), (.int (0 : Int32)), (.int (26 : Int32))] below meth c s₁ [] 0 0 := Stand.of_body Bd
  have e0 : s₁.heap = h0 := by rw [← hh, Bd.state]; rfl
  have N0 := Fr.nil n0
  suffices HGO : Go p e below s (Qcp3 Z ca c0 c1 c2 c3 c4 c5 c6 c7 c8 c9 c10 c11 c12 c13 c14 c15 c16 c17 c18 c19 c20 c21 c22 c23 c24 c25 h0 n0) ({ frames := 1, cells := 1, slots := 26, locals := 18 } : Room).cells ({ frames := 1, cells := 1, slots := 26, locals := 18 } : Room).slots s₁ (mkF m 0 #[.val (.ref ca), .val (.int (0 : Int32)), .val (.int (26 : Int32)), .unset, .unset, .unset] []) from Go.cast (ef_cp3 m ca (0 : Int32) (26 : Int32)) HGO
  obtain ⟨T1, h1, X1, e1, E1, A1, st1⟩ := newB X0 hx hZ (hw _ (List.mem_of_getElem? (i := 60) rfl)) e0 (g := (mkF m 1 #[.val (.ref ca), .val (.int (0 : Int32)), .val (.int (26 : Int32)), .unset, .unset, .unset] [(.int (26 : Int32))])) rfl (hb hby d19_1) rfl (by decide) (cap := 26) (by decide) (by decide) (Nat.le_trans (Nat.add_le_add_right (Nat.le_refl 0) 1) (by decide)) (Nat.le_trans (Nat.add_le_add_right (Nat.le_refl 0) 26) (by decide))
  obtain ⟨b1, g1⟩ : ∃ z, z = h0.size := ⟨_, rfl⟩
  rw [← g1] at A1 st1
  have ne_ca_b1 : ca ≠ b1 := Nat.ne_of_lt (Nat.lt_of_lt_of_le F0.lt (Nat.le_of_eq g1.symm))
  have G2 : VA Z h1 ca .char ([c0, c1, c2, c3, c4, c5, c6, c7, c8, c9, c10, c11, c12, c13, c14, c15, c16, c17, c18, c19, c20, c21, c22, c23, c24, c25].map Value.int) := F0.ext E1
  have g_b1 : n0 ≤ b1 := Nat.le_trans Z0 (Nat.le_of_eq g1.symm)
  have sz_b1 : h0.size ≤ b1 := Nat.le_trans (Keep.refl h0 []).1 (Nat.le_of_eq g1.symm)
  have K1 : Keep h0 h1 [] := Keep.ext (Keep.refl h0 []) E1
  have Z1 : n0 ≤ h1.size := Nat.le_trans Z0 K1.1
  have G3 : VA Z h1 b1 .byte ([(0 : Int32), (0 : Int32), (0 : Int32), (0 : Int32), (0 : Int32), (0 : Int32), (0 : Int32), (0 : Int32), (0 : Int32), (0 : Int32), (0 : Int32), (0 : Int32), (0 : Int32), (0 : Int32), (0 : Int32), (0 : Int32), (0 : Int32), (0 : Int32), (0 : Int32), (0 : Int32), (0 : Int32), (0 : Int32), (0 : Int32), (0 : Int32), (0 : Int32), (0 : Int32)].map Value.int) := A1
  obtain ⟨_, _, ⟨T4, L4, k4, n4⟩, -, X4, ⟨Lc4, hQ4, l4, y4, z4⟩, st4⟩ := Jvm.LawKit.callS X1 hx (y := (⟨"java/lang/StringUTF16", "compress", "([CI[BII)I"⟩ : MethodName)) hown (mvT hZ (hw _ (List.mem_of_getElem? (i := 103) rfl))) (mvT hZ (hw _ (List.mem_of_getElem? (i := 104) rfl))) (mvT hZ (hw _ (List.mem_of_getElem? (i := 101) rfl))) (mvT hZ (hw _ (List.mem_of_getElem? (i := 105) rfl))) (by decide) (backOf (W := 0) (rm_cp5 l Z a0 hw [] ca b1 c0 c1 c2 c3 c4 c5 c6 c7 c8 c9 c10 c11 c12 c13 c14 c15 c16 c17 c18 c19 c20 c21 c22 c23 c24 c25 h1 n0 Z1 G2 G3 g_b1 ne_ca_b1 hle) hZ (hw _ (List.mem_of_getElem? (i := 105) rfl)) (hw _ (List.mem_of_getElem? (i := 101) rfl)) (by decide) (by decide)) (g := (mkF m 9 #[.val (.ref ca), .val (.int (0 : Int32)), .val (.int (26 : Int32)), .val (.ref b1), .unset, .unset] [(.int (26 : Int32)), (.int (0 : Int32)), (.ref b1), (.int (0 : Int32)), (.ref ca)])) rfl (by rw [hml]; rfl) (argsL := [(.ref ca), (.int (0 : Int32)), (.ref b1), (.int (0 : Int32)), (.int (26 : Int32))]) (rest := []) (lenOf pd_5 rfl) rfl (by show 2 * 0 + _ ≤ _; exact Nat.le_of_eq rfl) (hb hby d19_9) (fun _ _ => ⟨rfl, e1, (Nat.le_trans (Nat.add_le_add_right (Nat.add_le_add_right (Nat.le_refl 0) 1) 0) (by decide)), (Nat.le_trans (Nat.add_le_add_right (Nat.add_le_add_right (Nat.le_refl 0) 26) 0) (by decide))⟩)
  dsimp only [Pt.U, Pt.locs, Pt.cells, Pt.slots] at X4 l4 y4 z4 st4 hQ4
  subst l4 y4 z4
  obtain ⟨rfl, N4q, Kq4, pf4_0⟩ := hQ4
  have G5 : VA Z T4.heap ca .char ([c0, c1, c2, c3, c4, c5, c6, c7, c8, c9, c10, c11, c12, c13, c14, c15, c16, c17, c18, c19, c20, c21, c22, c23, c24, c25].map Value.int) := G2.keep Kq4 (ninS ne_ca_b1 nin0)
  have K4 : Keep h0 T4.heap [] := Keep.trans K1 Kq4 (allS (Or.inr sz_b1) all0)
  have Z4 : n0 ≤ T4.heap.size := Nat.le_trans Z0 K4.1
  have N4 := Fr.app N0 N4q
  refine Go.step (T' := T4) (f' := (mkF m 58 #[.val (.ref ca), .val (.int (0 : Int32)), .val (.int (26 : Int32)), .val (.ref b1), .val (.int (26 : Int32)), .unset] [(.ref b1)])) (fun t kt => ?_) ?_
  · show Steps p.tables e below (s₁.setTop (mkF m 0 #[.val (.ref ca), .val (.int (0 : Int32)), .val (.int (26 : Int32)), .unset, .unset, .unset] [])) _
    refine XS.iloadN X0.here hx rfl (hb hby d19_0) rfl ?_
    show Steps p.tables e below (s₁.setTop (mkF m 1 #[.val (.ref ca), .val (.int (0 : Int32)), .val (.int (26 : Int32)), .unset, .unset, .unset] [(.int (26 : Int32))])) _
    refine st1 _ ?_
    show Steps p.tables e below (T1.setTop (mkF m 3 #[.val (.ref ca), .val (.int (0 : Int32)), .val (.int (26 : Int32)), .unset, .unset, .unset] [(.ref b1)])) _
    refine XS.astoreN X1.here hx rfl (hb hby d19_3) rfl rfl (l' := #[.val (.ref ca), .val (.int (0 : Int32)), .val (.int (26 : Int32)), .val (.ref b1), .unset, .unset]) rfl ?_
    show Steps p.tables e below (T1.setTop (mkF m 4 #[.val (.ref ca), .val (.int (0 : Int32)), .val (.int (26 : Int32)), .val (.ref b1), .unset, .unset] [])) _
    refine XS.aloadN X1.here hx rfl (hb hby d19_4) rfl rfl ?_
    show Steps p.tables e below (T1.setTop (mkF m 5 #[.val (.ref ca), .val (.int (0 : Int32)), .val (.int (26 : Int32)), .val (.ref b1), .unset, .unset] [(.ref ca)])) _
    refine XS.iloadN X1.here hx rfl (hb hby d19_5) rfl ?_
    show Steps p.tables e below (T1.setTop (mkF m 6 #[.val (.ref ca), .val (.int (0 : Int32)), .val (.int (26 : Int32)), .val (.ref b1), .unset, .unset] [(.int (0 : Int32)), (.ref ca)])) _
    refine XS.aloadN X1.here hx rfl (hb hby d19_6) rfl rfl ?_
    show Steps p.tables e below (T1.setTop (mkF m 7 #[.val (.ref ca), .val (.int (0 : Int32)), .val (.int (26 : Int32)), .val (.ref b1), .unset, .unset] [(.ref b1), (.int (0 : Int32)), (.ref ca)])) _
    refine XS.iconst X1.here hx rfl (hb hby d19_7) ?_
    show Steps p.tables e below (T1.setTop (mkF m 8 #[.val (.ref ca), .val (.int (0 : Int32)), .val (.int (26 : Int32)), .val (.ref b1), .unset, .unset] [(.int (0 : Int32)), (.ref b1), (.int (0 : Int32)), (.ref ca)])) _
    refine XS.iloadN X1.here hx rfl (hb hby d19_8) rfl ?_
    show Steps p.tables e below (T1.setTop (mkF m 9 #[.val (.ref ca), .val (.int (0 : Int32)), .val (.int (26 : Int32)), .val (.ref b1), .unset, .unset] [(.int (26 : Int32)), (.int (0 : Int32)), (.ref b1), (.int (0 : Int32)), (.ref ca)])) _
    refine st4 _ ?_
    show Steps p.tables e below (T4.setTop (mkF m 12 #[.val (.ref ca), .val (.int (0 : Int32)), .val (.int (26 : Int32)), .val (.ref b1), .unset, .unset] [(.int (26 : Int32))])) _
    refine XS.istore X4.here hx rfl (hb hby d19_12) rfl (l' := #[.val (.ref ca), .val (.int (0 : Int32)), .val (.int (26 : Int32)), .val (.ref b1), .val (.int (26 : Int32)), .unset]) rfl ?_
    show Steps p.tables e below (T4.setTop (mkF m 14 #[.val (.ref ca), .val (.int (0 : Int32)), .val (.int (26 : Int32)), .val (.ref b1), .val (.int (26 : Int32)), .unset] [])) _
    refine XS.iload X4.here hx rfl (hb hby d19_14) rfl ?_
    show Steps p.tables e below (T4.setTop (mkF m 16 #[.val (.ref ca), .val (.int (0 : Int32)), .val (.int (26 : Int32)), .val (.ref b1), .val (.int (26 : Int32)), .unset] [(.int (26 : Int32))])) _
    refine XS.iloadN X4.here hx rfl (hb hby d19_16) rfl ?_
    show Steps p.tables e below (T4.setTop (mkF m 17 #[.val (.ref ca), .val (.int (0 : Int32)), .val (.int (26 : Int32)), .val (.ref b1), .val (.int (26 : Int32)), .unset] [(.int (26 : Int32)), (.int (26 : Int32))])) _
    refine XS.icmpYes X4.here hx rfl (pc0 := 17) (pc' := 57) rfl (hb hby d19_17) rfl (teq (by decide : ((26 : Int32) = (26 : Int32)))).1 (by decide) (by decide) ?_
    show Steps p.tables e below (T4.setTop (mkF m 57 #[.val (.ref ca), .val (.int (0 : Int32)), .val (.int (26 : Int32)), .val (.ref b1), .val (.int (26 : Int32)), .unset] [])) _
    refine XS.aloadN X4.here hx rfl (hb hby d19_57) rfl rfl ?_
    exact kt
  refine Go.fin X4 (v := some (.ref b1)) (fun h => by rw [Bd.returns] at h; cases h) Bd.notSynchronized ?_ (Nat.le_trans (Nat.add_le_add_right (Nat.add_le_add_right (Nat.le_refl 0) 1) 0) (by decide)) (Nat.le_trans (Nat.add_le_add_right (Nat.add_le_add_right (Nat.le_refl 0) 26) 0) (by decide)) (fun fs hr => X4.areturnOut hx rfl Bd.returns rfl (hb hby d19_58) hr)
  · show Qcp3 Z ca c0 c1 c2 c3 c4 c5 c6 c7 c8 c9 c10 c11 c12 c13 c14 c15 c16 c17 c18 c19 c20 c21 c22 c23 c24 c25 h0 n0 _ T4.heap _
    exact ⟨b1, rfl, N4, K4, sz_b1, pf4_0⟩
theorem d21_0 : decode jdk_52_method_15_code 0 = .ok (.iload_n 1, 1) := by decide +kernel
theorem d21_1 : decode jdk_52_method_15_code 1 = .ok (.aload_n 0, 1) := by decide +kernel
theorem d21_2 : decode jdk_52_method_15_code 2 = .ok (.arraylength, 1) := by decide +kernel
theorem d21_3 : decode jdk_52_method_15_code 3 = .ok (.isub, 1) := by decide +kernel
theorem d21_4 : decode jdk_52_method_15_code 4 = .ok (.bipush 31, 2) := by decide +kernel
theorem d21_6 : decode jdk_52_method_15_code 6 = .ok (.iushr, 1) := by decide +kernel
theorem d21_7 : decode jdk_52_method_15_code 7 = .ok (.i2b, 1) := by decide +kernel
theorem d21_8 : decode jdk_52_method_15_code 8 = .ok (.ireturn, 1) := by decide +kernel
theorem ef_cfa (m : MethodId) (x0 : Addr) (x1 : Int32) : entryFrame m #[(.ref x0), (.int x1)] 2 = mkF m 0 #[.val (.ref x0), .val (.int x1)] [] := by first | (simp [entryFrame, mkF, argsToLocals, Value.category]; done) | rfl
def Qcfa (Z : State) (bb : Addr) (c0 : Int32) (c1 : Int32) (c2 : Int32) (c3 : Int32) (c4 : Int32) (c5 : Int32) (c6 : Int32) (c7 : Int32) (c8 : Int32) (c9 : Int32) (c10 : Int32) (c11 : Int32) (c12 : Int32) (c13 : Int32) (c14 : Int32) (c15 : Int32) (c16 : Int32) (c17 : Int32) (c18 : Int32) (c19 : Int32) (c20 : Int32) (c21 : Int32) (c22 : Int32) (c23 : Int32) (c24 : Int32) (c25 : Int32) (h0 : Heap) (n0 : Nat) (v : Option Value) (h : Heap) (L : List Loc) : Prop := v = some (.int (0 : Int32)) ∧ Fr n0 L ∧ h = h0
set_option maxRecDepth 65536 in
set_option maxHeartbeats 40000000 in
theorem rm_cfa (l : Launch) (Z : State) (a0 : Array Value) (hw : ∀ d ∈ tables_1, d.before a0 Z = true) (ws : List Jvm.Cond) (bb : Addr) (c0 : Int32) (c1 : Int32) (c2 : Int32) (c3 : Int32) (c4 : Int32) (c5 : Int32) (c6 : Int32) (c7 : Int32) (c8 : Int32) (c9 : Int32) (c10 : Int32) (c11 : Int32) (c12 : Int32) (c13 : Int32) (c14 : Int32) (c15 : Int32) (c16 : Int32) (c17 : Int32) (c18 : Int32) (c19 : Int32) (c20 : Int32) (c21 : Int32) (c22 : Int32) (c23 : Int32) (c24 : Int32) (c25 : Int32) (h0 : Heap) (n0 : Nat) (Z0 : n0 ≤ h0.size) (F0 : VA Z h0 bb .byte ([c0, c1, c2, c3, c4, c5, c6, c7, c8, c9, c10, c11, c12, c13, c14, c15, c16, c17, c18, c19, c20, c21, c22, c23, c24, c25].map Value.int)) :
    MetFree l (⟨"java/lang/StringUTF16", "coderFromArrayLen", "([BI)B"⟩ : MethodName) (head1 (Jvm.Cond.code (⟨"java/lang/StringUTF16", "coderFromArrayLen", "([BI)B"⟩ : MethodName) jdk_52_method_15_code 2 (some .byte) :: ws) ({ frames := 0, cells := 0, slots := 0, locals := 0 } : Room)) (fun A_ U => A_ = #[(.ref bb), (.int (26 : Int32))] ∧ Z.Warmed39 U.vm ∧ U.heap = h0) (fun _ _ _ _ _ => True) (fun _ U o U' => ∃ v L, o = .returned v ∧ Qcfa Z bb c0 c1 c2 c3 c4 c5 c6 c7 c8 c9 c10 c11 c12 c13 c14 c15 c16 c17 c18 c19 c20 c21 c22 c23 c24 c25 h0 n0 v U'.heap L ∧ FrameEnd U o U' L ({ frames := 0, cells := 0, slots := 0, locals := 0 } : Room).cells ({ frames := 0, cells := 0, slots := 0, locals := 0 } : Room).slots) := by
  refine MetFree.of_bodySF (plainFor_of_name pn_3) hisR ?_
  intro p e s m args below meth c s₁ Bd hml0 hP hK
  obtain ⟨rfl, hZ, hh⟩ := hP
  have hx := Bd.exec
  have hby := Bd.bytes
  have hml : c.maxLocals = 2 := hml0
  have hown : s.vm.findClass "java/lang/StringUTF16" = some m.cls := findClass_of_methodNamed Bd.named
  have hnm := (name_of_methodNamed Bd.named Bd.method).1
  have X0 : Stand p l e ({ frames := 0, cells := 0, slots := 0, locals := 0 } : Room) s m #[(.ref bb), (.int (26 : Int32))] below meth c s₁ [] 0 0 := Stand.of_body Bd
  have e0 : s₁.heap = h0 := by rw [← hh, Bd.state]; rfl
  have N0 := Fr.nil n0
  suffices HGO : Go p e below s (Qcfa Z bb c0 c1 c2 c3 c4 c5 c6 c7 c8 c9 c10 c11 c12 c13 c14 c15 c16 c17 c18 c19 c20 c21 c22 c23 c24 c25 h0 n0) ({ frames := 0, cells := 0, slots := 0, locals := 0 } : Room).cells ({ frames := 0, cells := 0, slots := 0, locals := 0 } : Room).slots s₁ (mkF m 0 #[.val (.ref bb), .val (.int (26 : Int32))] []) from Go.cast (ef_cfa m bb (26 : Int32)) HGO
  have ln1 : (([c0, c1, c2, c3, c4, c5, c6, c7, c8, c9, c10, c11, c12, c13, c14, c15, c16, c17, c18, c19, c20, c21, c22, c23, c24, c25].map Value.int).length : Int) = ((26 : Int32)).toInt := (by rfl)
  refine Go.step (T' := s₁) (f' := (mkF m 8 #[.val (.ref bb), .val (.int (26 : Int32))] [(.int ((((0 : Int32).toUInt32 >>> ((31 : Int32) &&& 31).toUInt32).toInt32).toInt8.toInt32))])) (fun t kt => ?_) ?_
  · show Steps p.tables e below (s₁.setTop (mkF m 0 #[.val (.ref bb), .val (.int (26 : Int32))] [])) _
    refine XS.iloadN X0.here hx rfl (hb hby d21_0) rfl ?_
    show Steps p.tables e below (s₁.setTop (mkF m 1 #[.val (.ref bb), .val (.int (26 : Int32))] [(.int (26 : Int32))])) _
    refine XS.aloadN X0.here hx rfl (hb hby d21_1) rfl rfl ?_
    show Steps p.tables e below (s₁.setTop (mkF m 2 #[.val (.ref bb), .val (.int (26 : Int32))] [(.ref bb), (.int (26 : Int32))])) _
    refine lenA X0 hx hZ e0 F0 (n := (26 : Int32)) ln1 (g := (mkF m 2 #[.val (.ref bb), .val (.int (26 : Int32))] [(.ref bb), (.int (26 : Int32))])) rfl rfl (hb hby d21_2) _ ?_
    show Steps p.tables e below (s₁.setTop (mkF m 3 #[.val (.ref bb), .val (.int (26 : Int32))] [(.int (26 : Int32)), (.int (26 : Int32))])) _
    refine XS.isub X0.here hx rfl (hb hby d21_3) rfl ?_
    show Steps p.tables e below (s₁.setTop (mkF m 4 #[.val (.ref bb), .val (.int (26 : Int32))] [(.int (0 : Int32))])) _
    refine XS.bipush X0.here hx rfl (hb hby d21_4) ?_
    show Steps p.tables e below (s₁.setTop (mkF m 6 #[.val (.ref bb), .val (.int (26 : Int32))] [(.int (31 : Int32)), (.int (0 : Int32))])) _
    refine XS.iushr X0.here hx rfl (hb hby d21_6) rfl ?_
    show Steps p.tables e below (s₁.setTop (mkF m 7 #[.val (.ref bb), .val (.int (26 : Int32))] [(.int (((0 : Int32).toUInt32 >>> ((31 : Int32) &&& 31).toUInt32).toInt32))])) _
    refine XS.i2b X0.here hx rfl (hb hby d21_7) rfl ?_
    exact kt
  refine Go.fin X0 (v := some (.int (nar .byte ((((0 : Int32).toUInt32 >>> ((31 : Int32) &&& 31).toUInt32).toInt32).toInt8.toInt32)))) (fun h => by rw [Bd.returns] at h; cases h) Bd.notSynchronized ?_ (Nat.le_trans (Nat.le_refl 0) (by decide)) (Nat.le_trans (Nat.le_refl 0) (by decide)) (fun fs hr => retN X0 hx (t := .byte) Bd.returns (by simp) (hb hby d21_8) hr)
  · show Qcfa Z bb c0 c1 c2 c3 c4 c5 c6 c7 c8 c9 c10 c11 c12 c13 c14 c15 c16 c17 c18 c19 c20 c21 c22 c23 c24 c25 h0 n0 _ s₁.heap _
    exact ⟨congrArg (fun z => some (Value.int z)) (by decide), N0, e0⟩
theorem pd_6 : parseMethodDescriptor "([CII)[B" = some ⟨[(.array .char), .int, .int], some (.array .byte)⟩ := by decide +kernel
theorem pd_7 : parseMethodDescriptor "([BI)B" = some ⟨[(.array .byte), .int], some .byte⟩ := by decide +kernel
theorem d18_0 : decode jdk_42_method_149_code 0 = .ok (.aload_n 0, 1) := by decide +kernel
theorem d18_1 : decode jdk_42_method_149_code 1 = .ok (.invokespecial 1, 3) := by decide +kernel
theorem d18_4 : decode jdk_42_method_149_code 4 = .ok (.iload_n 3, 1) := by decide +kernel
theorem d18_5 : decode jdk_42_method_149_code 5 = .ok (.ifCond .ne 22, 3) := by decide +kernel
theorem d18_27 : decode jdk_42_method_149_code 27 = .ok (.getstatic 38, 3) := by decide +kernel
theorem d18_30 : decode jdk_42_method_149_code 30 = .ok (.ifCond .eq 28, 3) := by decide +kernel
theorem d18_33 : decode jdk_42_method_149_code 33 = .ok (.aload_n 1, 1) := by decide +kernel
theorem d18_34 : decode jdk_42_method_149_code 34 = .ok (.iload_n 2, 1) := by decide +kernel
theorem d18_35 : decode jdk_42_method_149_code 35 = .ok (.iload_n 3, 1) := by decide +kernel
theorem d18_36 : decode jdk_42_method_149_code 36 = .ok (.invokestatic 177, 3) := by decide +kernel
theorem d18_39 : decode jdk_42_method_149_code 39 = .ok (.astore 5, 2) := by decide +kernel
theorem d18_41 : decode jdk_42_method_149_code 41 = .ok (.aload_n 0, 1) := by decide +kernel
theorem d18_42 : decode jdk_42_method_149_code 42 = .ok (.aload 5, 2) := by decide +kernel
theorem d18_44 : decode jdk_42_method_149_code 44 = .ok (.iload_n 3, 1) := by decide +kernel
theorem d18_45 : decode jdk_42_method_149_code 45 = .ok (.invokestatic 47, 3) := by decide +kernel
theorem d18_48 : decode jdk_42_method_149_code 48 = .ok (.putfield 15, 3) := by decide +kernel
theorem d18_51 : decode jdk_42_method_149_code 51 = .ok (.aload_n 0, 1) := by decide +kernel
theorem d18_52 : decode jdk_42_method_149_code 52 = .ok (.aload 5, 2) := by decide +kernel
theorem d18_54 : decode jdk_42_method_149_code 54 = .ok (.putfield 9, 3) := by decide +kernel
theorem d18_57 : decode jdk_42_method_149_code 57 = .ok (.return_, 1) := by decide +kernel
theorem ef_in4 (m : MethodId) (x0 : Addr) (x1 : Addr) (x2 : Int32) (x3 : Int32) : entryFrame m #[(.ref x0), (.ref x1), (.int x2), (.int x3), .null] 6 = mkF m 0 #[.val (.ref x0), .val (.ref x1), .val (.int x2), .val (.int x3), .val .null, .unset] [] := by first | (simp [entryFrame, mkF, argsToLocals, Value.category]; done) | rfl
def Qin4 (Z : State) (a : Addr) (ca : Addr) (c0 : Int32) (c1 : Int32) (c2 : Int32) (c3 : Int32) (c4 : Int32) (c5 : Int32) (c6 : Int32) (c7 : Int32) (c8 : Int32) (c9 : Int32) (c10 : Int32) (c11 : Int32) (c12 : Int32) (c13 : Int32) (c14 : Int32) (c15 : Int32) (c16 : Int32) (c17 : Int32) (c18 : Int32) (c19 : Int32) (c20 : Int32) (c21 : Int32) (c22 : Int32) (c23 : Int32) (c24 : Int32) (c25 : Int32) (cs : Int32) (h0 : Heap) (n0 : Nat) (v : Option Value) (h : Heap) (L : List Loc) : Prop := ∃ (bb : Addr), v = none ∧ Fr n0 L ∧ Keep h0 h [a] ∧ h0.size ≤ bb ∧ Fld Z h a "java/lang/String" "value" "[B" (.ref bb) ∧ Fld Z h a "java/lang/String" "coder" "B" (.int (0 : Int32)) ∧ VA Z h bb .byte ([(nar .byte (c0.toInt8.toInt32)), (nar .byte (c1.toInt8.toInt32)), (nar .byte (c2.toInt8.toInt32)), (nar .byte (c3.toInt8.toInt32)), (nar .byte (c4.toInt8.toInt32)), (nar .byte (c5.toInt8.toInt32)), (nar .byte (c6.toInt8.toInt32)), (nar .byte (c7.toInt8.toInt32)), (nar .byte (c8.toInt8.toInt32)), (nar .byte (c9.toInt8.toInt32)), (nar .byte (c10.toInt8.toInt32)), (nar .byte (c11.toInt8.toInt32)), (nar .byte (c12.toInt8.toInt32)), (nar .byte (c13.toInt8.toInt32)), (nar .byte (c14.toInt8.toInt32)), (nar .byte (c15.toInt8.toInt32)), (nar .byte (c16.toInt8.toInt32)), (nar .byte (c17.toInt8.toInt32)), (nar .byte (c18.toInt8.toInt32)), (nar .byte (c19.toInt8.toInt32)), (nar .byte (c20.toInt8.toInt32)), (nar .byte (c21.toInt8.toInt32)), (nar .byte (c22.toInt8.toInt32)), (nar .byte (c23.toInt8.toInt32)), (nar .byte (c24.toInt8.toInt32)), (nar .byte (c25.toInt8.toInt32))].map Value.int)
set_option maxRecDepth 65536 in
set_option maxHeartbeats 40000000 in
theorem rm_in4 (l : Launch) (Z : State) (a0 : Array Value) (hw : ∀ d ∈ tables_1, d.before a0 Z = true) (ws : List Jvm.Cond) (a : Addr) (ca : Addr) (c0 : Int32) (c1 : Int32) (c2 : Int32) (c3 : Int32) (c4 : Int32) (c5 : Int32) (c6 : Int32) (c7 : Int32) (c8 : Int32) (c9 : Int32) (c10 : Int32) (c11 : Int32) (c12 : Int32) (c13 : Int32) (c14 : Int32) (c15 : Int32) (c16 : Int32) (c17 : Int32) (c18 : Int32) (c19 : Int32) (c20 : Int32) (c21 : Int32) (c22 : Int32) (c23 : Int32) (c24 : Int32) (c25 : Int32) (cs : Int32) (h0 : Heap) (n0 : Nat) (Z0 : n0 ≤ h0.size) (F0 : Exa Z h0 a "java/lang/String") (F1 : Fld Z h0 a "java/lang/String" "value" "[B" .null) (F2 : Fld Z h0 a "java/lang/String" "coder" "B" (.int (0 : Int32))) (F3 : VA Z h0 ca .char ([c0, c1, c2, c3, c4, c5, c6, c7, c8, c9, c10, c11, c12, c13, c14, c15, c16, c17, c18, c19, c20, c21, c22, c23, c24, c25].map Value.int)) (F4 : Sta Z h0 "java/lang/String" "COMPACT_STRINGS" "Z" (.int cs)) (g_a : n0 ≤ a) (ne_a_ca : a ≠ ca) (hcs : ¬ cs = (0 : Int32)) (hle : ∀ x ∈ [c0, c1, c2, c3, c4, c5, c6, c7, c8, c9, c10, c11, c12, c13, c14, c15, c16, c17, c18, c19, c20, c21, c22, c23, c24, c25], ¬ (255 : Int32) < x) :
    MetFree l (⟨"java/lang/String", "<init>", "([CIILjava/lang/Void;)V"⟩ : MethodName) (head1 (Jvm.Cond.code (⟨"java/lang/String", "<init>", "([CIILjava/lang/Void;)V"⟩ : MethodName) jdk_42_method_149_code 6 none :: ws) ({ frames := 2, cells := 1, slots := 26, locals := 35 } : Room)) (fun A_ U => A_ = #[(.ref a), (.ref ca), (.int (0 : Int32)), (.int (26 : Int32)), .null] ∧ Z.Warmed39 U.vm ∧ U.heap = h0) (fun _ _ _ _ _ => True) (fun _ U o U' => ∃ v L, o = .returned v ∧ Qin4 Z a ca c0 c1 c2 c3 c4 c5 c6 c7 c8 c9 c10 c11 c12 c13 c14 c15 c16 c17 c18 c19 c20 c21 c22 c23 c24 c25 cs h0 n0 v U'.heap L ∧ FrameEnd U o U' L ({ frames := 2, cells := 1, slots := 26, locals := 35 } : Room).cells ({ frames := 2, cells := 1, slots := 26, locals := 35 } : Room).slots) := by
  refine MetFree.of_bodySF (plainFor_of_name pn_0) hisR ?_
  intro p e s m args below meth c s₁ Bd hml0 hP hK
  obtain ⟨rfl, hZ, hh⟩ := hP
  have hx := Bd.exec
  have hby := Bd.bytes
  have hml : c.maxLocals = 6 := hml0
  have hown : s.vm.findClass "java/lang/String" = some m.cls := findClass_of_methodNamed Bd.named
  have hnm := (name_of_methodNamed Bd.named Bd.method).1
  have X0 : Stand p l e ({ frames := 2, cells := 1, slots := 26, locals := 35 } : Room) s m #[(.ref a), (.ref ca), (.int (0 : Int32)), (.int (26 : Int32)), .null] below meth c s₁ [] 0 0 := Stand.of_body Bd
  have e0 : s₁.heap = h0 := by rw [← hh, Bd.state]; rfl
  have N0 := Fr.nil n0
  suffices HGO : Go p e below s (Qin4 Z a ca c0 c1 c2 c3 c4 c5 c6 c7 c8 c9 c10 c11 c12 c13 c14 c15 c16 c17 c18 c19 c20 c21 c22 c23 c24 c25 cs h0 n0) ({ frames := 2, cells := 1, slots := 26, locals := 35 } : Room).cells ({ frames := 2, cells := 1, slots := 26, locals := 35 } : Room).slots s₁ (mkF m 0 #[.val (.ref a), .val (.ref ca), .val (.int (0 : Int32)), .val (.int (26 : Int32)), .val .null, .unset] []) from Go.cast (ef_in4 m a ca (0 : Int32) (26 : Int32)) HGO
  obtain ⟨T1, X1, e1, st1⟩ := initO X0 hx hZ hown (hw _ (List.mem_of_getElem? (i := 98) rfl)) (hw _ (List.mem_of_getElem? (i := 12) rfl)) (hw _ (List.mem_of_getElem? (i := 13) rfl)) e0 (g := (mkF m 1 #[.val (.ref a), .val (.ref ca), .val (.int (0 : Int32)), .val (.int (26 : Int32)), .val .null, .unset] [(.ref a)])) rfl (by rw [hml]; rfl) rfl (hb hby d18_1) (by decide) (W := 0) (by show 2 * 0 + _ ≤ _; exact Nat.le_of_eq rfl) (by decide)
  obtain ⟨T2, X2, e2, st2⟩ := getS2 X1 hx hZ hown (host := "") (Or.inl (hw _ (List.mem_of_getElem? (i := 75) rfl))) Via.refl e1 F4 (g := (mkF m 27 #[.val (.ref a), .val (.ref ca), .val (.int (0 : Int32)), .val (.int (26 : Int32)), .val .null, .unset] [])) rfl (hb hby d18_27)
  refine Go.step (T' := T2) (f' := (mkF m 30 #[.val (.ref a), .val (.ref ca), .val (.int (0 : Int32)), .val (.int (26 : Int32)), .val .null, .unset] [(.int cs)])) (fun t kt => ?_) ?_
  · show Steps p.tables e below (s₁.setTop (mkF m 0 #[.val (.ref a), .val (.ref ca), .val (.int (0 : Int32)), .val (.int (26 : Int32)), .val .null, .unset] [])) _
    refine XS.aloadN X0.here hx rfl (hb hby d18_0) rfl rfl ?_
    show Steps p.tables e below (s₁.setTop (mkF m 1 #[.val (.ref a), .val (.ref ca), .val (.int (0 : Int32)), .val (.int (26 : Int32)), .val .null, .unset] [(.ref a)])) _
    refine st1 _ ?_
    show Steps p.tables e below (T1.setTop (mkF m 4 #[.val (.ref a), .val (.ref ca), .val (.int (0 : Int32)), .val (.int (26 : Int32)), .val .null, .unset] [])) _
    refine XS.iloadN X1.here hx rfl (hb hby d18_4) rfl ?_
    show Steps p.tables e below (T1.setTop (mkF m 5 #[.val (.ref a), .val (.ref ca), .val (.int (0 : Int32)), .val (.int (26 : Int32)), .val .null, .unset] [(.int (26 : Int32))])) _
    refine XS.ifYes X1.here hx rfl (pc0 := 5) (pc' := 27) rfl (hb hby d18_5) rfl ((if0 _ _).trans (feq (by decide : ¬ ((26 : Int32) = (0 : Int32)))).2) (by decide) (by decide) ?_
    show Steps p.tables e below (T1.setTop (mkF m 27 #[.val (.ref a), .val (.ref ca), .val (.int (0 : Int32)), .val (.int (26 : Int32)), .val .null, .unset] [])) _
    refine st2 _ ?_
    exact kt
  have hd3 : ¬ (cs = (0 : Int32)) := hcs
  obtain ⟨_, _, ⟨T4, L4, k4, n4⟩, -, X4, ⟨Lc4, hQ4, l4, y4, z4⟩, st4⟩ := Jvm.LawKit.callS X2 hx (y := (⟨"java/lang/StringUTF16", "compress", "([CII)[B"⟩ : MethodName)) hown (mvT hZ (hw _ (List.mem_of_getElem? (i := 99) rfl))) (mvT hZ (hw _ (List.mem_of_getElem? (i := 100) rfl))) (mvT hZ (hw _ (List.mem_of_getElem? (i := 101) rfl))) (mvT hZ (hw _ (List.mem_of_getElem? (i := 102) rfl))) (by decide) (backOf (W := 0) (rm_cp3 l Z a0 hw [] ca c0 c1 c2 c3 c4 c5 c6 c7 c8 c9 c10 c11 c12 c13 c14 c15 c16 c17 c18 c19 c20 c21 c22 c23 c24 c25 h0 n0 Z0 F3 hle) hZ (hw _ (List.mem_of_getElem? (i := 102) rfl)) (hw _ (List.mem_of_getElem? (i := 101) rfl)) (by decide) (by decide)) (g := (mkF m 36 #[.val (.ref a), .val (.ref ca), .val (.int (0 : Int32)), .val (.int (26 : Int32)), .val .null, .unset] [(.int (26 : Int32)), (.int (0 : Int32)), (.ref ca)])) rfl (by rw [hml]; rfl) (argsL := [(.ref ca), (.int (0 : Int32)), (.int (26 : Int32))]) (rest := []) (lenOf pd_6 rfl) rfl (by show 2 * 0 + _ ≤ _; exact Nat.le_of_eq rfl) (hb hby d18_36) (fun _ _ => ⟨rfl, e2, (Nat.le_trans (Nat.add_le_add_right (Nat.le_refl 0) 1) (by decide)), (Nat.le_trans (Nat.add_le_add_right (Nat.le_refl 0) 26) (by decide))⟩)
  dsimp only [Pt.U, Pt.locs, Pt.cells, Pt.slots] at X4 l4 y4 z4 st4 hQ4
  subst l4 y4 z4
  obtain ⟨bb_4, rfl, N4q, Kq4, fz_bb_4, pf4_0⟩ := hQ4
  have oldlt_4_a : a < h0.size := F0.lt
  have oldlt_4_ca : ca < h0.size := F3.lt
  have G5 : Exa Z T4.heap a "java/lang/String" := Exa.keep F0 Kq4
  have G6 : Fld Z T4.heap a "java/lang/String" "value" "[B" .null := F1.keep Kq4 nin0
  have G7 : Fld Z T4.heap a "java/lang/String" "coder" "B" (.int (0 : Int32)) := F2.keep Kq4 nin0
  have G8 : VA Z T4.heap ca .char ([c0, c1, c2, c3, c4, c5, c6, c7, c8, c9, c10, c11, c12, c13, c14, c15, c16, c17, c18, c19, c20, c21, c22, c23, c24, c25].map Value.int) := F3.keep Kq4 nin0
  have G9 : Sta Z T4.heap "java/lang/String" "COMPACT_STRINGS" "Z" (.int cs) := F4.keep0 Kq4
  have ne_a_bb_4 : a ≠ bb_4 := Nat.ne_of_lt (Nat.lt_of_lt_of_le oldlt_4_a fz_bb_4)
  have ne_ca_bb_4 : ca ≠ bb_4 := Nat.ne_of_lt (Nat.lt_of_lt_of_le oldlt_4_ca fz_bb_4)
  have g_bb_4 : n0 ≤ bb_4 := Nat.le_trans Z0 fz_bb_4
  have sz_bb_4 : h0.size ≤ bb_4 := Nat.le_trans (Keep.refl h0 [a]).1 fz_bb_4
  have K4 : Keep h0 T4.heap [a] := Keep.trans (Keep.refl h0 [a]) Kq4 all0
  have Z4 : n0 ≤ T4.heap.size := Nat.le_trans Z0 K4.1
  have N4 := Fr.app N0 N4q
  obtain ⟨_, _, ⟨T10, L10, k10, n10⟩, -, X10, ⟨Lc10, hQ10, l10, y10, z10⟩, st10⟩ := Jvm.LawKit.callS X4 hx (y := (⟨"java/lang/StringUTF16", "coderFromArrayLen", "([BI)B"⟩ : MethodName)) hown (mvT hZ (hw _ (List.mem_of_getElem? (i := 106) rfl))) (mvT hZ (hw _ (List.mem_of_getElem? (i := 107) rfl))) (mvT hZ (hw _ (List.mem_of_getElem? (i := 101) rfl))) (mvT hZ (hw _ (List.mem_of_getElem? (i := 108) rfl))) (by decide) (backOf (W := 1) (rm_cfa l Z a0 hw [] bb_4 (nar .byte (c0.toInt8.toInt32)) (nar .byte (c1.toInt8.toInt32)) (nar .byte (c2.toInt8.toInt32)) (nar .byte (c3.toInt8.toInt32)) (nar .byte (c4.toInt8.toInt32)) (nar .byte (c5.toInt8.toInt32)) (nar .byte (c6.toInt8.toInt32)) (nar .byte (c7.toInt8.toInt32)) (nar .byte (c8.toInt8.toInt32)) (nar .byte (c9.toInt8.toInt32)) (nar .byte (c10.toInt8.toInt32)) (nar .byte (c11.toInt8.toInt32)) (nar .byte (c12.toInt8.toInt32)) (nar .byte (c13.toInt8.toInt32)) (nar .byte (c14.toInt8.toInt32)) (nar .byte (c15.toInt8.toInt32)) (nar .byte (c16.toInt8.toInt32)) (nar .byte (c17.toInt8.toInt32)) (nar .byte (c18.toInt8.toInt32)) (nar .byte (c19.toInt8.toInt32)) (nar .byte (c20.toInt8.toInt32)) (nar .byte (c21.toInt8.toInt32)) (nar .byte (c22.toInt8.toInt32)) (nar .byte (c23.toInt8.toInt32)) (nar .byte (c24.toInt8.toInt32)) (nar .byte (c25.toInt8.toInt32)) T4.heap n0 Z4 pf4_0 ) hZ (hw _ (List.mem_of_getElem? (i := 108) rfl)) (hw _ (List.mem_of_getElem? (i := 101) rfl)) (by decide) (by decide)) (g := (mkF m 45 #[.val (.ref a), .val (.ref ca), .val (.int (0 : Int32)), .val (.int (26 : Int32)), .val .null, .val (.ref bb_4)] [(.int (26 : Int32)), (.ref bb_4), (.ref a)])) rfl (by rw [hml]; rfl) (argsL := [(.ref bb_4), (.int (26 : Int32))]) (rest := [(.ref a)]) (lenOf pd_7 rfl) rfl (by show 2 * 0 + _ ≤ _; exact Nat.le_of_eq rfl) (hb hby d18_45) (fun _ _ => ⟨rfl, rfl, (Nat.le_trans (Nat.add_le_add_right (Nat.add_le_add_right (Nat.le_refl 0) 1) 0) (by decide)), (Nat.le_trans (Nat.add_le_add_right (Nat.add_le_add_right (Nat.le_refl 0) 26) 0) (by decide))⟩)
  dsimp only [Pt.U, Pt.locs, Pt.cells, Pt.slots] at X10 l10 y10 z10 st10 hQ10
  subst l10 y10 z10
  obtain ⟨rfl, N10q, e10⟩ := hQ10
  have N10 := Fr.app N4 N10q
  obtain ⟨T11, h11, X11, e11, W11, st11⟩ := putFN X10 hx hZ hown (hw _ (List.mem_of_getElem? (i := 76) rfl)) Via.refl e10 G7 G5 (Or.inr ⟨(hw _ (List.mem_of_getElem? (i := 62) rfl)), rfl, hnm⟩) (hw _ (List.mem_of_getElem? (i := 59) rfl)) (ty := .byte) (v' := (.int (0 : Int32))) (by decide) rfl (by decide) (g := (mkF m 48 #[.val (.ref a), .val (.ref ca), .val (.int (0 : Int32)), .val (.int (26 : Int32)), .val .null, .val (.ref bb_4)] [(.int (0 : Int32)), (.ref a)])) rfl rfl (hb hby d18_48)
  have G12 : Exa Z h11 a "java/lang/String" := G5.wr W11
  have G13 : Fld Z h11 a "java/lang/String" "value" "[B" .null := G6.other W11 (Or.inr (slot_ne (Or.inr (hw _ (List.mem_of_getElem? (i := 61) rfl))) (Or.inr (hw _ (List.mem_of_getElem? (i := 62) rfl))) (by decide) (t := (.array .byte)) (t' := .byte) (by decide) (by decide)))
  have G14 : Fld Z h11 a "java/lang/String" "coder" "B" (.int (0 : Int32)) := G7.same W11
  have G15 : VA Z h11 ca .char ([c0, c1, c2, c3, c4, c5, c6, c7, c8, c9, c10, c11, c12, c13, c14, c15, c16, c17, c18, c19, c20, c21, c22, c23, c24, c25].map Value.int) := G8.other W11 (Ne.symm ne_a_ca)
  have G16 : Sta Z h11 "java/lang/String" "COMPACT_STRINGS" "Z" (.int cs) := G9.wr W11
  have G17 : VA Z h11 bb_4 .byte ([(nar .byte (c0.toInt8.toInt32)), (nar .byte (c1.toInt8.toInt32)), (nar .byte (c2.toInt8.toInt32)), (nar .byte (c3.toInt8.toInt32)), (nar .byte (c4.toInt8.toInt32)), (nar .byte (c5.toInt8.toInt32)), (nar .byte (c6.toInt8.toInt32)), (nar .byte (c7.toInt8.toInt32)), (nar .byte (c8.toInt8.toInt32)), (nar .byte (c9.toInt8.toInt32)), (nar .byte (c10.toInt8.toInt32)), (nar .byte (c11.toInt8.toInt32)), (nar .byte (c12.toInt8.toInt32)), (nar .byte (c13.toInt8.toInt32)), (nar .byte (c14.toInt8.toInt32)), (nar .byte (c15.toInt8.toInt32)), (nar .byte (c16.toInt8.toInt32)), (nar .byte (c17.toInt8.toInt32)), (nar .byte (c18.toInt8.toInt32)), (nar .byte (c19.toInt8.toInt32)), (nar .byte (c20.toInt8.toInt32)), (nar .byte (c21.toInt8.toInt32)), (nar .byte (c22.toInt8.toInt32)), (nar .byte (c23.toInt8.toInt32)), (nar .byte (c24.toInt8.toInt32)), (nar .byte (c25.toInt8.toInt32))].map Value.int) := pf4_0.other W11 (Ne.symm ne_a_bb_4)
  have N11 := Fr.snoc X11 N10 g_a
  have K11 : Keep h0 h11 [a] := Keep.wr K4 W11 (Or.inl (List.mem_of_getElem? (i := 0) rfl))
  have Z11 : n0 ≤ h11.size := Nat.le_trans Z0 K11.1
  obtain ⟨T18, h18, X18, e18, W18, st18⟩ := putF X11 hx hZ hown (host := "") (Or.inl (hw _ (List.mem_of_getElem? (i := 77) rfl))) Via.refl e11 G13 G12 (Or.inr ⟨(hw _ (List.mem_of_getElem? (i := 61) rfl)), rfl, hnm⟩) (hw _ (List.mem_of_getElem? (i := 59) rfl)) (ty := (.array .byte)) (by decide) rfl rfl (g := (mkF m 54 #[.val (.ref a), .val (.ref ca), .val (.int (0 : Int32)), .val (.int (26 : Int32)), .val .null, .val (.ref bb_4)] [(.ref bb_4), (.ref a)])) rfl rfl (hb hby d18_54)
  have G19 : Exa Z h18 a "java/lang/String" := G12.wr W18
  have G20 : Fld Z h18 a "java/lang/String" "value" "[B" (.ref bb_4) := G13.same W18
  have G21 : Fld Z h18 a "java/lang/String" "coder" "B" (.int (0 : Int32)) := G14.other W18 (Or.inr (slot_ne (Or.inr (hw _ (List.mem_of_getElem? (i := 62) rfl))) (Or.inr (hw _ (List.mem_of_getElem? (i := 61) rfl))) (by decide) (t := .byte) (t' := (.array .byte)) (by decide) (by decide)))
  have G22 : VA Z h18 ca .char ([c0, c1, c2, c3, c4, c5, c6, c7, c8, c9, c10, c11, c12, c13, c14, c15, c16, c17, c18, c19, c20, c21, c22, c23, c24, c25].map Value.int) := G15.other W18 (Ne.symm ne_a_ca)
  have G23 : Sta Z h18 "java/lang/String" "COMPACT_STRINGS" "Z" (.int cs) := G16.wr W18
  have G24 : VA Z h18 bb_4 .byte ([(nar .byte (c0.toInt8.toInt32)), (nar .byte (c1.toInt8.toInt32)), (nar .byte (c2.toInt8.toInt32)), (nar .byte (c3.toInt8.toInt32)), (nar .byte (c4.toInt8.toInt32)), (nar .byte (c5.toInt8.toInt32)), (nar .byte (c6.toInt8.toInt32)), (nar .byte (c7.toInt8.toInt32)), (nar .byte (c8.toInt8.toInt32)), (nar .byte (c9.toInt8.toInt32)), (nar .byte (c10.toInt8.toInt32)), (nar .byte (c11.toInt8.toInt32)), (nar .byte (c12.toInt8.toInt32)), (nar .byte (c13.toInt8.toInt32)), (nar .byte (c14.toInt8.toInt32)), (nar .byte (c15.toInt8.toInt32)), (nar .byte (c16.toInt8.toInt32)), (nar .byte (c17.toInt8.toInt32)), (nar .byte (c18.toInt8.toInt32)), (nar .byte (c19.toInt8.toInt32)), (nar .byte (c20.toInt8.toInt32)), (nar .byte (c21.toInt8.toInt32)), (nar .byte (c22.toInt8.toInt32)), (nar .byte (c23.toInt8.toInt32)), (nar .byte (c24.toInt8.toInt32)), (nar .byte (c25.toInt8.toInt32))].map Value.int) := G17.other W18 (Ne.symm ne_a_bb_4)
  have N18 := Fr.snoc X18 N11 g_a
  have K18 : Keep h0 h18 [a] := Keep.wr K11 W18 (Or.inl (List.mem_of_getElem? (i := 0) rfl))
  have Z18 : n0 ≤ h18.size := Nat.le_trans Z0 K18.1
  refine Go.step (T' := T18) (f' := (mkF m 57 #[.val (.ref a), .val (.ref ca), .val (.int (0 : Int32)), .val (.int (26 : Int32)), .val .null, .val (.ref bb_4)] [])) (fun t kt => ?_) ?_
  · show Steps p.tables e below (T2.setTop (mkF m 30 #[.val (.ref a), .val (.ref ca), .val (.int (0 : Int32)), .val (.int (26 : Int32)), .val .null, .unset] [(.int cs)])) _
    refine XS.ifNo X2.here hx rfl (hb hby d18_30) rfl ((if0 _ _).trans (feq hd3).1) ?_
    show Steps p.tables e below (T2.setTop (mkF m 33 #[.val (.ref a), .val (.ref ca), .val (.int (0 : Int32)), .val (.int (26 : Int32)), .val .null, .unset] [])) _
    refine XS.aloadN X2.here hx rfl (hb hby d18_33) rfl rfl ?_
    show Steps p.tables e below (T2.setTop (mkF m 34 #[.val (.ref a), .val (.ref ca), .val (.int (0 : Int32)), .val (.int (26 : Int32)), .val .null, .unset] [(.ref ca)])) _
    refine XS.iloadN X2.here hx rfl (hb hby d18_34) rfl ?_
    show Steps p.tables e below (T2.setTop (mkF m 35 #[.val (.ref a), .val (.ref ca), .val (.int (0 : Int32)), .val (.int (26 : Int32)), .val .null, .unset] [(.int (0 : Int32)), (.ref ca)])) _
    refine XS.iloadN X2.here hx rfl (hb hby d18_35) rfl ?_
    show Steps p.tables e below (T2.setTop (mkF m 36 #[.val (.ref a), .val (.ref ca), .val (.int (0 : Int32)), .val (.int (26 : Int32)), .val .null, .unset] [(.int (26 : Int32)), (.int (0 : Int32)), (.ref ca)])) _
    refine st4 _ ?_
    show Steps p.tables e below (T4.setTop (mkF m 39 #[.val (.ref a), .val (.ref ca), .val (.int (0 : Int32)), .val (.int (26 : Int32)), .val .null, .unset] [(.ref bb_4)])) _
    refine XS.astore X4.here hx rfl (hb hby d18_39) rfl rfl (l' := #[.val (.ref a), .val (.ref ca), .val (.int (0 : Int32)), .val (.int (26 : Int32)), .val .null, .val (.ref bb_4)]) rfl ?_
    show Steps p.tables e below (T4.setTop (mkF m 41 #[.val (.ref a), .val (.ref ca), .val (.int (0 : Int32)), .val (.int (26 : Int32)), .val .null, .val (.ref bb_4)] [])) _
    refine XS.aloadN X4.here hx rfl (hb hby d18_41) rfl rfl ?_
    show Steps p.tables e below (T4.setTop (mkF m 42 #[.val (.ref a), .val (.ref ca), .val (.int (0 : Int32)), .val (.int (26 : Int32)), .val .null, .val (.ref bb_4)] [(.ref a)])) _
    refine XS.aload X4.here hx rfl (hb hby d18_42) rfl rfl ?_
    show Steps p.tables e below (T4.setTop (mkF m 44 #[.val (.ref a), .val (.ref ca), .val (.int (0 : Int32)), .val (.int (26 : Int32)), .val .null, .val (.ref bb_4)] [(.ref bb_4), (.ref a)])) _
    refine XS.iloadN X4.here hx rfl (hb hby d18_44) rfl ?_
    show Steps p.tables e below (T4.setTop (mkF m 45 #[.val (.ref a), .val (.ref ca), .val (.int (0 : Int32)), .val (.int (26 : Int32)), .val .null, .val (.ref bb_4)] [(.int (26 : Int32)), (.ref bb_4), (.ref a)])) _
    refine st10 _ ?_
    show Steps p.tables e below (T10.setTop (mkF m 48 #[.val (.ref a), .val (.ref ca), .val (.int (0 : Int32)), .val (.int (26 : Int32)), .val .null, .val (.ref bb_4)] [(.int (0 : Int32)), (.ref a)])) _
    refine st11 _ ?_
    show Steps p.tables e below (T11.setTop (mkF m 51 #[.val (.ref a), .val (.ref ca), .val (.int (0 : Int32)), .val (.int (26 : Int32)), .val .null, .val (.ref bb_4)] [])) _
    refine XS.aloadN X11.here hx rfl (hb hby d18_51) rfl rfl ?_
    show Steps p.tables e below (T11.setTop (mkF m 52 #[.val (.ref a), .val (.ref ca), .val (.int (0 : Int32)), .val (.int (26 : Int32)), .val .null, .val (.ref bb_4)] [(.ref a)])) _
    refine XS.aload X11.here hx rfl (hb hby d18_52) rfl rfl ?_
    show Steps p.tables e below (T11.setTop (mkF m 54 #[.val (.ref a), .val (.ref ca), .val (.int (0 : Int32)), .val (.int (26 : Int32)), .val .null, .val (.ref bb_4)] [(.ref bb_4), (.ref a)])) _
    refine st18 _ ?_
    exact kt
  refine Go.fin X18 (v := none) (fun _ => rfl) Bd.notSynchronized ?_ (Nat.le_trans (Nat.add_le_add_right (Nat.add_le_add_right (Nat.le_refl 0) 1) 0) (by decide)) (Nat.le_trans (Nat.add_le_add_right (Nat.add_le_add_right (Nat.le_refl 0) 26) 0) (by decide)) (fun fs hr => X18.returnOut hx Bd.returns (hb hby d18_57) hr)
  · show Qin4 Z a ca c0 c1 c2 c3 c4 c5 c6 c7 c8 c9 c10 c11 c12 c13 c14 c15 c16 c17 c18 c19 c20 c21 c22 c23 c24 c25 cs h0 n0 _ T18.heap _
    rw [e18]
    exact ⟨bb_4, rfl, N18, K18, sz_bb_4, G20, G21, G24⟩
theorem pd_8 : parseMethodDescriptor "([CIILjava/lang/Void;)V" = some ⟨[(.array .char), .int, .int, (.object "java/lang/Void")], none⟩ := by decide +kernel
theorem d17_0 : decode jdk_42_method_3_code 0 = .ok (.aload_n 0, 1) := by decide +kernel
theorem d17_1 : decode jdk_42_method_3_code 1 = .ok (.aload_n 1, 1) := by decide +kernel
theorem d17_2 : decode jdk_42_method_3_code 2 = .ok (.iconst 0, 1) := by decide +kernel
theorem d17_3 : decode jdk_42_method_3_code 3 = .ok (.aload_n 1, 1) := by decide +kernel
theorem d17_4 : decode jdk_42_method_3_code 4 = .ok (.arraylength, 1) := by decide +kernel
theorem d17_5 : decode jdk_42_method_3_code 5 = .ok (.aconst_null, 1) := by decide +kernel
theorem d17_6 : decode jdk_42_method_3_code 6 = .ok (.invokespecial 27, 3) := by decide +kernel
theorem d17_9 : decode jdk_42_method_3_code 9 = .ok (.return_, 1) := by decide +kernel
theorem ef_in1 (m : MethodId) (x0 : Addr) (x1 : Addr) : entryFrame m #[(.ref x0), (.ref x1)] 2 = mkF m 0 #[.val (.ref x0), .val (.ref x1)] [] := by first | (simp [entryFrame, mkF, argsToLocals, Value.category]; done) | rfl
def Qin1 (Z : State) (a : Addr) (ca : Addr) (c0 : Int32) (c1 : Int32) (c2 : Int32) (c3 : Int32) (c4 : Int32) (c5 : Int32) (c6 : Int32) (c7 : Int32) (c8 : Int32) (c9 : Int32) (c10 : Int32) (c11 : Int32) (c12 : Int32) (c13 : Int32) (c14 : Int32) (c15 : Int32) (c16 : Int32) (c17 : Int32) (c18 : Int32) (c19 : Int32) (c20 : Int32) (c21 : Int32) (c22 : Int32) (c23 : Int32) (c24 : Int32) (c25 : Int32) (cs : Int32) (h0 : Heap) (n0 : Nat) (v : Option Value) (h : Heap) (L : List Loc) : Prop := ∃ (bb : Addr), v = none ∧ Fr n0 L ∧ Keep h0 h [a] ∧ h0.size ≤ bb ∧ Fld Z h a "java/lang/String" "value" "[B" (.ref bb) ∧ Fld Z h a "java/lang/String" "coder" "B" (.int (0 : Int32)) ∧ VA Z h bb .byte ([(nar .byte (c0.toInt8.toInt32)), (nar .byte (c1.toInt8.toInt32)), (nar .byte (c2.toInt8.toInt32)), (nar .byte (c3.toInt8.toInt32)), (nar .byte (c4.toInt8.toInt32)), (nar .byte (c5.toInt8.toInt32)), (nar .byte (c6.toInt8.toInt32)), (nar .byte (c7.toInt8.toInt32)), (nar .byte (c8.toInt8.toInt32)), (nar .byte (c9.toInt8.toInt32)), (nar .byte (c10.toInt8.toInt32)), (nar .byte (c11.toInt8.toInt32)), (nar .byte (c12.toInt8.toInt32)), (nar .byte (c13.toInt8.toInt32)), (nar .byte (c14.toInt8.toInt32)), (nar .byte (c15.toInt8.toInt32)), (nar .byte (c16.toInt8.toInt32)), (nar .byte (c17.toInt8.toInt32)), (nar .byte (c18.toInt8.toInt32)), (nar .byte (c19.toInt8.toInt32)), (nar .byte (c20.toInt8.toInt32)), (nar .byte (c21.toInt8.toInt32)), (nar .byte (c22.toInt8.toInt32)), (nar .byte (c23.toInt8.toInt32)), (nar .byte (c24.toInt8.toInt32)), (nar .byte (c25.toInt8.toInt32))].map Value.int)
set_option maxRecDepth 65536 in
set_option maxHeartbeats 40000000 in
theorem rm_in1 (l : Launch) (Z : State) (a0 : Array Value) (hw : ∀ d ∈ tables_1, d.before a0 Z = true) (ws : List Jvm.Cond) (a : Addr) (ca : Addr) (c0 : Int32) (c1 : Int32) (c2 : Int32) (c3 : Int32) (c4 : Int32) (c5 : Int32) (c6 : Int32) (c7 : Int32) (c8 : Int32) (c9 : Int32) (c10 : Int32) (c11 : Int32) (c12 : Int32) (c13 : Int32) (c14 : Int32) (c15 : Int32) (c16 : Int32) (c17 : Int32) (c18 : Int32) (c19 : Int32) (c20 : Int32) (c21 : Int32) (c22 : Int32) (c23 : Int32) (c24 : Int32) (c25 : Int32) (cs : Int32) (h0 : Heap) (n0 : Nat) (Z0 : n0 ≤ h0.size) (F0 : Exa Z h0 a "java/lang/String") (F1 : Fld Z h0 a "java/lang/String" "value" "[B" .null) (F2 : Fld Z h0 a "java/lang/String" "coder" "B" (.int (0 : Int32))) (F3 : VA Z h0 ca .char ([c0, c1, c2, c3, c4, c5, c6, c7, c8, c9, c10, c11, c12, c13, c14, c15, c16, c17, c18, c19, c20, c21, c22, c23, c24, c25].map Value.int)) (F4 : Sta Z h0 "java/lang/String" "COMPACT_STRINGS" "Z" (.int cs)) (g_a : n0 ≤ a) (ne_a_ca : a ≠ ca) (hcs : ¬ cs = (0 : Int32)) (hle : ∀ x ∈ [c0, c1, c2, c3, c4, c5, c6, c7, c8, c9, c10, c11, c12, c13, c14, c15, c16, c17, c18, c19, c20, c21, c22, c23, c24, c25], ¬ (255 : Int32) < x) :
    MetFree l (⟨"java/lang/String", "<init>", "([C)V"⟩ : MethodName) (head1 (Jvm.Cond.code (⟨"java/lang/String", "<init>", "([C)V"⟩ : MethodName) jdk_42_method_3_code 2 none :: ws) ({ frames := 3, cells := 1, slots := 26, locals := 52 } : Room)) (fun A_ U => A_ = #[(.ref a), (.ref ca)] ∧ Z.Warmed39 U.vm ∧ U.heap = h0) (fun _ _ _ _ _ => True) (fun _ U o U' => ∃ v L, o = .returned v ∧ Qin1 Z a ca c0 c1 c2 c3 c4 c5 c6 c7 c8 c9 c10 c11 c12 c13 c14 c15 c16 c17 c18 c19 c20 c21 c22 c23 c24 c25 cs h0 n0 v U'.heap L ∧ FrameEnd U o U' L ({ frames := 3, cells := 1, slots := 26, locals := 52 } : Room).cells ({ frames := 3, cells := 1, slots := 26, locals := 52 } : Room).slots) := by
  refine MetFree.of_bodySF (plainFor_of_name pn_0) hisR ?_
  intro p e s m args below meth c s₁ Bd hml0 hP hK
  obtain ⟨rfl, hZ, hh⟩ := hP
  have hx := Bd.exec
  have hby := Bd.bytes
  have hml : c.maxLocals = 2 := hml0
  have hown : s.vm.findClass "java/lang/String" = some m.cls := findClass_of_methodNamed Bd.named
  have hnm := (name_of_methodNamed Bd.named Bd.method).1
  have X0 : Stand p l e ({ frames := 3, cells := 1, slots := 26, locals := 52 } : Room) s m #[(.ref a), (.ref ca)] below meth c s₁ [] 0 0 := Stand.of_body Bd
  have e0 : s₁.heap = h0 := by rw [← hh, Bd.state]; rfl
  have N0 := Fr.nil n0
  suffices HGO : Go p e below s (Qin1 Z a ca c0 c1 c2 c3 c4 c5 c6 c7 c8 c9 c10 c11 c12 c13 c14 c15 c16 c17 c18 c19 c20 c21 c22 c23 c24 c25 cs h0 n0) ({ frames := 3, cells := 1, slots := 26, locals := 52 } : Room).cells ({ frames := 3, cells := 1, slots := 26, locals := 52 } : Room).slots s₁ (mkF m 0 #[.val (.ref a), .val (.ref ca)] []) from Go.cast (ef_in1 m a ca) HGO
  have ln1 : (([c0, c1, c2, c3, c4, c5, c6, c7, c8, c9, c10, c11, c12, c13, c14, c15, c16, c17, c18, c19, c20, c21, c22, c23, c24, c25].map Value.int).length : Int) = ((26 : Int32)).toInt := (by rfl)
  obtain ⟨_, _, ⟨T2, L2, k2, n2⟩, -, X2, ⟨Lc2, hQ2, l2, y2, z2⟩, st2⟩ := X0.specialBack hx (y := (⟨"java/lang/String", "<init>", "([CIILjava/lang/Void;)V"⟩ : MethodName)) rfl hown (mvT hZ (hw _ (List.mem_of_getElem? (i := 94) rfl))) (mvT hZ (hw _ (List.mem_of_getElem? (i := 95) rfl))) (mvT hZ (hw _ (List.mem_of_getElem? (i := 97) rfl))) (by decide) (backOf (W := 0) (rm_in4 l Z a0 hw [] a ca c0 c1 c2 c3 c4 c5 c6 c7 c8 c9 c10 c11 c12 c13 c14 c15 c16 c17 c18 c19 c20 c21 c22 c23 c24 c25 cs h0 n0 Z0 F0 F1 F2 F3 F4 g_a ne_a_ca hcs hle) hZ (hw _ (List.mem_of_getElem? (i := 97) rfl)) (hw _ (List.mem_of_getElem? (i := 58) rfl)) (by decide) (by decide)) (g := (mkF m 6 #[.val (.ref a), .val (.ref ca)] [.null, (.int (26 : Int32)), (.int (0 : Int32)), (.ref ca), (.ref a)])) rfl (by rw [hml]; rfl) (Steps.refl _) (a := a) (argsL := [(.ref ca), (.int (0 : Int32)), (.int (26 : Int32)), .null]) (rest := []) (lenOf pd_8 rfl) rfl (by show 2 * 0 + _ ≤ _; exact Nat.le_of_eq rfl) (hb hby d17_6) (fun _ _ => ⟨rfl, e0, (Nat.le_trans (Nat.add_le_add_right (Nat.le_refl 0) 1) (by decide)), (Nat.le_trans (Nat.add_le_add_right (Nat.le_refl 0) 26) (by decide))⟩)
  dsimp only [Pt.U, Pt.locs, Pt.cells, Pt.slots] at X2 l2 y2 z2 st2 hQ2
  subst l2 y2 z2
  obtain ⟨bb_2, rfl, N2q, Kq2, fz_bb_2, pf2_0, pf2_1, pf2_2⟩ := hQ2
  have oldlt_2_a : a < h0.size := F0.lt
  have oldlt_2_ca : ca < h0.size := F3.lt
  have G3 : Exa Z T2.heap a "java/lang/String" := Exa.keep F0 Kq2
  have G4 : VA Z T2.heap ca .char ([c0, c1, c2, c3, c4, c5, c6, c7, c8, c9, c10, c11, c12, c13, c14, c15, c16, c17, c18, c19, c20, c21, c22, c23, c24, c25].map Value.int) := F3.keep Kq2 (ninS (Ne.symm ne_a_ca) nin0)
  have G5 : Sta Z T2.heap "java/lang/String" "COMPACT_STRINGS" "Z" (.int cs) := F4.keepE Kq2 F0
  have ne_a_bb_2 : a ≠ bb_2 := Nat.ne_of_lt (Nat.lt_of_lt_of_le oldlt_2_a fz_bb_2)
  have ne_ca_bb_2 : ca ≠ bb_2 := Nat.ne_of_lt (Nat.lt_of_lt_of_le oldlt_2_ca fz_bb_2)
  have g_bb_2 : n0 ≤ bb_2 := Nat.le_trans Z0 fz_bb_2
  have sz_bb_2 : h0.size ≤ bb_2 := Nat.le_trans (Keep.refl h0 [a]).1 fz_bb_2
  have K2 : Keep h0 T2.heap [a] := Keep.trans (Keep.refl h0 [a]) Kq2 (allS (Or.inl (List.mem_of_getElem? (i := 0) rfl)) all0)
  have Z2 : n0 ≤ T2.heap.size := Nat.le_trans Z0 K2.1
  have N2 := Fr.app N0 N2q
  refine Go.step (T' := T2) (f' := (mkF m 9 #[.val (.ref a), .val (.ref ca)] [])) (fun t kt => ?_) ?_
  · show Steps p.tables e below (s₁.setTop (mkF m 0 #[.val (.ref a), .val (.ref ca)] [])) _
    refine XS.aloadN X0.here hx rfl (hb hby d17_0) rfl rfl ?_
    show Steps p.tables e below (s₁.setTop (mkF m 1 #[.val (.ref a), .val (.ref ca)] [(.ref a)])) _
    refine XS.aloadN X0.here hx rfl (hb hby d17_1) rfl rfl ?_
    show Steps p.tables e below (s₁.setTop (mkF m 2 #[.val (.ref a), .val (.ref ca)] [(.ref ca), (.ref a)])) _
    refine XS.iconst X0.here hx rfl (hb hby d17_2) ?_
    show Steps p.tables e below (s₁.setTop (mkF m 3 #[.val (.ref a), .val (.ref ca)] [(.int (0 : Int32)), (.ref ca), (.ref a)])) _
    refine XS.aloadN X0.here hx rfl (hb hby d17_3) rfl rfl ?_
    show Steps p.tables e below (s₁.setTop (mkF m 4 #[.val (.ref a), .val (.ref ca)] [(.ref ca), (.int (0 : Int32)), (.ref ca), (.ref a)])) _
    refine lenA X0 hx hZ e0 F3 (n := (26 : Int32)) ln1 (g := (mkF m 4 #[.val (.ref a), .val (.ref ca)] [(.ref ca), (.int (0 : Int32)), (.ref ca), (.ref a)])) rfl rfl (hb hby d17_4) _ ?_
    show Steps p.tables e below (s₁.setTop (mkF m 5 #[.val (.ref a), .val (.ref ca)] [(.int (26 : Int32)), (.int (0 : Int32)), (.ref ca), (.ref a)])) _
    refine XS.aconstNull X0.here hx rfl (hb hby d17_5) ?_
    show Steps p.tables e below (s₁.setTop (mkF m 6 #[.val (.ref a), .val (.ref ca)] [.null, (.int (26 : Int32)), (.int (0 : Int32)), (.ref ca), (.ref a)])) _
    refine st2.trans ?_
    exact kt
  refine Go.fin X2 (v := none) (fun _ => rfl) Bd.notSynchronized ?_ (Nat.le_trans (Nat.add_le_add_right (Nat.le_refl 0) 1) (by decide)) (Nat.le_trans (Nat.add_le_add_right (Nat.le_refl 0) 26) (by decide)) (fun fs hr => X2.returnOut hx Bd.returns (hb hby d17_9) hr)
  · show Qin1 Z a ca c0 c1 c2 c3 c4 c5 c6 c7 c8 c9 c10 c11 c12 c13 c14 c15 c16 c17 c18 c19 c20 c21 c22 c23 c24 c25 cs h0 n0 _ T2.heap _
    exact ⟨bb_2, rfl, N2, K2, sz_bb_2, pf2_0, pf2_1, pf2_2⟩
theorem d2_0 : decode prog_11_method_1_code 0 = .ok (.aload_n 0, 1) := by decide +kernel
theorem d2_1 : decode prog_11_method_1_code 1 = .ok (.invokespecial 5, 3) := by decide +kernel
theorem d2_4 : decode prog_11_method_1_code 4 = .ok (.aload_n 0, 1) := by decide +kernel
theorem d2_5 : decode prog_11_method_1_code 5 = .ok (.lload_n 1, 1) := by decide +kernel
theorem d2_6 : decode prog_11_method_1_code 6 = .ok (.putfield 11, 3) := by decide +kernel
theorem d2_9 : decode prog_11_method_1_code 9 = .ok (.aload_n 0, 1) := by decide +kernel
theorem d2_10 : decode prog_11_method_1_code 10 = .ok (.lload_n 3, 1) := by decide +kernel
theorem d2_11 : decode prog_11_method_1_code 11 = .ok (.putfield 15, 3) := by decide +kernel
theorem d2_14 : decode prog_11_method_1_code 14 = .ok (.return_, 1) := by decide +kernel
theorem pn_4 : plainName "com/example/lane4/lane4/model/JobId" = true := by first | (simp [plainName, overriddenIn]; done) | decide +kernel
theorem ef_iniJ (m : MethodId) (x0 : Addr) (x1 : Int64) (x2 : Int64) : entryFrame m #[(.ref x0), (.long x1), (.long x2)] 5 = mkF m 0 #[.val (.ref x0), .val (.long x1), .second, .val (.long x2), .second] [] := by first | (simp [entryFrame, mkF, argsToLocals, Value.category]; done) | rfl
def QiniJ (Z : State) (a : Addr) (p1 : Int64) (p2 : Int64) (u0 : Int64) (u1 : Int64) (h0 : Heap) (n0 : Nat) (v : Option Value) (h : Heap) (L : List Loc) : Prop := v = none ∧ Fr n0 L ∧ Keep h0 h [a] ∧ Fld Z h a "com/example/lane4/lane4/model/JobId" "high" "J" (.long p1) ∧ Fld Z h a "com/example/lane4/lane4/model/JobId" "low" "J" (.long p2) ∧ Fld Z h a "com/example/lane4/lane4/model/JobId" "text" "Ljava/lang/String;" .null
set_option maxRecDepth 65536 in
set_option maxHeartbeats 40000000 in
theorem rm_iniJ (l : Launch) (Z : State) (a0 : Array Value) (hw : ∀ d ∈ tables_1, d.before a0 Z = true) (ws : List Jvm.Cond) (a : Addr) (p1 : Int64) (p2 : Int64) (u0 : Int64) (u1 : Int64) (h0 : Heap) (n0 : Nat) (Z0 : n0 ≤ h0.size) (F0 : Exa Z h0 a "com/example/lane4/lane4/model/JobId") (F1 : Fld Z h0 a "com/example/lane4/lane4/model/JobId" "high" "J" (.long u0)) (F2 : Fld Z h0 a "com/example/lane4/lane4/model/JobId" "low" "J" (.long u1)) (F3 : Fld Z h0 a "com/example/lane4/lane4/model/JobId" "text" "Ljava/lang/String;" .null) (g_a : n0 ≤ a) :
    MetFree l (⟨"com/example/lane4/lane4/model/JobId", "<init>", "(JJ)V"⟩ : MethodName) (head1 (Jvm.Cond.code (⟨"com/example/lane4/lane4/model/JobId", "<init>", "(JJ)V"⟩ : MethodName) prog_11_method_1_code 5 none :: ws) ({ frames := 1, cells := 0, slots := 0, locals := 12 } : Room)) (fun A_ U => A_ = #[(.ref a), (.long p1), (.long p2)] ∧ Z.Warmed39 U.vm ∧ U.heap = h0) (fun _ _ _ _ _ => True) (fun _ U o U' => ∃ v L, o = .returned v ∧ QiniJ Z a p1 p2 u0 u1 h0 n0 v U'.heap L ∧ FrameEnd U o U' L ({ frames := 1, cells := 0, slots := 0, locals := 12 } : Room).cells ({ frames := 1, cells := 0, slots := 0, locals := 12 } : Room).slots) := by
  refine MetFree.of_bodySF (plainFor_of_name pn_4) hisR ?_
  intro p e s m args below meth c s₁ Bd hml0 hP hK
  obtain ⟨rfl, hZ, hh⟩ := hP
  have hx := Bd.exec
  have hby := Bd.bytes
  have hml : c.maxLocals = 5 := hml0
  have hown : s.vm.findClass "com/example/lane4/lane4/model/JobId" = some m.cls := findClass_of_methodNamed Bd.named
  have hnm := (name_of_methodNamed Bd.named Bd.method).1
  have X0 : Stand p l e ({ frames := 1, cells := 0, slots := 0, locals := 12 } : Room) s m #[(.ref a), (.long p1), (.long p2)] below meth c s₁ [] 0 0 := Stand.of_body Bd
  have e0 : s₁.heap = h0 := by rw [← hh, Bd.state]; rfl
  have N0 := Fr.nil n0
  suffices HGO : Go p e below s (QiniJ Z a p1 p2 u0 u1 h0 n0) ({ frames := 1, cells := 0, slots := 0, locals := 12 } : Room).cells ({ frames := 1, cells := 0, slots := 0, locals := 12 } : Room).slots s₁ (mkF m 0 #[.val (.ref a), .val (.long p1), .second, .val (.long p2), .second] []) from Go.cast (ef_iniJ m a p1 p2) HGO
  obtain ⟨T1, X1, e1, st1⟩ := initO X0 hx hZ hown (hw _ (List.mem_of_getElem? (i := 11) rfl)) (hw _ (List.mem_of_getElem? (i := 12) rfl)) (hw _ (List.mem_of_getElem? (i := 13) rfl)) e0 (g := (mkF m 1 #[.val (.ref a), .val (.long p1), .second, .val (.long p2), .second] [(.ref a)])) rfl (by rw [hml]; rfl) rfl (hb hby d2_1) (by decide) (W := 0) (by show 2 * 0 + _ ≤ _; exact Nat.le_of_eq rfl) (by decide)
  obtain ⟨T2, h2, X2, e2, W2, st2⟩ := putF X1 hx hZ hown (host := "") (Or.inl (hw _ (List.mem_of_getElem? (i := 14) rfl))) Via.refl e1 F1 F0 (Or.inr ⟨(hw _ (List.mem_of_getElem? (i := 15) rfl)), rfl, hnm⟩) (hw _ (List.mem_of_getElem? (i := 7) rfl)) (ty := .long) (by decide) rfl rfl (g := (mkF m 6 #[.val (.ref a), .val (.long p1), .second, .val (.long p2), .second] [(.long p1), (.ref a)])) rfl rfl (hb hby d2_6)
  have G3 : Exa Z h2 a "com/example/lane4/lane4/model/JobId" := F0.wr W2
  have G4 : Fld Z h2 a "com/example/lane4/lane4/model/JobId" "high" "J" (.long p1) := F1.same W2
  have G5 : Fld Z h2 a "com/example/lane4/lane4/model/JobId" "low" "J" (.long u1) := F2.other W2 (Or.inr (slot_ne (Or.inr (hw _ (List.mem_of_getElem? (i := 17) rfl))) (Or.inr (hw _ (List.mem_of_getElem? (i := 15) rfl))) (by decide) (t := .long) (t' := .long) (by decide) (by decide)))
  have G6 : Fld Z h2 a "com/example/lane4/lane4/model/JobId" "text" "Ljava/lang/String;" .null := F3.other W2 (Or.inr (slot_ne (Or.inl (hw _ (List.mem_of_getElem? (i := 51) rfl))) (Or.inr (hw _ (List.mem_of_getElem? (i := 15) rfl))) (by decide) (t := (.object "java/lang/String")) (t' := .long) (by decide) (by decide)))
  have N2 := Fr.snoc X2 N0 g_a
  have K2 : Keep h0 h2 [a] := Keep.wr (Keep.refl h0 [a]) W2 (Or.inl (List.mem_of_getElem? (i := 0) rfl))
  have Z2 : n0 ≤ h2.size := Nat.le_trans Z0 K2.1
  obtain ⟨T7, h7, X7, e7, W7, st7⟩ := putF X2 hx hZ hown (host := "") (Or.inl (hw _ (List.mem_of_getElem? (i := 16) rfl))) Via.refl e2 G5 G3 (Or.inr ⟨(hw _ (List.mem_of_getElem? (i := 17) rfl)), rfl, hnm⟩) (hw _ (List.mem_of_getElem? (i := 7) rfl)) (ty := .long) (by decide) rfl rfl (g := (mkF m 11 #[.val (.ref a), .val (.long p1), .second, .val (.long p2), .second] [(.long p2), (.ref a)])) rfl rfl (hb hby d2_11)
  have G8 : Exa Z h7 a "com/example/lane4/lane4/model/JobId" := G3.wr W7
  have G9 : Fld Z h7 a "com/example/lane4/lane4/model/JobId" "high" "J" (.long p1) := G4.other W7 (Or.inr (slot_ne (Or.inr (hw _ (List.mem_of_getElem? (i := 15) rfl))) (Or.inr (hw _ (List.mem_of_getElem? (i := 17) rfl))) (by decide) (t := .long) (t' := .long) (by decide) (by decide)))
  have G10 : Fld Z h7 a "com/example/lane4/lane4/model/JobId" "low" "J" (.long p2) := G5.same W7
  have G11 : Fld Z h7 a "com/example/lane4/lane4/model/JobId" "text" "Ljava/lang/String;" .null := G6.other W7 (Or.inr (slot_ne (Or.inl (hw _ (List.mem_of_getElem? (i := 51) rfl))) (Or.inr (hw _ (List.mem_of_getElem? (i := 17) rfl))) (by decide) (t := (.object "java/lang/String")) (t' := .long) (by decide) (by decide)))
  have N7 := Fr.snoc X7 N2 g_a
  have K7 : Keep h0 h7 [a] := Keep.wr K2 W7 (Or.inl (List.mem_of_getElem? (i := 0) rfl))
  have Z7 : n0 ≤ h7.size := Nat.le_trans Z0 K7.1
  refine Go.step (T' := T7) (f' := (mkF m 14 #[.val (.ref a), .val (.long p1), .second, .val (.long p2), .second] [])) (fun t kt => ?_) ?_
  · show Steps p.tables e below (s₁.setTop (mkF m 0 #[.val (.ref a), .val (.long p1), .second, .val (.long p2), .second] [])) _
    refine XS.aloadN X0.here hx rfl (hb hby d2_0) rfl rfl ?_
    show Steps p.tables e below (s₁.setTop (mkF m 1 #[.val (.ref a), .val (.long p1), .second, .val (.long p2), .second] [(.ref a)])) _
    refine st1 _ ?_
    show Steps p.tables e below (T1.setTop (mkF m 4 #[.val (.ref a), .val (.long p1), .second, .val (.long p2), .second] [])) _
    refine XS.aloadN X1.here hx rfl (hb hby d2_4) rfl rfl ?_
    show Steps p.tables e below (T1.setTop (mkF m 5 #[.val (.ref a), .val (.long p1), .second, .val (.long p2), .second] [(.ref a)])) _
    refine XS.lloadN X1.here hx rfl (hb hby d2_5) rfl ?_
    show Steps p.tables e below (T1.setTop (mkF m 6 #[.val (.ref a), .val (.long p1), .second, .val (.long p2), .second] [(.long p1), (.ref a)])) _
    refine st2 _ ?_
    show Steps p.tables e below (T2.setTop (mkF m 9 #[.val (.ref a), .val (.long p1), .second, .val (.long p2), .second] [])) _
    refine XS.aloadN X2.here hx rfl (hb hby d2_9) rfl rfl ?_
    show Steps p.tables e below (T2.setTop (mkF m 10 #[.val (.ref a), .val (.long p1), .second, .val (.long p2), .second] [(.ref a)])) _
    refine XS.lloadN X2.here hx rfl (hb hby d2_10) rfl ?_
    show Steps p.tables e below (T2.setTop (mkF m 11 #[.val (.ref a), .val (.long p1), .second, .val (.long p2), .second] [(.long p2), (.ref a)])) _
    refine st7 _ ?_
    exact kt
  refine Go.fin X7 (v := none) (fun _ => rfl) Bd.notSynchronized ?_ (Nat.le_trans (Nat.le_refl 0) (by decide)) (Nat.le_trans (Nat.le_refl 0) (by decide)) (fun fs hr => X7.returnOut hx Bd.returns (hb hby d2_14) hr)
  · show QiniJ Z a p1 p2 u0 u1 h0 n0 _ T7.heap _
    rw [e7]
    exact ⟨rfl, N7, K7, G9, G10, G11⟩
theorem pd_9 : parseMethodDescriptor "(JJ)V" = some ⟨[.long, .long], none⟩ := by decide +kernel
theorem d1_0 : decode prog_11_method_2_code 0 = .ok (.new 3, 3) := by decide +kernel
theorem d1_3 : decode prog_11_method_2_code 3 = .ok (.dup, 1) := by decide +kernel
theorem d1_4 : decode prog_11_method_2_code 4 = .ok (.lload_n 0, 1) := by decide +kernel
theorem d1_5 : decode prog_11_method_2_code 5 = .ok (.bipush 16, 2) := by decide +kernel
theorem d1_7 : decode prog_11_method_2_code 7 = .ok (.lshl, 1) := by decide +kernel
theorem d1_8 : decode prog_11_method_2_code 8 = .ok (.lload_n 2, 1) := by decide +kernel
theorem d1_9 : decode prog_11_method_2_code 9 = .ok (.lor, 1) := by decide +kernel
theorem d1_10 : decode prog_11_method_2_code 10 = .ok (.lload 4, 2) := by decide +kernel
theorem d1_12 : decode prog_11_method_2_code 12 = .ok (.invokespecial 18, 3) := by decide +kernel
theorem d1_15 : decode prog_11_method_2_code 15 = .ok (.areturn, 1) := by decide +kernel
theorem ef_ofJ (m : MethodId) (x0 : Int64) (x1 : Int64) (x2 : Int64) : entryFrame m #[(.long x0), (.long x1), (.long x2)] 6 = mkF m 0 #[.val (.long x0), .second, .val (.long x1), .second, .val (.long x2), .second] [] := by first | (simp [entryFrame, mkF, argsToLocals, Value.category]; done) | rfl
def QofJ (Z : State) (p1 : Int64) (p2 : Int64) (p3 : Int64)  (h0 : Heap) (n0 : Nat) (v : Option Value) (h : Heap) (L : List Loc) : Prop := ∃ (b : Addr), v = some (.ref b) ∧ Fr n0 L ∧ Keep h0 h [] ∧ h0.size ≤ b ∧ Exa Z h b "com/example/lane4/lane4/model/JobId" ∧ Fld Z h b "com/example/lane4/lane4/model/JobId" "high" "J" (.long ((p1 <<< ((16 : Int32) &&& 0x3f).toInt64) ||| p2)) ∧ Fld Z h b "com/example/lane4/lane4/model/JobId" "low" "J" (.long p3) ∧ Fld Z h b "com/example/lane4/lane4/model/JobId" "text" "Ljava/lang/String;" .null
set_option maxRecDepth 65536 in
set_option maxHeartbeats 40000000 in
theorem rm_ofJ (l : Launch) (Z : State) (a0 : Array Value) (hw : ∀ d ∈ tables_1, d.before a0 Z = true) (ws : List Jvm.Cond) (p1 : Int64) (p2 : Int64) (p3 : Int64)  (h0 : Heap) (n0 : Nat) (Z0 : n0 ≤ h0.size) :
    MetFree l (⟨"com/example/lane4/lane4/model/JobId", "of", "(JJJ)Lcom/example/lane4/lane4/model/JobId;"⟩ : MethodName) (head1 (Jvm.Cond.code (⟨"com/example/lane4/lane4/model/JobId", "of", "(JJJ)Lcom/example/lane4/lane4/model/JobId;"⟩ : MethodName) prog_11_method_2_code 6 (some (.object "com/example/lane4/lane4/model/JobId")) :: ws) ({ frames := 2, cells := 1, slots := 3, locals := 29 } : Room)) (fun A_ U => A_ = #[(.long p1), (.long p2), (.long p3)] ∧ Z.Warmed39 U.vm ∧ U.heap = h0) (fun _ _ _ _ _ => True) (fun _ U o U' => ∃ v L, o = .returned v ∧ QofJ Z p1 p2 p3 h0 n0 v U'.heap L ∧ FrameEnd U o U' L ({ frames := 2, cells := 1, slots := 3, locals := 29 } : Room).cells ({ frames := 2, cells := 1, slots := 3, locals := 29 } : Room).slots) := by
  refine MetFree.of_bodySF (plainFor_of_name pn_4) hisR ?_
  intro p e s m args below meth c s₁ Bd hml0 hP hK
  obtain ⟨rfl, hZ, hh⟩ := hP
  have hx := Bd.exec
  have hby := Bd.bytes
  have hml : c.maxLocals = 6 := hml0
  have hown : s.vm.findClass "com/example/lane4/lane4/model/JobId" = some m.cls := findClass_of_methodNamed Bd.named
  have hnm := (name_of_methodNamed Bd.named Bd.method).1
  have X0 : Stand p l e ({ frames := 2, cells := 1, slots := 3, locals := 29 } : Room) s m #[(.long p1), (.long p2), (.long p3)] below meth c s₁ [] 0 0 := Stand.of_body Bd
  have e0 : s₁.heap = h0 := by rw [← hh, Bd.state]; rfl
  have N0 := Fr.nil n0
  suffices HGO : Go p e below s (QofJ Z p1 p2 p3 h0 n0) ({ frames := 2, cells := 1, slots := 3, locals := 29 } : Room).cells ({ frames := 2, cells := 1, slots := 3, locals := 29 } : Room).slots s₁ (mkF m 0 #[.val (.long p1), .second, .val (.long p2), .second, .val (.long p3), .second] []) from Go.cast (ef_ofJ m p1 p2 p3) HGO
  obtain ⟨T1, h1, X1, e1, E1, A1, D1, -, st1⟩ := newO X0 hx hZ hown (hw _ (List.mem_of_getElem? (i := 6) rfl)) (hw _ (List.mem_of_getElem? (i := 7) rfl)) (hw _ (List.mem_of_getElem? (i := 4) rfl)) e0 (g := (mkF m 0 #[.val (.long p1), .second, .val (.long p2), .second, .val (.long p3), .second] [])) rfl (hb hby d1_0) (Nat.le_trans (Nat.add_le_add_right (Nat.le_refl 0) 1) (by decide)) (Nat.le_trans (Nat.add_le_add_right (Nat.le_refl 0) 3) (by decide))
  obtain ⟨b1, g1⟩ : ∃ z, z = h0.size := ⟨_, rfl⟩
  rw [← g1] at A1 D1 st1
  have g_b1 : n0 ≤ b1 := Nat.le_trans Z0 (Nat.le_of_eq g1.symm)
  have sz_b1 : h0.size ≤ b1 := Nat.le_trans (Keep.refl h0 []).1 (Nat.le_of_eq g1.symm)
  have K1 : Keep h0 h1 [] := Keep.ext (Keep.refl h0 []) E1
  have Z1 : n0 ≤ h1.size := Nat.le_trans Z0 K1.1
  have G2 : Fld Z h1 b1 "com/example/lane4/lane4/model/JobId" "high" "J" (.long (0 : Int64)) := D1 (Or.inr (hw _ (List.mem_of_getElem? (i := 15) rfl))) (ty := .long) (by decide)
  have G3 : Fld Z h1 b1 "com/example/lane4/lane4/model/JobId" "low" "J" (.long (0 : Int64)) := D1 (Or.inr (hw _ (List.mem_of_getElem? (i := 17) rfl))) (ty := .long) (by decide)
  have G4 : Fld Z h1 b1 "com/example/lane4/lane4/model/JobId" "text" "Ljava/lang/String;" .null := D1 (Or.inl (hw _ (List.mem_of_getElem? (i := 51) rfl))) (ty := (.object "java/lang/String")) (by decide)
  obtain ⟨_, _, ⟨T5, L5, k5, n5⟩, -, X5, ⟨Lc5, hQ5, l5, y5, z5⟩, st5⟩ := X1.specialBack hx (y := (⟨"com/example/lane4/lane4/model/JobId", "<init>", "(JJ)V"⟩ : MethodName)) rfl hown (mvT hZ (hw _ (List.mem_of_getElem? (i := 8) rfl))) (mvT hZ (hw _ (List.mem_of_getElem? (i := 9) rfl))) (mvT hZ (hw _ (List.mem_of_getElem? (i := 10) rfl))) (by decide) (backOf (W := 1) (rm_iniJ l Z a0 hw [] b1 ((p1 <<< ((16 : Int32) &&& 0x3f).toInt64) ||| p2) p3 (0 : Int64) (0 : Int64) h1 n0 Z1 A1 G2 G3 G4 g_b1 ) hZ (hw _ (List.mem_of_getElem? (i := 10) rfl)) (hw _ (List.mem_of_getElem? (i := 4) rfl)) (by decide) (by decide)) (g := (mkF m 12 #[.val (.long p1), .second, .val (.long p2), .second, .val (.long p3), .second] [(.long p3), (.long ((p1 <<< ((16 : Int32) &&& 0x3f).toInt64) ||| p2)), (.ref b1), (.ref b1)])) rfl (by rw [hml]; rfl) (Steps.refl _) (a := b1) (argsL := [(.long ((p1 <<< ((16 : Int32) &&& 0x3f).toInt64) ||| p2)), (.long p3)]) (rest := [(.ref b1)]) (lenOf pd_9 rfl) rfl (by show 2 * 0 + _ ≤ _; exact Nat.le_of_eq rfl) (hb hby d1_12) (fun _ _ => ⟨rfl, e1, (Nat.le_trans (Nat.add_le_add_right (Nat.add_le_add_right (Nat.le_refl 0) 1) 0) (by decide)), (Nat.le_trans (Nat.add_le_add_right (Nat.add_le_add_right (Nat.le_refl 0) 3) 0) (by decide))⟩)
  dsimp only [Pt.U, Pt.locs, Pt.cells, Pt.slots] at X5 l5 y5 z5 st5 hQ5
  subst l5 y5 z5
  obtain ⟨rfl, N5q, Kq5, pf5_0, pf5_1, pf5_2⟩ := hQ5
  have G6 : Exa Z T5.heap b1 "com/example/lane4/lane4/model/JobId" := Exa.keep A1 Kq5
  have K5 : Keep h0 T5.heap [] := Keep.trans K1 Kq5 (allS (Or.inr sz_b1) all0)
  have Z5 : n0 ≤ T5.heap.size := Nat.le_trans Z0 K5.1
  have N5 := Fr.app N0 N5q
  refine Go.step (T' := T5) (f' := (mkF m 15 #[.val (.long p1), .second, .val (.long p2), .second, .val (.long p3), .second] [(.ref b1)])) (fun t kt => ?_) ?_
  · show Steps p.tables e below (s₁.setTop (mkF m 0 #[.val (.long p1), .second, .val (.long p2), .second, .val (.long p3), .second] [])) _
    refine st1 _ ?_
    show Steps p.tables e below (T1.setTop (mkF m 3 #[.val (.long p1), .second, .val (.long p2), .second, .val (.long p3), .second] [(.ref b1)])) _
    refine XS.dup X1.here hx rfl (hb hby d1_3) rfl rfl ?_
    show Steps p.tables e below (T1.setTop (mkF m 4 #[.val (.long p1), .second, .val (.long p2), .second, .val (.long p3), .second] [(.ref b1), (.ref b1)])) _
    refine XS.lloadN X1.here hx rfl (hb hby d1_4) rfl ?_
    show Steps p.tables e below (T1.setTop (mkF m 5 #[.val (.long p1), .second, .val (.long p2), .second, .val (.long p3), .second] [(.long p1), (.ref b1), (.ref b1)])) _
    refine XS.bipush X1.here hx rfl (hb hby d1_5) ?_
    show Steps p.tables e below (T1.setTop (mkF m 7 #[.val (.long p1), .second, .val (.long p2), .second, .val (.long p3), .second] [(.int (16 : Int32)), (.long p1), (.ref b1), (.ref b1)])) _
    refine XS.lshl X1.here hx rfl (hb hby d1_7) rfl ?_
    show Steps p.tables e below (T1.setTop (mkF m 8 #[.val (.long p1), .second, .val (.long p2), .second, .val (.long p3), .second] [(.long (p1 <<< ((16 : Int32) &&& 0x3f).toInt64)), (.ref b1), (.ref b1)])) _
    refine XS.lloadN X1.here hx rfl (hb hby d1_8) rfl ?_
    show Steps p.tables e below (T1.setTop (mkF m 9 #[.val (.long p1), .second, .val (.long p2), .second, .val (.long p3), .second] [(.long p2), (.long (p1 <<< ((16 : Int32) &&& 0x3f).toInt64)), (.ref b1), (.ref b1)])) _
    refine XS.lor X1.here hx rfl (hb hby d1_9) rfl ?_
    show Steps p.tables e below (T1.setTop (mkF m 10 #[.val (.long p1), .second, .val (.long p2), .second, .val (.long p3), .second] [(.long ((p1 <<< ((16 : Int32) &&& 0x3f).toInt64) ||| p2)), (.ref b1), (.ref b1)])) _
    refine XS.lload X1.here hx rfl (hb hby d1_10) rfl ?_
    show Steps p.tables e below (T1.setTop (mkF m 12 #[.val (.long p1), .second, .val (.long p2), .second, .val (.long p3), .second] [(.long p3), (.long ((p1 <<< ((16 : Int32) &&& 0x3f).toInt64) ||| p2)), (.ref b1), (.ref b1)])) _
    refine st5.trans ?_
    exact kt
  refine Go.fin X5 (v := some (.ref b1)) (fun h => by rw [Bd.returns] at h; cases h) Bd.notSynchronized ?_ (Nat.le_trans (Nat.add_le_add_right (Nat.add_le_add_right (Nat.le_refl 0) 1) 0) (by decide)) (Nat.le_trans (Nat.add_le_add_right (Nat.add_le_add_right (Nat.le_refl 0) 3) 0) (by decide)) (fun fs hr => X5.areturnOut hx rfl Bd.returns rfl (hb hby d1_15) hr)
  · show QofJ Z p1 p2 p3 h0 n0 _ T5.heap _
    exact ⟨b1, rfl, N5, K5, sz_b1, G6, pf5_0, pf5_1, pf5_2⟩
theorem d4_0 : decode method_3_code 0 = .ok (.lload_n 0, 1) := by decide +kernel
theorem d4_1 : decode method_3_code 1 = .ok (.ldc2_w 57, 3) := by decide +kernel
theorem d4_4 : decode method_3_code 4 = .ok (.lxor, 1) := by decide +kernel
theorem d4_5 : decode method_3_code 5 = .ok (.lload_n 2, 1) := by decide +kernel
theorem d4_6 : decode method_3_code 6 = .ok (.ldc2_w 57, 3) := by decide +kernel
theorem d4_9 : decode method_3_code 9 = .ok (.lxor, 1) := by decide +kernel
theorem d4_10 : decode method_3_code 10 = .ok (.lcmp, 1) := by decide +kernel
theorem d4_11 : decode method_3_code 11 = .ok (.ifCond .ge 7, 3) := by decide +kernel
theorem d4_14 : decode method_3_code 14 = .ok (.iconst 1, 1) := by decide +kernel
theorem d4_15 : decode method_3_code 15 = .ok (.goto 4, 3) := by decide +kernel
theorem d4_18 : decode method_3_code 18 = .ok (.iconst 0, 1) := by decide +kernel
theorem d4_19 : decode method_3_code 19 = .ok (.ireturn, 1) := by decide +kernel
theorem pn_5 : plainName "com/example/lane4/lane4/model/JobIdOfPinLaw" = true := by first | (simp [plainName, overriddenIn]; done) | decide +kernel
theorem ef_ultF (m : MethodId) (x0 : Int64) (x1 : Int64) : entryFrame m #[(.long x0), (.long x1)] 4 = mkF m 0 #[.val (.long x0), .second, .val (.long x1), .second] [] := by first | (simp [entryFrame, mkF, argsToLocals, Value.category]; done) | rfl
def ultF (p1 : Int64) (p2 : Int64) : Int32 := (if (p1 ^^^ (-9223372036854775808 : Int64)) < (p2 ^^^ (-9223372036854775808 : Int64)) then (1 : Int32) else (0 : Int32))
def QultF (RES : Int32) (h0 : Heap) (n0 : Nat) (v : Option Value) (h : Heap) (L : List Loc) : Prop := v = some (.int RES) ∧ Fr n0 L ∧ h = h0
set_option maxRecDepth 65536 in
set_option maxHeartbeats 40000000 in
theorem rm_ultF (l : Launch) (Z : State) (a0 : Array Value) (hw : ∀ d ∈ tables_1, d.before a0 Z = true) (ws : List Jvm.Cond) (p1 : Int64) (p2 : Int64)  (h0 : Heap) (n0 : Nat) (Z0 : n0 ≤ h0.size) :
    MetFree l (⟨"com/example/lane4/lane4/model/JobIdOfPinLaw", "ult", "(JJ)Z"⟩ : MethodName) (head1 (Jvm.Cond.code (⟨"com/example/lane4/lane4/model/JobIdOfPinLaw", "ult", "(JJ)Z"⟩ : MethodName) method_3_code 4 (some .boolean) :: ws) ({ frames := 0, cells := 0, slots := 0, locals := 0 } : Room)) (fun A_ U => A_ = #[(.long p1), (.long p2)] ∧ Z.Warmed39 U.vm ∧ U.heap = h0) (fun _ _ _ _ _ => True) (fun _ U o U' => ∃ v L, o = .returned v ∧ QultF (ultF p1 p2) h0 n0 v U'.heap L ∧ FrameEnd U o U' L ({ frames := 0, cells := 0, slots := 0, locals := 0 } : Room).cells ({ frames := 0, cells := 0, slots := 0, locals := 0 } : Room).slots) := by
  refine MetFree.of_bodySF (plainFor_of_name pn_5) hisR ?_
  intro p e s m args below meth c s₁ Bd hml0 hP hK
  obtain ⟨rfl, hZ, hh⟩ := hP
  have hx := Bd.exec
  have hby := Bd.bytes
  have hml : c.maxLocals = 4 := hml0
  have hown : s.vm.findClass "com/example/lane4/lane4/model/JobIdOfPinLaw" = some m.cls := findClass_of_methodNamed Bd.named
  have hnm := (name_of_methodNamed Bd.named Bd.method).1
  have X0 : Stand p l e ({ frames := 0, cells := 0, slots := 0, locals := 0 } : Room) s m #[(.long p1), (.long p2)] below meth c s₁ [] 0 0 := Stand.of_body Bd
  have e0 : s₁.heap = h0 := by rw [← hh, Bd.state]; rfl
  have N0 := Fr.nil n0
  obtain ⟨RES, hf⟩ : ∃ z, z = ultF p1 p2 := ⟨_, rfl⟩
  rw [← hf]
  rw [ultF] at hf
  suffices HGO : Go p e below s (QultF RES h0 n0) ({ frames := 0, cells := 0, slots := 0, locals := 0 } : Room).cells ({ frames := 0, cells := 0, slots := 0, locals := 0 } : Room).slots s₁ (mkF m 0 #[.val (.long p1), .second, .val (.long p2), .second] []) from Go.cast (ef_ultF m p1 p2) HGO
  refine Go.step (T' := s₁) (f' := (mkF m 11 #[.val (.long p1), .second, .val (.long p2), .second] [(.int (lcmpW (p1 ^^^ (-9223372036854775808 : Int64)) (p2 ^^^ (-9223372036854775808 : Int64))))])) (fun t kt => ?_) ?_
  · show Steps p.tables e below (s₁.setTop (mkF m 0 #[.val (.long p1), .second, .val (.long p2), .second] [])) _
    refine XS.lloadN X0.here hx rfl (hb hby d4_0) rfl ?_
    show Steps p.tables e below (s₁.setTop (mkF m 1 #[.val (.long p1), .second, .val (.long p2), .second] [(.long p1)])) _
    refine X0.ldc2Long hx hown (mvT hZ (hw _ (List.mem_of_getElem? (i := 22) rfl))) (g := (mkF m 1 #[.val (.long p1), .second, .val (.long p2), .second] [(.long p1)])) rfl (hb hby d4_1) _ ?_
    show Steps p.tables e below (s₁.setTop (mkF m 4 #[.val (.long p1), .second, .val (.long p2), .second] [(.long (-9223372036854775808 : Int64)), (.long p1)])) _
    refine XS.lxor X0.here hx rfl (hb hby d4_4) rfl ?_
    show Steps p.tables e below (s₁.setTop (mkF m 5 #[.val (.long p1), .second, .val (.long p2), .second] [(.long (p1 ^^^ (-9223372036854775808 : Int64)))])) _
    refine XS.lloadN X0.here hx rfl (hb hby d4_5) rfl ?_
    show Steps p.tables e below (s₁.setTop (mkF m 6 #[.val (.long p1), .second, .val (.long p2), .second] [(.long p2), (.long (p1 ^^^ (-9223372036854775808 : Int64)))])) _
    refine X0.ldc2Long hx hown (mvT hZ (hw _ (List.mem_of_getElem? (i := 22) rfl))) (g := (mkF m 6 #[.val (.long p1), .second, .val (.long p2), .second] [(.long p2), (.long (p1 ^^^ (-9223372036854775808 : Int64)))])) rfl (hb hby d4_6) _ ?_
    show Steps p.tables e below (s₁.setTop (mkF m 9 #[.val (.long p1), .second, .val (.long p2), .second] [(.long (-9223372036854775808 : Int64)), (.long p2), (.long (p1 ^^^ (-9223372036854775808 : Int64)))])) _
    refine XS.lxor X0.here hx rfl (hb hby d4_9) rfl ?_
    show Steps p.tables e below (s₁.setTop (mkF m 10 #[.val (.long p1), .second, .val (.long p2), .second] [(.long (p2 ^^^ (-9223372036854775808 : Int64))), (.long (p1 ^^^ (-9223372036854775808 : Int64)))])) _
    refine XS.lcmp X0.here hx rfl (hb hby d4_10) rfl ?_
    exact kt
  by_cases hc1 : (p1 ^^^ (-9223372036854775808 : Int64)) < (p2 ^^^ (-9223372036854775808 : Int64))
  · rw [if_pos hc1] at hf
    refine Go.step (T' := s₁) (f' := (mkF m 14 #[.val (.long p1), .second, .val (.long p2), .second] [])) (fun t kt => ?_) ?_
    · show Steps p.tables e below (s₁.setTop (mkF m 11 #[.val (.long p1), .second, .val (.long p2), .second] [(.int (lcmpW (p1 ^^^ (-9223372036854775808 : Int64)) (p2 ^^^ (-9223372036854775808 : Int64))))])) _
      refine XS.ifNo X0.here hx rfl (hb hby d4_11) rfl ((if0 _ _).trans (tlt ((lw_lt _ _).mpr hc1)).2.1) ?_
      exact kt
    refine Go.step (T' := s₁) (f' := (mkF m 19 #[.val (.long p1), .second, .val (.long p2), .second] [(.int (1 : Int32))])) (fun t kt => ?_) ?_
    · show Steps p.tables e below (s₁.setTop (mkF m 14 #[.val (.long p1), .second, .val (.long p2), .second] [])) _
      refine XS.iconst X0.here hx rfl (hb hby d4_14) ?_
      show Steps p.tables e below (s₁.setTop (mkF m 15 #[.val (.long p1), .second, .val (.long p2), .second] [(.int (1 : Int32))])) _
      refine XS.goto X0.here hx rfl (pc0 := 15) (pc' := 19) rfl (hb hby d4_15) (by decide) (by decide) ?_
      exact kt
    refine Go.fin X0 (v := some (.int (1 : Int32))) (fun h => by rw [Bd.returns] at h; cases h) Bd.notSynchronized ?_ (Nat.le_trans (Nat.le_refl 0) (by decide)) (Nat.le_trans (Nat.le_refl 0) (by decide)) (fun fs hr => retN X0 hx (t := .boolean) Bd.returns (by simp) (hb hby d4_19) hr)
    · exact ⟨by rw [hf], N0, e0⟩
  · rw [if_neg hc1] at hf
    refine Go.step (T' := s₁) (f' := (mkF m 18 #[.val (.long p1), .second, .val (.long p2), .second] [])) (fun t kt => ?_) ?_
    · show Steps p.tables e below (s₁.setTop (mkF m 11 #[.val (.long p1), .second, .val (.long p2), .second] [(.int (lcmpW (p1 ^^^ (-9223372036854775808 : Int64)) (p2 ^^^ (-9223372036854775808 : Int64))))])) _
      refine XS.ifYes X0.here hx rfl (pc0 := 11) (pc' := 18) rfl (hb hby d4_11) rfl ((if0 _ _).trans (flt (fun q => hc1 ((lw_lt _ _).mp q))).2.1) (by decide) (by decide) ?_
      exact kt
    refine Go.step (T' := s₁) (f' := (mkF m 19 #[.val (.long p1), .second, .val (.long p2), .second] [(.int (0 : Int32))])) (fun t kt => ?_) ?_
    · show Steps p.tables e below (s₁.setTop (mkF m 18 #[.val (.long p1), .second, .val (.long p2), .second] [])) _
      refine XS.iconst X0.here hx rfl (hb hby d4_18) ?_
      exact kt
    refine Go.fin X0 (v := some (.int (0 : Int32))) (fun h => by rw [Bd.returns] at h; cases h) Bd.notSynchronized ?_ (Nat.le_trans (Nat.le_refl 0) (by decide)) (Nat.le_trans (Nat.le_refl 0) (by decide)) (fun fs hr => retN X0 hx (t := .boolean) Bd.returns (by simp) (hb hby d4_19) hr)
    · exact ⟨by rw [hf], N0, e0⟩
theorem d8_0 : decode method_4_code 0 = .ok (.iload_n 0, 1) := by decide +kernel
theorem d8_1 : decode method_4_code 1 = .ok (.ifCond .ge 7, 3) := by decide +kernel
theorem d8_4 : decode method_4_code 4 = .ok (.iconst (-1), 1) := by decide +kernel
theorem d8_5 : decode method_4_code 5 = .ok (.goto 12, 3) := by decide +kernel
theorem d8_8 : decode method_4_code 8 = .ok (.iload_n 0, 1) := by decide +kernel
theorem d8_9 : decode method_4_code 9 = .ok (.ifCond .le 7, 3) := by decide +kernel
theorem d8_12 : decode method_4_code 12 = .ok (.iconst 1, 1) := by decide +kernel
theorem d8_13 : decode method_4_code 13 = .ok (.goto 4, 3) := by decide +kernel
theorem d8_16 : decode method_4_code 16 = .ok (.iconst 0, 1) := by decide +kernel
theorem d8_17 : decode method_4_code 17 = .ok (.ireturn, 1) := by decide +kernel
theorem ef_sigF (m : MethodId) (x0 : Int32) : entryFrame m #[(.int x0)] 1 = mkF m 0 #[.val (.int x0)] [] := by first | (simp [entryFrame, mkF, argsToLocals, Value.category]; done) | rfl
def sigF (p1 : Int32) : Int32 := (if p1 < (0 : Int32) then (-1 : Int32) else (if (0 : Int32) < p1 then (1 : Int32) else (0 : Int32)))
def QsigF (RES : Int32) (h0 : Heap) (n0 : Nat) (v : Option Value) (h : Heap) (L : List Loc) : Prop := v = some (.int RES) ∧ Fr n0 L ∧ h = h0
set_option maxRecDepth 65536 in
set_option maxHeartbeats 40000000 in
theorem rm_sigF (l : Launch) (Z : State) (a0 : Array Value) (hw : ∀ d ∈ tables_1, d.before a0 Z = true) (ws : List Jvm.Cond) (p1 : Int32)  (h0 : Heap) (n0 : Nat) (Z0 : n0 ≤ h0.size) :
    MetFree l (⟨"com/example/lane4/lane4/model/JobIdOfPinLaw", "sign", "(I)I"⟩ : MethodName) (head1 (Jvm.Cond.code (⟨"com/example/lane4/lane4/model/JobIdOfPinLaw", "sign", "(I)I"⟩ : MethodName) method_4_code 1 (some .int) :: ws) ({ frames := 0, cells := 0, slots := 0, locals := 0 } : Room)) (fun A_ U => A_ = #[(.int p1)] ∧ Z.Warmed39 U.vm ∧ U.heap = h0) (fun _ _ _ _ _ => True) (fun _ U o U' => ∃ v L, o = .returned v ∧ QsigF (sigF p1) h0 n0 v U'.heap L ∧ FrameEnd U o U' L ({ frames := 0, cells := 0, slots := 0, locals := 0 } : Room).cells ({ frames := 0, cells := 0, slots := 0, locals := 0 } : Room).slots) := by
  refine MetFree.of_bodySF (plainFor_of_name pn_5) hisR ?_
  intro p e s m args below meth c s₁ Bd hml0 hP hK
  obtain ⟨rfl, hZ, hh⟩ := hP
  have hx := Bd.exec
  have hby := Bd.bytes
  have hml : c.maxLocals = 1 := hml0
  have hown : s.vm.findClass "com/example/lane4/lane4/model/JobIdOfPinLaw" = some m.cls := findClass_of_methodNamed Bd.named
  have hnm := (name_of_methodNamed Bd.named Bd.method).1
  have X0 : Stand p l e ({ frames := 0, cells := 0, slots := 0, locals := 0 } : Room) s m #[(.int p1)] below meth c s₁ [] 0 0 := Stand.of_body Bd
  have e0 : s₁.heap = h0 := by rw [← hh, Bd.state]; rfl
  have N0 := Fr.nil n0
  obtain ⟨RES, hf⟩ : ∃ z, z = sigF p1 := ⟨_, rfl⟩
  rw [← hf]
  rw [sigF] at hf
  suffices HGO : Go p e below s (QsigF RES h0 n0) ({ frames := 0, cells := 0, slots := 0, locals := 0 } : Room).cells ({ frames := 0, cells := 0, slots := 0, locals := 0 } : Room).slots s₁ (mkF m 0 #[.val (.int p1)] []) from Go.cast (ef_sigF m p1) HGO
  refine Go.step (T' := s₁) (f' := (mkF m 1 #[.val (.int p1)] [(.int p1)])) (fun t kt => ?_) ?_
  · show Steps p.tables e below (s₁.setTop (mkF m 0 #[.val (.int p1)] [])) _
    refine XS.iloadN X0.here hx rfl (hb hby d8_0) rfl ?_
    exact kt
  by_cases hc1 : p1 < (0 : Int32)
  · rw [if_pos hc1] at hf
    refine Go.step (T' := s₁) (f' := (mkF m 4 #[.val (.int p1)] [])) (fun t kt => ?_) ?_
    · show Steps p.tables e below (s₁.setTop (mkF m 1 #[.val (.int p1)] [(.int p1)])) _
      refine XS.ifNo X0.here hx rfl (hb hby d8_1) rfl ((if0 _ _).trans (tlt hc1).2.1) ?_
      exact kt
    refine Go.step (T' := s₁) (f' := (mkF m 17 #[.val (.int p1)] [(.int (-1 : Int32))])) (fun t kt => ?_) ?_
    · show Steps p.tables e below (s₁.setTop (mkF m 4 #[.val (.int p1)] [])) _
      refine XS.iconst X0.here hx rfl (hb hby d8_4) ?_
      show Steps p.tables e below (s₁.setTop (mkF m 5 #[.val (.int p1)] [(.int (-1 : Int32))])) _
      refine XS.goto X0.here hx rfl (pc0 := 5) (pc' := 17) rfl (hb hby d8_5) (by decide) (by decide) ?_
      exact kt
    refine Go.fin X0 (v := some (.int (-1 : Int32))) (fun h => by rw [Bd.returns] at h; cases h) Bd.notSynchronized ?_ (Nat.le_trans (Nat.le_refl 0) (by decide)) (Nat.le_trans (Nat.le_refl 0) (by decide)) (fun fs hr => retI X0 hx Bd.returns (hb hby d8_17) hr)
    · exact ⟨by rw [hf], N0, e0⟩
  · rw [if_neg hc1] at hf
    refine Go.step (T' := s₁) (f' := (mkF m 8 #[.val (.int p1)] [])) (fun t kt => ?_) ?_
    · show Steps p.tables e below (s₁.setTop (mkF m 1 #[.val (.int p1)] [(.int p1)])) _
      refine XS.ifYes X0.here hx rfl (pc0 := 1) (pc' := 8) rfl (hb hby d8_1) rfl ((if0 _ _).trans (flt hc1).2.1) (by decide) (by decide) ?_
      exact kt
    refine Go.step (T' := s₁) (f' := (mkF m 9 #[.val (.int p1)] [(.int p1)])) (fun t kt => ?_) ?_
    · show Steps p.tables e below (s₁.setTop (mkF m 8 #[.val (.int p1)] [])) _
      refine XS.iloadN X0.here hx rfl (hb hby d8_8) rfl ?_
      exact kt
    by_cases hc2 : (0 : Int32) < p1
    · rw [if_pos hc2] at hf
      refine Go.step (T' := s₁) (f' := (mkF m 12 #[.val (.int p1)] [])) (fun t kt => ?_) ?_
      · show Steps p.tables e below (s₁.setTop (mkF m 9 #[.val (.int p1)] [(.int p1)])) _
        refine XS.ifNo X0.here hx rfl (hb hby d8_9) rfl ((if0 _ _).trans (tlt hc2).2.2.2) ?_
        exact kt
      refine Go.step (T' := s₁) (f' := (mkF m 17 #[.val (.int p1)] [(.int (1 : Int32))])) (fun t kt => ?_) ?_
      · show Steps p.tables e below (s₁.setTop (mkF m 12 #[.val (.int p1)] [])) _
        refine XS.iconst X0.here hx rfl (hb hby d8_12) ?_
        show Steps p.tables e below (s₁.setTop (mkF m 13 #[.val (.int p1)] [(.int (1 : Int32))])) _
        refine XS.goto X0.here hx rfl (pc0 := 13) (pc' := 17) rfl (hb hby d8_13) (by decide) (by decide) ?_
        exact kt
      refine Go.fin X0 (v := some (.int (1 : Int32))) (fun h => by rw [Bd.returns] at h; cases h) Bd.notSynchronized ?_ (Nat.le_trans (Nat.le_refl 0) (by decide)) (Nat.le_trans (Nat.le_refl 0) (by decide)) (fun fs hr => retI X0 hx Bd.returns (hb hby d8_17) hr)
      · exact ⟨by rw [hf], N0, e0⟩
    · rw [if_neg hc2] at hf
      refine Go.step (T' := s₁) (f' := (mkF m 16 #[.val (.int p1)] [])) (fun t kt => ?_) ?_
      · show Steps p.tables e below (s₁.setTop (mkF m 9 #[.val (.int p1)] [(.int p1)])) _
        refine XS.ifYes X0.here hx rfl (pc0 := 9) (pc' := 16) rfl (hb hby d8_9) rfl ((if0 _ _).trans (flt hc2).2.2.2) (by decide) (by decide) ?_
        exact kt
      refine Go.step (T' := s₁) (f' := (mkF m 17 #[.val (.int p1)] [(.int (0 : Int32))])) (fun t kt => ?_) ?_
      · show Steps p.tables e below (s₁.setTop (mkF m 16 #[.val (.int p1)] [])) _
        refine XS.iconst X0.here hx rfl (hb hby d8_16) ?_
        exact kt
      refine Go.fin X0 (v := some (.int (0 : Int32))) (fun h => by rw [Bd.returns] at h; cases h) Bd.notSynchronized ?_ (Nat.le_trans (Nat.le_refl 0) (by decide)) (Nat.le_trans (Nat.le_refl 0) (by decide)) (fun fs hr => retI X0 hx Bd.returns (hb hby d8_17) hr)
      · exact ⟨by rw [hf], N0, e0⟩
theorem d7_0 : decode jdk_35_method_42_code 0 = .ok (.lload_n 0, 1) := by decide +kernel
theorem d7_1 : decode jdk_35_method_42_code 1 = .ok (.lload_n 2, 1) := by decide +kernel
theorem d7_2 : decode jdk_35_method_42_code 2 = .ok (.lcmp, 1) := by decide +kernel
theorem d7_3 : decode jdk_35_method_42_code 3 = .ok (.ifCond .ge 7, 3) := by decide +kernel
theorem d7_6 : decode jdk_35_method_42_code 6 = .ok (.iconst (-1), 1) := by decide +kernel
theorem d7_7 : decode jdk_35_method_42_code 7 = .ok (.goto 14, 3) := by decide +kernel
theorem d7_10 : decode jdk_35_method_42_code 10 = .ok (.lload_n 0, 1) := by decide +kernel
theorem d7_11 : decode jdk_35_method_42_code 11 = .ok (.lload_n 2, 1) := by decide +kernel
theorem d7_12 : decode jdk_35_method_42_code 12 = .ok (.lcmp, 1) := by decide +kernel
theorem d7_13 : decode jdk_35_method_42_code 13 = .ok (.ifCond .ne 7, 3) := by decide +kernel
theorem d7_16 : decode jdk_35_method_42_code 16 = .ok (.iconst 0, 1) := by decide +kernel
theorem d7_17 : decode jdk_35_method_42_code 17 = .ok (.goto 4, 3) := by decide +kernel
theorem d7_20 : decode jdk_35_method_42_code 20 = .ok (.iconst 1, 1) := by decide +kernel
theorem d7_21 : decode jdk_35_method_42_code 21 = .ok (.ireturn, 1) := by decide +kernel
theorem pn_6 : plainName "java/lang/Long" = true := by first | (simp [plainName, overriddenIn]; done) | decide +kernel
theorem ef_cmL (m : MethodId) (x0 : Int64) (x1 : Int64) : entryFrame m #[(.long x0), (.long x1)] 4 = mkF m 0 #[.val (.long x0), .second, .val (.long x1), .second] [] := by first | (simp [entryFrame, mkF, argsToLocals, Value.category]; done) | rfl
def cmL (p1 : Int64) (p2 : Int64) : Int32 := (if p1 < p2 then (-1 : Int32) else (if p1 = p2 then (0 : Int32) else (1 : Int32)))
def QcmL (RES : Int32) (h0 : Heap) (n0 : Nat) (v : Option Value) (h : Heap) (L : List Loc) : Prop := v = some (.int RES) ∧ Fr n0 L ∧ h = h0
set_option maxRecDepth 65536 in
set_option maxHeartbeats 40000000 in
theorem rm_cmL (l : Launch) (Z : State) (a0 : Array Value) (hw : ∀ d ∈ tables_1, d.before a0 Z = true) (ws : List Jvm.Cond) (p1 : Int64) (p2 : Int64)  (h0 : Heap) (n0 : Nat) (Z0 : n0 ≤ h0.size) :
    MetFree l (⟨"java/lang/Long", "compare", "(JJ)I"⟩ : MethodName) (head1 (Jvm.Cond.code (⟨"java/lang/Long", "compare", "(JJ)I"⟩ : MethodName) jdk_35_method_42_code 4 (some .int) :: ws) ({ frames := 0, cells := 0, slots := 0, locals := 0 } : Room)) (fun A_ U => A_ = #[(.long p1), (.long p2)] ∧ Z.Warmed39 U.vm ∧ U.heap = h0) (fun _ _ _ _ _ => True) (fun _ U o U' => ∃ v L, o = .returned v ∧ QcmL (cmL p1 p2) h0 n0 v U'.heap L ∧ FrameEnd U o U' L ({ frames := 0, cells := 0, slots := 0, locals := 0 } : Room).cells ({ frames := 0, cells := 0, slots := 0, locals := 0 } : Room).slots) := by
  refine MetFree.of_bodySF (plainFor_of_name pn_6) hisR ?_
  intro p e s m args below meth c s₁ Bd hml0 hP hK
  obtain ⟨rfl, hZ, hh⟩ := hP
  have hx := Bd.exec
  have hby := Bd.bytes
  have hml : c.maxLocals = 4 := hml0
  have hown : s.vm.findClass "java/lang/Long" = some m.cls := findClass_of_methodNamed Bd.named
  have hnm := (name_of_methodNamed Bd.named Bd.method).1
  have X0 : Stand p l e ({ frames := 0, cells := 0, slots := 0, locals := 0 } : Room) s m #[(.long p1), (.long p2)] below meth c s₁ [] 0 0 := Stand.of_body Bd
  have e0 : s₁.heap = h0 := by rw [← hh, Bd.state]; rfl
  have N0 := Fr.nil n0
  obtain ⟨RES, hf⟩ : ∃ z, z = cmL p1 p2 := ⟨_, rfl⟩
  rw [← hf]
  rw [cmL] at hf
  suffices HGO : Go p e below s (QcmL RES h0 n0) ({ frames := 0, cells := 0, slots := 0, locals := 0 } : Room).cells ({ frames := 0, cells := 0, slots := 0, locals := 0 } : Room).slots s₁ (mkF m 0 #[.val (.long p1), .second, .val (.long p2), .second] []) from Go.cast (ef_cmL m p1 p2) HGO
  refine Go.step (T' := s₁) (f' := (mkF m 3 #[.val (.long p1), .second, .val (.long p2), .second] [(.int (lcmpW p1 p2))])) (fun t kt => ?_) ?_
  · show Steps p.tables e below (s₁.setTop (mkF m 0 #[.val (.long p1), .second, .val (.long p2), .second] [])) _
    refine XS.lloadN X0.here hx rfl (hb hby d7_0) rfl ?_
    show Steps p.tables e below (s₁.setTop (mkF m 1 #[.val (.long p1), .second, .val (.long p2), .second] [(.long p1)])) _
    refine XS.lloadN X0.here hx rfl (hb hby d7_1) rfl ?_
    show Steps p.tables e below (s₁.setTop (mkF m 2 #[.val (.long p1), .second, .val (.long p2), .second] [(.long p2), (.long p1)])) _
    refine XS.lcmp X0.here hx rfl (hb hby d7_2) rfl ?_
    exact kt
  by_cases hc1 : p1 < p2
  · rw [if_pos hc1] at hf
    refine Go.step (T' := s₁) (f' := (mkF m 6 #[.val (.long p1), .second, .val (.long p2), .second] [])) (fun t kt => ?_) ?_
    · show Steps p.tables e below (s₁.setTop (mkF m 3 #[.val (.long p1), .second, .val (.long p2), .second] [(.int (lcmpW p1 p2))])) _
      refine XS.ifNo X0.here hx rfl (hb hby d7_3) rfl ((if0 _ _).trans (tlt ((lw_lt _ _).mpr hc1)).2.1) ?_
      exact kt
    refine Go.step (T' := s₁) (f' := (mkF m 21 #[.val (.long p1), .second, .val (.long p2), .second] [(.int (-1 : Int32))])) (fun t kt => ?_) ?_
    · show Steps p.tables e below (s₁.setTop (mkF m 6 #[.val (.long p1), .second, .val (.long p2), .second] [])) _
      refine XS.iconst X0.here hx rfl (hb hby d7_6) ?_
      show Steps p.tables e below (s₁.setTop (mkF m 7 #[.val (.long p1), .second, .val (.long p2), .second] [(.int (-1 : Int32))])) _
      refine XS.goto X0.here hx rfl (pc0 := 7) (pc' := 21) rfl (hb hby d7_7) (by decide) (by decide) ?_
      exact kt
    refine Go.fin X0 (v := some (.int (-1 : Int32))) (fun h => by rw [Bd.returns] at h; cases h) Bd.notSynchronized ?_ (Nat.le_trans (Nat.le_refl 0) (by decide)) (Nat.le_trans (Nat.le_refl 0) (by decide)) (fun fs hr => retI X0 hx Bd.returns (hb hby d7_21) hr)
    · exact ⟨by rw [hf], N0, e0⟩
  · rw [if_neg hc1] at hf
    refine Go.step (T' := s₁) (f' := (mkF m 10 #[.val (.long p1), .second, .val (.long p2), .second] [])) (fun t kt => ?_) ?_
    · show Steps p.tables e below (s₁.setTop (mkF m 3 #[.val (.long p1), .second, .val (.long p2), .second] [(.int (lcmpW p1 p2))])) _
      refine XS.ifYes X0.here hx rfl (pc0 := 3) (pc' := 10) rfl (hb hby d7_3) rfl ((if0 _ _).trans (flt (fun q => hc1 ((lw_lt _ _).mp q))).2.1) (by decide) (by decide) ?_
      exact kt
    refine Go.step (T' := s₁) (f' := (mkF m 13 #[.val (.long p1), .second, .val (.long p2), .second] [(.int (lcmpW p1 p2))])) (fun t kt => ?_) ?_
    · show Steps p.tables e below (s₁.setTop (mkF m 10 #[.val (.long p1), .second, .val (.long p2), .second] [])) _
      refine XS.lloadN X0.here hx rfl (hb hby d7_10) rfl ?_
      show Steps p.tables e below (s₁.setTop (mkF m 11 #[.val (.long p1), .second, .val (.long p2), .second] [(.long p1)])) _
      refine XS.lloadN X0.here hx rfl (hb hby d7_11) rfl ?_
      show Steps p.tables e below (s₁.setTop (mkF m 12 #[.val (.long p1), .second, .val (.long p2), .second] [(.long p2), (.long p1)])) _
      refine XS.lcmp X0.here hx rfl (hb hby d7_12) rfl ?_
      exact kt
    by_cases hc2 : p1 = p2
    · rw [if_pos hc2] at hf
      refine Go.step (T' := s₁) (f' := (mkF m 16 #[.val (.long p1), .second, .val (.long p2), .second] [])) (fun t kt => ?_) ?_
      · show Steps p.tables e below (s₁.setTop (mkF m 13 #[.val (.long p1), .second, .val (.long p2), .second] [(.int (lcmpW p1 p2))])) _
        refine XS.ifNo X0.here hx rfl (hb hby d7_13) rfl ((if0 _ _).trans (teq ((lw_eq _ _).mpr hc2)).2) ?_
        exact kt
      refine Go.step (T' := s₁) (f' := (mkF m 21 #[.val (.long p1), .second, .val (.long p2), .second] [(.int (0 : Int32))])) (fun t kt => ?_) ?_
      · show Steps p.tables e below (s₁.setTop (mkF m 16 #[.val (.long p1), .second, .val (.long p2), .second] [])) _
        refine XS.iconst X0.here hx rfl (hb hby d7_16) ?_
        show Steps p.tables e below (s₁.setTop (mkF m 17 #[.val (.long p1), .second, .val (.long p2), .second] [(.int (0 : Int32))])) _
        refine XS.goto X0.here hx rfl (pc0 := 17) (pc' := 21) rfl (hb hby d7_17) (by decide) (by decide) ?_
        exact kt
      refine Go.fin X0 (v := some (.int (0 : Int32))) (fun h => by rw [Bd.returns] at h; cases h) Bd.notSynchronized ?_ (Nat.le_trans (Nat.le_refl 0) (by decide)) (Nat.le_trans (Nat.le_refl 0) (by decide)) (fun fs hr => retI X0 hx Bd.returns (hb hby d7_21) hr)
      · exact ⟨by rw [hf], N0, e0⟩
    · rw [if_neg hc2] at hf
      refine Go.step (T' := s₁) (f' := (mkF m 20 #[.val (.long p1), .second, .val (.long p2), .second] [])) (fun t kt => ?_) ?_
      · show Steps p.tables e below (s₁.setTop (mkF m 13 #[.val (.long p1), .second, .val (.long p2), .second] [(.int (lcmpW p1 p2))])) _
        refine XS.ifYes X0.here hx rfl (pc0 := 13) (pc' := 20) rfl (hb hby d7_13) rfl ((if0 _ _).trans (feq (fun q => hc2 ((lw_eq _ _).mp q))).2) (by decide) (by decide) ?_
        exact kt
      refine Go.step (T' := s₁) (f' := (mkF m 21 #[.val (.long p1), .second, .val (.long p2), .second] [(.int (1 : Int32))])) (fun t kt => ?_) ?_
      · show Steps p.tables e below (s₁.setTop (mkF m 20 #[.val (.long p1), .second, .val (.long p2), .second] [])) _
        refine XS.iconst X0.here hx rfl (hb hby d7_20) ?_
        exact kt
      refine Go.fin X0 (v := some (.int (1 : Int32))) (fun h => by rw [Bd.returns] at h; cases h) Bd.notSynchronized ?_ (Nat.le_trans (Nat.le_refl 0) (by decide)) (Nat.le_trans (Nat.le_refl 0) (by decide)) (fun fs hr => retI X0 hx Bd.returns (hb hby d7_21) hr)
      · exact ⟨by rw [hf], N0, e0⟩
theorem pd_10 : parseMethodDescriptor "(JJ)I" = some ⟨[.long, .long], some .int⟩ := by decide +kernel
theorem d6_0 : decode jdk_35_method_43_code 0 = .ok (.lload_n 0, 1) := by decide +kernel
theorem d6_1 : decode jdk_35_method_43_code 1 = .ok (.ldc2_w 168, 3) := by decide +kernel
theorem d6_4 : decode jdk_35_method_43_code 4 = .ok (.ladd, 1) := by decide +kernel
theorem d6_5 : decode jdk_35_method_43_code 5 = .ok (.lload_n 2, 1) := by decide +kernel
theorem d6_6 : decode jdk_35_method_43_code 6 = .ok (.ldc2_w 168, 3) := by decide +kernel
theorem d6_9 : decode jdk_35_method_43_code 9 = .ok (.ladd, 1) := by decide +kernel
theorem d6_10 : decode jdk_35_method_43_code 10 = .ok (.invokestatic 302, 3) := by decide +kernel
theorem d6_13 : decode jdk_35_method_43_code 13 = .ok (.ireturn, 1) := by decide +kernel
theorem ef_cuF (m : MethodId) (x0 : Int64) (x1 : Int64) : entryFrame m #[(.long x0), (.long x1)] 4 = mkF m 0 #[.val (.long x0), .second, .val (.long x1), .second] [] := by first | (simp [entryFrame, mkF, argsToLocals, Value.category]; done) | rfl
def cuF (p1 : Int64) (p2 : Int64) : Int32 := (cmL (p1 + (-9223372036854775808 : Int64)) (p2 + (-9223372036854775808 : Int64)))
def QcuF (RES : Int32) (h0 : Heap) (n0 : Nat) (v : Option Value) (h : Heap) (L : List Loc) : Prop := v = some (.int RES) ∧ Fr n0 L ∧ h = h0
set_option maxRecDepth 65536 in
set_option maxHeartbeats 40000000 in
theorem rm_cuF (l : Launch) (Z : State) (a0 : Array Value) (hw : ∀ d ∈ tables_1, d.before a0 Z = true) (ws : List Jvm.Cond) (p1 : Int64) (p2 : Int64)  (h0 : Heap) (n0 : Nat) (Z0 : n0 ≤ h0.size) :
    MetFree l (⟨"java/lang/Long", "compareUnsigned", "(JJ)I"⟩ : MethodName) (head1 (Jvm.Cond.code (⟨"java/lang/Long", "compareUnsigned", "(JJ)I"⟩ : MethodName) jdk_35_method_43_code 4 (some .int) :: ws) ({ frames := 1, cells := 0, slots := 0, locals := 15 } : Room)) (fun A_ U => A_ = #[(.long p1), (.long p2)] ∧ Z.Warmed39 U.vm ∧ U.heap = h0) (fun _ _ _ _ _ => True) (fun _ U o U' => ∃ v L, o = .returned v ∧ QcuF (cuF p1 p2) h0 n0 v U'.heap L ∧ FrameEnd U o U' L ({ frames := 1, cells := 0, slots := 0, locals := 15 } : Room).cells ({ frames := 1, cells := 0, slots := 0, locals := 15 } : Room).slots) := by
  refine MetFree.of_bodySF (plainFor_of_name pn_6) hisR ?_
  intro p e s m args below meth c s₁ Bd hml0 hP hK
  obtain ⟨rfl, hZ, hh⟩ := hP
  have hx := Bd.exec
  have hby := Bd.bytes
  have hml : c.maxLocals = 4 := hml0
  have hown : s.vm.findClass "java/lang/Long" = some m.cls := findClass_of_methodNamed Bd.named
  have hnm := (name_of_methodNamed Bd.named Bd.method).1
  have X0 : Stand p l e ({ frames := 1, cells := 0, slots := 0, locals := 15 } : Room) s m #[(.long p1), (.long p2)] below meth c s₁ [] 0 0 := Stand.of_body Bd
  have e0 : s₁.heap = h0 := by rw [← hh, Bd.state]; rfl
  have N0 := Fr.nil n0
  obtain ⟨RES, hf⟩ : ∃ z, z = cuF p1 p2 := ⟨_, rfl⟩
  rw [← hf]
  rw [cuF] at hf
  suffices HGO : Go p e below s (QcuF RES h0 n0) ({ frames := 1, cells := 0, slots := 0, locals := 15 } : Room).cells ({ frames := 1, cells := 0, slots := 0, locals := 15 } : Room).slots s₁ (mkF m 0 #[.val (.long p1), .second, .val (.long p2), .second] []) from Go.cast (ef_cuF m p1 p2) HGO
  obtain ⟨_, _, ⟨T1, L1, k1, n1⟩, -, X1, ⟨Lc1, hQ1, l1, y1, z1⟩, st1⟩ := Jvm.LawKit.callS X0 hx (y := (⟨"java/lang/Long", "compare", "(JJ)I"⟩ : MethodName)) hown (mvT hZ (hw _ (List.mem_of_getElem? (i := 33) rfl))) (mvT hZ (hw _ (List.mem_of_getElem? (i := 34) rfl))) (mvT hZ (hw _ (List.mem_of_getElem? (i := 30) rfl))) (mvT hZ (hw _ (List.mem_of_getElem? (i := 35) rfl))) (by decide) (backOf (W := 0) (rm_cmL l Z a0 hw [] (p1 + (-9223372036854775808 : Int64)) (p2 + (-9223372036854775808 : Int64))  h0 n0 Z0 ) hZ (hw _ (List.mem_of_getElem? (i := 35) rfl)) (hw _ (List.mem_of_getElem? (i := 30) rfl)) (by decide) (by decide)) (g := (mkF m 10 #[.val (.long p1), .second, .val (.long p2), .second] [(.long (p2 + (-9223372036854775808 : Int64))), (.long (p1 + (-9223372036854775808 : Int64)))])) rfl (by rw [hml]; rfl) (argsL := [(.long (p1 + (-9223372036854775808 : Int64))), (.long (p2 + (-9223372036854775808 : Int64)))]) (rest := []) (lenOf pd_10 rfl) rfl (by show 2 * 0 + _ ≤ _; exact Nat.le_of_eq rfl) (hb hby d6_10) (fun _ _ => ⟨rfl, e0, (Nat.le_trans (Nat.add_le_add_right (Nat.le_refl 0) 0) (by decide)), (Nat.le_trans (Nat.add_le_add_right (Nat.le_refl 0) 0) (by decide))⟩)
  dsimp only [Pt.U, Pt.locs, Pt.cells, Pt.slots] at X1 l1 y1 z1 st1 hQ1
  subst l1 y1 z1
  obtain ⟨rfl, N1q, e1⟩ := hQ1
  have N1 := Fr.app N0 N1q
  refine Go.step (T' := T1) (f' := (mkF m 13 #[.val (.long p1), .second, .val (.long p2), .second] [(.int (cmL (p1 + (-9223372036854775808 : Int64)) (p2 + (-9223372036854775808 : Int64))))])) (fun t kt => ?_) ?_
  · show Steps p.tables e below (s₁.setTop (mkF m 0 #[.val (.long p1), .second, .val (.long p2), .second] [])) _
    refine XS.lloadN X0.here hx rfl (hb hby d6_0) rfl ?_
    show Steps p.tables e below (s₁.setTop (mkF m 1 #[.val (.long p1), .second, .val (.long p2), .second] [(.long p1)])) _
    refine X0.ldc2Long hx hown (mvT hZ (hw _ (List.mem_of_getElem? (i := 32) rfl))) (g := (mkF m 1 #[.val (.long p1), .second, .val (.long p2), .second] [(.long p1)])) rfl (hb hby d6_1) _ ?_
    show Steps p.tables e below (s₁.setTop (mkF m 4 #[.val (.long p1), .second, .val (.long p2), .second] [(.long (-9223372036854775808 : Int64)), (.long p1)])) _
    refine XS.ladd X0.here hx rfl (hb hby d6_4) rfl ?_
    show Steps p.tables e below (s₁.setTop (mkF m 5 #[.val (.long p1), .second, .val (.long p2), .second] [(.long (p1 + (-9223372036854775808 : Int64)))])) _
    refine XS.lloadN X0.here hx rfl (hb hby d6_5) rfl ?_
    show Steps p.tables e below (s₁.setTop (mkF m 6 #[.val (.long p1), .second, .val (.long p2), .second] [(.long p2), (.long (p1 + (-9223372036854775808 : Int64)))])) _
    refine X0.ldc2Long hx hown (mvT hZ (hw _ (List.mem_of_getElem? (i := 32) rfl))) (g := (mkF m 6 #[.val (.long p1), .second, .val (.long p2), .second] [(.long p2), (.long (p1 + (-9223372036854775808 : Int64)))])) rfl (hb hby d6_6) _ ?_
    show Steps p.tables e below (s₁.setTop (mkF m 9 #[.val (.long p1), .second, .val (.long p2), .second] [(.long (-9223372036854775808 : Int64)), (.long p2), (.long (p1 + (-9223372036854775808 : Int64)))])) _
    refine XS.ladd X0.here hx rfl (hb hby d6_9) rfl ?_
    show Steps p.tables e below (s₁.setTop (mkF m 10 #[.val (.long p1), .second, .val (.long p2), .second] [(.long (p2 + (-9223372036854775808 : Int64))), (.long (p1 + (-9223372036854775808 : Int64)))])) _
    refine st1 _ ?_
    exact kt
  refine Go.fin X1 (v := some (.int (cmL (p1 + (-9223372036854775808 : Int64)) (p2 + (-9223372036854775808 : Int64))))) (fun h => by rw [Bd.returns] at h; cases h) Bd.notSynchronized ?_ (Nat.le_trans (Nat.add_le_add_right (Nat.le_refl 0) 0) (by decide)) (Nat.le_trans (Nat.add_le_add_right (Nat.le_refl 0) 0) (by decide)) (fun fs hr => retI X1 hx Bd.returns (hb hby d6_13) hr)
  · exact ⟨by rw [hf], N1, e1⟩
theorem d5_0 : decode prog_11_method_7_code 0 = .ok (.aload_n 0, 1) := by decide +kernel
theorem d5_1 : decode prog_11_method_7_code 1 = .ok (.getfield 11, 3) := by decide +kernel
theorem d5_4 : decode prog_11_method_7_code 4 = .ok (.aload_n 1, 1) := by decide +kernel
theorem d5_5 : decode prog_11_method_7_code 5 = .ok (.getfield 11, 3) := by decide +kernel
theorem d5_8 : decode prog_11_method_7_code 8 = .ok (.invokestatic 21, 3) := by decide +kernel
theorem d5_11 : decode prog_11_method_7_code 11 = .ok (.istore_n 2, 1) := by decide +kernel
theorem d5_12 : decode prog_11_method_7_code 12 = .ok (.iload_n 2, 1) := by decide +kernel
theorem d5_13 : decode prog_11_method_7_code 13 = .ok (.ifCond .eq 7, 3) := by decide +kernel
theorem d5_16 : decode prog_11_method_7_code 16 = .ok (.iload_n 2, 1) := by decide +kernel
theorem d5_17 : decode prog_11_method_7_code 17 = .ok (.goto 14, 3) := by decide +kernel
theorem d5_20 : decode prog_11_method_7_code 20 = .ok (.aload_n 0, 1) := by decide +kernel
theorem d5_21 : decode prog_11_method_7_code 21 = .ok (.getfield 15, 3) := by decide +kernel
theorem d5_24 : decode prog_11_method_7_code 24 = .ok (.aload_n 1, 1) := by decide +kernel
theorem d5_25 : decode prog_11_method_7_code 25 = .ok (.getfield 15, 3) := by decide +kernel
theorem d5_28 : decode prog_11_method_7_code 28 = .ok (.invokestatic 21, 3) := by decide +kernel
theorem d5_31 : decode prog_11_method_7_code 31 = .ok (.ireturn, 1) := by decide +kernel
theorem ef_cmpF (m : MethodId) (x0 : Addr) (x1 : Addr) : entryFrame m #[(.ref x0), (.ref x1)] 3 = mkF m 0 #[.val (.ref x0), .val (.ref x1), .unset] [] := by first | (simp [entryFrame, mkF, argsToLocals, Value.category]; done) | rfl
def cmpF (hi1 : Int64) (lo1 : Int64) (hi2 : Int64) (lo2 : Int64) : Int32 := (if (cuF hi1 hi2) = (0 : Int32) then (cuF lo1 lo2) else (cuF hi1 hi2))
def QcmpF (Z : State) (a : Addr) (b : Addr) (hi1 : Int64) (lo1 : Int64) (hi2 : Int64) (lo2 : Int64) (RES : Int32) (h0 : Heap) (n0 : Nat) (v : Option Value) (h : Heap) (L : List Loc) : Prop := v = some (.int RES) ∧ Fr n0 L ∧ h = h0
set_option maxRecDepth 65536 in
set_option maxHeartbeats 40000000 in
theorem rm_cmpF (l : Launch) (Z : State) (a0 : Array Value) (hw : ∀ d ∈ tables_1, d.before a0 Z = true) (ws : List Jvm.Cond) (a : Addr) (b : Addr) (hi1 : Int64) (lo1 : Int64) (hi2 : Int64) (lo2 : Int64) (h0 : Heap) (n0 : Nat) (Z0 : n0 ≤ h0.size) (F0 : Fld Z h0 a "com/example/lane4/lane4/model/JobId" "high" "J" (.long hi1)) (F1 : Fld Z h0 a "com/example/lane4/lane4/model/JobId" "low" "J" (.long lo1)) (F2 : Fld Z h0 b "com/example/lane4/lane4/model/JobId" "high" "J" (.long hi2)) (F3 : Fld Z h0 b "com/example/lane4/lane4/model/JobId" "low" "J" (.long lo2)) :
    MetFree l (⟨"com/example/lane4/lane4/model/JobId", "compareTo", "(Lcom/example/lane4/lane4/model/JobId;)I"⟩ : MethodName) (head1 (Jvm.Cond.code (⟨"com/example/lane4/lane4/model/JobId", "compareTo", "(Lcom/example/lane4/lane4/model/JobId;)I"⟩ : MethodName) prog_11_method_7_code 3 (some .int) :: ws) ({ frames := 2, cells := 0, slots := 0, locals := 30 } : Room)) (fun A_ U => A_ = #[(.ref a), (.ref b)] ∧ Z.Warmed39 U.vm ∧ U.heap = h0) (fun _ _ _ _ _ => True) (fun _ U o U' => ∃ v L, o = .returned v ∧ QcmpF Z a b hi1 lo1 hi2 lo2 (cmpF hi1 lo1 hi2 lo2) h0 n0 v U'.heap L ∧ FrameEnd U o U' L ({ frames := 2, cells := 0, slots := 0, locals := 30 } : Room).cells ({ frames := 2, cells := 0, slots := 0, locals := 30 } : Room).slots) := by
  refine MetFree.of_bodySF (plainFor_of_name pn_4) hisR ?_
  intro p e s m args below meth c s₁ Bd hml0 hP hK
  obtain ⟨rfl, hZ, hh⟩ := hP
  have hx := Bd.exec
  have hby := Bd.bytes
  have hml : c.maxLocals = 3 := hml0
  have hown : s.vm.findClass "com/example/lane4/lane4/model/JobId" = some m.cls := findClass_of_methodNamed Bd.named
  have hnm := (name_of_methodNamed Bd.named Bd.method).1
  have X0 : Stand p l e ({ frames := 2, cells := 0, slots := 0, locals := 30 } : Room) s m #[(.ref a), (.ref b)] below meth c s₁ [] 0 0 := Stand.of_body Bd
  have e0 : s₁.heap = h0 := by rw [← hh, Bd.state]; rfl
  have N0 := Fr.nil n0
  obtain ⟨RES, hf⟩ : ∃ z, z = cmpF hi1 lo1 hi2 lo2 := ⟨_, rfl⟩
  rw [← hf]
  rw [cmpF] at hf
  suffices HGO : Go p e below s (QcmpF Z a b hi1 lo1 hi2 lo2 RES h0 n0) ({ frames := 2, cells := 0, slots := 0, locals := 30 } : Room).cells ({ frames := 2, cells := 0, slots := 0, locals := 30 } : Room).slots s₁ (mkF m 0 #[.val (.ref a), .val (.ref b), .unset] []) from Go.cast (ef_cmpF m a b) HGO
  obtain ⟨T1, X1, e1, st1⟩ := getF X0 hx hZ hown (host := "") (Or.inl (hw _ (List.mem_of_getElem? (i := 14) rfl))) Via.refl e0 F0 (g := (mkF m 1 #[.val (.ref a), .val (.ref b), .unset] [(.ref a)])) rfl rfl (hb hby d5_1)
  obtain ⟨T2, X2, e2, st2⟩ := getF X1 hx hZ hown (host := "") (Or.inl (hw _ (List.mem_of_getElem? (i := 14) rfl))) Via.refl e1 F2 (g := (mkF m 5 #[.val (.ref a), .val (.ref b), .unset] [(.ref b), (.long hi1)])) rfl rfl (hb hby d5_5)
  obtain ⟨_, _, ⟨T3, L3, k3, n3⟩, -, X3, ⟨Lc3, hQ3, l3, y3, z3⟩, st3⟩ := Jvm.LawKit.callS X2 hx (y := (⟨"java/lang/Long", "compareUnsigned", "(JJ)I"⟩ : MethodName)) hown (mvT hZ (hw _ (List.mem_of_getElem? (i := 28) rfl))) (mvT hZ (hw _ (List.mem_of_getElem? (i := 29) rfl))) (mvT hZ (hw _ (List.mem_of_getElem? (i := 30) rfl))) (mvT hZ (hw _ (List.mem_of_getElem? (i := 31) rfl))) (by decide) (backOf (W := 0) (rm_cuF l Z a0 hw [] hi1 hi2  h0 n0 Z0 ) hZ (hw _ (List.mem_of_getElem? (i := 31) rfl)) (hw _ (List.mem_of_getElem? (i := 30) rfl)) (by decide) (by decide)) (g := (mkF m 8 #[.val (.ref a), .val (.ref b), .unset] [(.long hi2), (.long hi1)])) rfl (by rw [hml]; rfl) (argsL := [(.long hi1), (.long hi2)]) (rest := []) (lenOf pd_10 rfl) rfl (by show 2 * 0 + _ ≤ _; exact Nat.le_of_eq rfl) (hb hby d5_8) (fun _ _ => ⟨rfl, e2, (Nat.le_trans (Nat.add_le_add_right (Nat.le_refl 0) 0) (by decide)), (Nat.le_trans (Nat.add_le_add_right (Nat.le_refl 0) 0) (by decide))⟩)
  dsimp only [Pt.U, Pt.locs, Pt.cells, Pt.slots] at X3 l3 y3 z3 st3 hQ3
  subst l3 y3 z3
  obtain ⟨rfl, N3q, e3⟩ := hQ3
  have N3 := Fr.app N0 N3q
  refine Go.step (T' := T3) (f' := (mkF m 13 #[.val (.ref a), .val (.ref b), .val (.int (cuF hi1 hi2))] [(.int (cuF hi1 hi2))])) (fun t kt => ?_) ?_
  · show Steps p.tables e below (s₁.setTop (mkF m 0 #[.val (.ref a), .val (.ref b), .unset] [])) _
    refine XS.aloadN X0.here hx rfl (hb hby d5_0) rfl rfl ?_
    show Steps p.tables e below (s₁.setTop (mkF m 1 #[.val (.ref a), .val (.ref b), .unset] [(.ref a)])) _
    refine st1 _ ?_
    show Steps p.tables e below (T1.setTop (mkF m 4 #[.val (.ref a), .val (.ref b), .unset] [(.long hi1)])) _
    refine XS.aloadN X1.here hx rfl (hb hby d5_4) rfl rfl ?_
    show Steps p.tables e below (T1.setTop (mkF m 5 #[.val (.ref a), .val (.ref b), .unset] [(.ref b), (.long hi1)])) _
    refine st2 _ ?_
    show Steps p.tables e below (T2.setTop (mkF m 8 #[.val (.ref a), .val (.ref b), .unset] [(.long hi2), (.long hi1)])) _
    refine st3 _ ?_
    show Steps p.tables e below (T3.setTop (mkF m 11 #[.val (.ref a), .val (.ref b), .unset] [(.int (cuF hi1 hi2))])) _
    refine XS.istoreN X3.here hx rfl (hb hby d5_11) rfl (l' := #[.val (.ref a), .val (.ref b), .val (.int (cuF hi1 hi2))]) rfl ?_
    show Steps p.tables e below (T3.setTop (mkF m 12 #[.val (.ref a), .val (.ref b), .val (.int (cuF hi1 hi2))] [])) _
    refine XS.iloadN X3.here hx rfl (hb hby d5_12) rfl ?_
    exact kt
  by_cases hc4 : (cuF hi1 hi2) = (0 : Int32)
  · rw [if_pos hc4] at hf
    refine Go.step (T' := T3) (f' := (mkF m 20 #[.val (.ref a), .val (.ref b), .val (.int (cuF hi1 hi2))] [])) (fun t kt => ?_) ?_
    · show Steps p.tables e below (T3.setTop (mkF m 13 #[.val (.ref a), .val (.ref b), .val (.int (cuF hi1 hi2))] [(.int (cuF hi1 hi2))])) _
      refine XS.ifYes X3.here hx rfl (pc0 := 13) (pc' := 20) rfl (hb hby d5_13) rfl ((if0 _ _).trans (teq hc4).1) (by decide) (by decide) ?_
      exact kt
    obtain ⟨T5, X5, e5, st5⟩ := getF X3 hx hZ hown (host := "") (Or.inl (hw _ (List.mem_of_getElem? (i := 16) rfl))) Via.refl e3 F1 (g := (mkF m 21 #[.val (.ref a), .val (.ref b), .val (.int (cuF hi1 hi2))] [(.ref a)])) rfl rfl (hb hby d5_21)
    obtain ⟨T6, X6, e6, st6⟩ := getF X5 hx hZ hown (host := "") (Or.inl (hw _ (List.mem_of_getElem? (i := 16) rfl))) Via.refl e5 F3 (g := (mkF m 25 #[.val (.ref a), .val (.ref b), .val (.int (cuF hi1 hi2))] [(.ref b), (.long lo1)])) rfl rfl (hb hby d5_25)
    obtain ⟨_, _, ⟨T7, L7, k7, n7⟩, -, X7, ⟨Lc7, hQ7, l7, y7, z7⟩, st7⟩ := Jvm.LawKit.callS X6 hx (y := (⟨"java/lang/Long", "compareUnsigned", "(JJ)I"⟩ : MethodName)) hown (mvT hZ (hw _ (List.mem_of_getElem? (i := 28) rfl))) (mvT hZ (hw _ (List.mem_of_getElem? (i := 29) rfl))) (mvT hZ (hw _ (List.mem_of_getElem? (i := 30) rfl))) (mvT hZ (hw _ (List.mem_of_getElem? (i := 31) rfl))) (by decide) (backOf (W := 0) (rm_cuF l Z a0 hw [] lo1 lo2  h0 n0 Z0 ) hZ (hw _ (List.mem_of_getElem? (i := 31) rfl)) (hw _ (List.mem_of_getElem? (i := 30) rfl)) (by decide) (by decide)) (g := (mkF m 28 #[.val (.ref a), .val (.ref b), .val (.int (cuF hi1 hi2))] [(.long lo2), (.long lo1)])) rfl (by rw [hml]; rfl) (argsL := [(.long lo1), (.long lo2)]) (rest := []) (lenOf pd_10 rfl) rfl (by show 2 * 0 + _ ≤ _; exact Nat.le_of_eq rfl) (hb hby d5_28) (fun _ _ => ⟨rfl, e6, (Nat.le_trans (Nat.add_le_add_right (Nat.add_le_add_right (Nat.le_refl 0) 0) 0) (by decide)), (Nat.le_trans (Nat.add_le_add_right (Nat.add_le_add_right (Nat.le_refl 0) 0) 0) (by decide))⟩)
    dsimp only [Pt.U, Pt.locs, Pt.cells, Pt.slots] at X7 l7 y7 z7 st7 hQ7
    subst l7 y7 z7
    obtain ⟨rfl, N7q, e7⟩ := hQ7
    have N7 := Fr.app N3 N7q
    refine Go.step (T' := T7) (f' := (mkF m 31 #[.val (.ref a), .val (.ref b), .val (.int (cuF hi1 hi2))] [(.int (cuF lo1 lo2))])) (fun t kt => ?_) ?_
    · show Steps p.tables e below (T3.setTop (mkF m 20 #[.val (.ref a), .val (.ref b), .val (.int (cuF hi1 hi2))] [])) _
      refine XS.aloadN X3.here hx rfl (hb hby d5_20) rfl rfl ?_
      show Steps p.tables e below (T3.setTop (mkF m 21 #[.val (.ref a), .val (.ref b), .val (.int (cuF hi1 hi2))] [(.ref a)])) _
      refine st5 _ ?_
      show Steps p.tables e below (T5.setTop (mkF m 24 #[.val (.ref a), .val (.ref b), .val (.int (cuF hi1 hi2))] [(.long lo1)])) _
      refine XS.aloadN X5.here hx rfl (hb hby d5_24) rfl rfl ?_
      show Steps p.tables e below (T5.setTop (mkF m 25 #[.val (.ref a), .val (.ref b), .val (.int (cuF hi1 hi2))] [(.ref b), (.long lo1)])) _
      refine st6 _ ?_
      show Steps p.tables e below (T6.setTop (mkF m 28 #[.val (.ref a), .val (.ref b), .val (.int (cuF hi1 hi2))] [(.long lo2), (.long lo1)])) _
      refine st7 _ ?_
      exact kt
    refine Go.fin X7 (v := some (.int (cuF lo1 lo2))) (fun h => by rw [Bd.returns] at h; cases h) Bd.notSynchronized ?_ (Nat.le_trans (Nat.add_le_add_right (Nat.add_le_add_right (Nat.le_refl 0) 0) 0) (by decide)) (Nat.le_trans (Nat.add_le_add_right (Nat.add_le_add_right (Nat.le_refl 0) 0) 0) (by decide)) (fun fs hr => retI X7 hx Bd.returns (hb hby d5_31) hr)
    · exact ⟨by rw [hf], N7, e7⟩
  · rw [if_neg hc4] at hf
    refine Go.step (T' := T3) (f' := (mkF m 16 #[.val (.ref a), .val (.ref b), .val (.int (cuF hi1 hi2))] [])) (fun t kt => ?_) ?_
    · show Steps p.tables e below (T3.setTop (mkF m 13 #[.val (.ref a), .val (.ref b), .val (.int (cuF hi1 hi2))] [(.int (cuF hi1 hi2))])) _
      refine XS.ifNo X3.here hx rfl (hb hby d5_13) rfl ((if0 _ _).trans (feq hc4).1) ?_
      exact kt
    refine Go.step (T' := T3) (f' := (mkF m 31 #[.val (.ref a), .val (.ref b), .val (.int (cuF hi1 hi2))] [(.int (cuF hi1 hi2))])) (fun t kt => ?_) ?_
    · show Steps p.tables e below (T3.setTop (mkF m 16 #[.val (.ref a), .val (.ref b), .val (.int (cuF hi1 hi2))] [])) _
      refine XS.iloadN X3.here hx rfl (hb hby d5_16) rfl ?_
      show Steps p.tables e below (T3.setTop (mkF m 17 #[.val (.ref a), .val (.ref b), .val (.int (cuF hi1 hi2))] [(.int (cuF hi1 hi2))])) _
      refine XS.goto X3.here hx rfl (pc0 := 17) (pc' := 31) rfl (hb hby d5_17) (by decide) (by decide) ?_
      exact kt
    refine Go.fin X3 (v := some (.int (cuF hi1 hi2))) (fun h => by rw [Bd.returns] at h; cases h) Bd.notSynchronized ?_ (Nat.le_trans (Nat.add_le_add_right (Nat.le_refl 0) 0) (by decide)) (Nat.le_trans (Nat.add_le_add_right (Nat.le_refl 0) 0) (by decide)) (fun fs hr => retI X3 hx Bd.returns (hb hby d5_31) hr)
    · exact ⟨by rw [hf], N3, e3⟩
theorem d9_0 : decode prog_11_method_8_code 0 = .ok (.aload_n 1, 1) := by decide +kernel
theorem d9_1 : decode prog_11_method_8_code 1 = .ok (.instanceof 3, 3) := by decide +kernel
theorem d9_4 : decode prog_11_method_8_code 4 = .ok (.ifCond .eq 36, 3) := by decide +kernel
theorem d9_7 : decode prog_11_method_8_code 7 = .ok (.aload_n 1, 1) := by decide +kernel
theorem d9_8 : decode prog_11_method_8_code 8 = .ok (.checkcast 3, 3) := by decide +kernel
theorem d9_11 : decode prog_11_method_8_code 11 = .ok (.astore_n 2, 1) := by decide +kernel
theorem d9_12 : decode prog_11_method_8_code 12 = .ok (.aload_n 2, 1) := by decide +kernel
theorem d9_13 : decode prog_11_method_8_code 13 = .ok (.getfield 11, 3) := by decide +kernel
theorem d9_16 : decode prog_11_method_8_code 16 = .ok (.aload_n 0, 1) := by decide +kernel
theorem d9_17 : decode prog_11_method_8_code 17 = .ok (.getfield 11, 3) := by decide +kernel
theorem d9_20 : decode prog_11_method_8_code 20 = .ok (.lcmp, 1) := by decide +kernel
theorem d9_21 : decode prog_11_method_8_code 21 = .ok (.ifCond .ne 19, 3) := by decide +kernel
theorem d9_24 : decode prog_11_method_8_code 24 = .ok (.aload_n 2, 1) := by decide +kernel
theorem d9_25 : decode prog_11_method_8_code 25 = .ok (.getfield 15, 3) := by decide +kernel
theorem d9_28 : decode prog_11_method_8_code 28 = .ok (.aload_n 0, 1) := by decide +kernel
theorem d9_29 : decode prog_11_method_8_code 29 = .ok (.getfield 15, 3) := by decide +kernel
theorem d9_32 : decode prog_11_method_8_code 32 = .ok (.lcmp, 1) := by decide +kernel
theorem d9_33 : decode prog_11_method_8_code 33 = .ok (.ifCond .ne 7, 3) := by decide +kernel
theorem d9_36 : decode prog_11_method_8_code 36 = .ok (.iconst 1, 1) := by decide +kernel
theorem d9_37 : decode prog_11_method_8_code 37 = .ok (.goto 4, 3) := by decide +kernel
theorem d9_40 : decode prog_11_method_8_code 40 = .ok (.iconst 0, 1) := by decide +kernel
theorem d9_41 : decode prog_11_method_8_code 41 = .ok (.ireturn, 1) := by decide +kernel
theorem ef_eqF (m : MethodId) (x0 : Addr) (x1 : Addr) : entryFrame m #[(.ref x0), (.ref x1)] 3 = mkF m 0 #[.val (.ref x0), .val (.ref x1), .unset] [] := by first | (simp [entryFrame, mkF, argsToLocals, Value.category]; done) | rfl
def eqF (hi1 : Int64) (lo1 : Int64) (hi2 : Int64) (lo2 : Int64) : Int32 := (if hi2 = hi1 then (if lo2 = lo1 then (1 : Int32) else (0 : Int32)) else (0 : Int32))
def QeqF (Z : State) (a : Addr) (b : Addr) (hi1 : Int64) (lo1 : Int64) (hi2 : Int64) (lo2 : Int64) (RES : Int32) (h0 : Heap) (n0 : Nat) (v : Option Value) (h : Heap) (L : List Loc) : Prop := v = some (.int RES) ∧ Fr n0 L ∧ h = h0
set_option maxRecDepth 65536 in
set_option maxHeartbeats 40000000 in
theorem rm_eqF (l : Launch) (Z : State) (a0 : Array Value) (hw : ∀ d ∈ tables_1, d.before a0 Z = true) (ws : List Jvm.Cond) (a : Addr) (b : Addr) (hi1 : Int64) (lo1 : Int64) (hi2 : Int64) (lo2 : Int64) (h0 : Heap) (n0 : Nat) (Z0 : n0 ≤ h0.size) (F0 : Fld Z h0 a "com/example/lane4/lane4/model/JobId" "high" "J" (.long hi1)) (F1 : Fld Z h0 a "com/example/lane4/lane4/model/JobId" "low" "J" (.long lo1)) (F2 : Exa Z h0 b "com/example/lane4/lane4/model/JobId") (F3 : Fld Z h0 b "com/example/lane4/lane4/model/JobId" "high" "J" (.long hi2)) (F4 : Fld Z h0 b "com/example/lane4/lane4/model/JobId" "low" "J" (.long lo2)) :
    MetFree l (⟨"com/example/lane4/lane4/model/JobId", "equals", "(Ljava/lang/Object;)Z"⟩ : MethodName) (head1 (Jvm.Cond.code (⟨"com/example/lane4/lane4/model/JobId", "equals", "(Ljava/lang/Object;)Z"⟩ : MethodName) prog_11_method_8_code 3 (some .boolean) :: ws) ({ frames := 0, cells := 0, slots := 0, locals := 0 } : Room)) (fun A_ U => A_ = #[(.ref a), (.ref b)] ∧ Z.Warmed39 U.vm ∧ U.heap = h0) (fun _ _ _ _ _ => True) (fun _ U o U' => ∃ v L, o = .returned v ∧ QeqF Z a b hi1 lo1 hi2 lo2 (eqF hi1 lo1 hi2 lo2) h0 n0 v U'.heap L ∧ FrameEnd U o U' L ({ frames := 0, cells := 0, slots := 0, locals := 0 } : Room).cells ({ frames := 0, cells := 0, slots := 0, locals := 0 } : Room).slots) := by
  refine MetFree.of_bodySF (plainFor_of_name pn_4) hisR ?_
  intro p e s m args below meth c s₁ Bd hml0 hP hK
  obtain ⟨rfl, hZ, hh⟩ := hP
  have hx := Bd.exec
  have hby := Bd.bytes
  have hml : c.maxLocals = 3 := hml0
  have hown : s.vm.findClass "com/example/lane4/lane4/model/JobId" = some m.cls := findClass_of_methodNamed Bd.named
  have hnm := (name_of_methodNamed Bd.named Bd.method).1
  have X0 : Stand p l e ({ frames := 0, cells := 0, slots := 0, locals := 0 } : Room) s m #[(.ref a), (.ref b)] below meth c s₁ [] 0 0 := Stand.of_body Bd
  have e0 : s₁.heap = h0 := by rw [← hh, Bd.state]; rfl
  have N0 := Fr.nil n0
  obtain ⟨RES, hf⟩ : ∃ z, z = eqF hi1 lo1 hi2 lo2 := ⟨_, rfl⟩
  rw [← hf]
  rw [eqF] at hf
  suffices HGO : Go p e below s (QeqF Z a b hi1 lo1 hi2 lo2 RES h0 n0) ({ frames := 0, cells := 0, slots := 0, locals := 0 } : Room).cells ({ frames := 0, cells := 0, slots := 0, locals := 0 } : Room).slots s₁ (mkF m 0 #[.val (.ref a), .val (.ref b), .unset] []) from Go.cast (ef_eqF m a b) HGO
  obtain ⟨T1, X1, e1, st1⟩ := instY X0 hx hZ hown (hw _ (List.mem_of_getElem? (i := 6) rfl)) e0 (Ins.self F2) (g := (mkF m 1 #[.val (.ref a), .val (.ref b), .unset] [(.ref b)])) rfl rfl (hb hby d9_1)
  obtain ⟨T2, X2, e2, st2⟩ := castY X1 hx hZ hown (hw _ (List.mem_of_getElem? (i := 6) rfl)) e1 (Ins.self F2) (g := (mkF m 8 #[.val (.ref a), .val (.ref b), .unset] [(.ref b)])) rfl rfl (hb hby d9_8)
  obtain ⟨T3, X3, e3, st3⟩ := getF X2 hx hZ hown (host := "") (Or.inl (hw _ (List.mem_of_getElem? (i := 14) rfl))) Via.refl e2 F3 (g := (mkF m 13 #[.val (.ref a), .val (.ref b), .val (.ref b)] [(.ref b)])) rfl rfl (hb hby d9_13)
  obtain ⟨T4, X4, e4, st4⟩ := getF X3 hx hZ hown (host := "") (Or.inl (hw _ (List.mem_of_getElem? (i := 14) rfl))) Via.refl e3 F0 (g := (mkF m 17 #[.val (.ref a), .val (.ref b), .val (.ref b)] [(.ref a), (.long hi2)])) rfl rfl (hb hby d9_17)
  refine Go.step (T' := T4) (f' := (mkF m 21 #[.val (.ref a), .val (.ref b), .val (.ref b)] [(.int (lcmpW hi2 hi1))])) (fun t kt => ?_) ?_
  · show Steps p.tables e below (s₁.setTop (mkF m 0 #[.val (.ref a), .val (.ref b), .unset] [])) _
    refine XS.aloadN X0.here hx rfl (hb hby d9_0) rfl rfl ?_
    show Steps p.tables e below (s₁.setTop (mkF m 1 #[.val (.ref a), .val (.ref b), .unset] [(.ref b)])) _
    refine st1 _ ?_
    show Steps p.tables e below (T1.setTop (mkF m 4 #[.val (.ref a), .val (.ref b), .unset] [(.int (1 : Int32))])) _
    refine XS.ifNo X1.here hx rfl (hb hby d9_4) rfl ((if0 _ _).trans (feq (by decide : ¬ ((1 : Int32) = (0 : Int32)))).1) ?_
    show Steps p.tables e below (T1.setTop (mkF m 7 #[.val (.ref a), .val (.ref b), .unset] [])) _
    refine XS.aloadN X1.here hx rfl (hb hby d9_7) rfl rfl ?_
    show Steps p.tables e below (T1.setTop (mkF m 8 #[.val (.ref a), .val (.ref b), .unset] [(.ref b)])) _
    refine st2 _ ?_
    show Steps p.tables e below (T2.setTop (mkF m 11 #[.val (.ref a), .val (.ref b), .unset] [(.ref b)])) _
    refine XS.astoreN X2.here hx rfl (hb hby d9_11) rfl rfl (l' := #[.val (.ref a), .val (.ref b), .val (.ref b)]) rfl ?_
    show Steps p.tables e below (T2.setTop (mkF m 12 #[.val (.ref a), .val (.ref b), .val (.ref b)] [])) _
    refine XS.aloadN X2.here hx rfl (hb hby d9_12) rfl rfl ?_
    show Steps p.tables e below (T2.setTop (mkF m 13 #[.val (.ref a), .val (.ref b), .val (.ref b)] [(.ref b)])) _
    refine st3 _ ?_
    show Steps p.tables e below (T3.setTop (mkF m 16 #[.val (.ref a), .val (.ref b), .val (.ref b)] [(.long hi2)])) _
    refine XS.aloadN X3.here hx rfl (hb hby d9_16) rfl rfl ?_
    show Steps p.tables e below (T3.setTop (mkF m 17 #[.val (.ref a), .val (.ref b), .val (.ref b)] [(.ref a), (.long hi2)])) _
    refine st4 _ ?_
    show Steps p.tables e below (T4.setTop (mkF m 20 #[.val (.ref a), .val (.ref b), .val (.ref b)] [(.long hi1), (.long hi2)])) _
    refine XS.lcmp X4.here hx rfl (hb hby d9_20) rfl ?_
    exact kt
  by_cases hc5 : hi2 = hi1
  · rw [if_pos hc5] at hf
    refine Go.step (T' := T4) (f' := (mkF m 24 #[.val (.ref a), .val (.ref b), .val (.ref b)] [])) (fun t kt => ?_) ?_
    · show Steps p.tables e below (T4.setTop (mkF m 21 #[.val (.ref a), .val (.ref b), .val (.ref b)] [(.int (lcmpW hi2 hi1))])) _
      refine XS.ifNo X4.here hx rfl (hb hby d9_21) rfl ((if0 _ _).trans (teq ((lw_eq _ _).mpr hc5)).2) ?_
      exact kt
    obtain ⟨T6, X6, e6, st6⟩ := getF X4 hx hZ hown (host := "") (Or.inl (hw _ (List.mem_of_getElem? (i := 16) rfl))) Via.refl e4 F4 (g := (mkF m 25 #[.val (.ref a), .val (.ref b), .val (.ref b)] [(.ref b)])) rfl rfl (hb hby d9_25)
    obtain ⟨T7, X7, e7, st7⟩ := getF X6 hx hZ hown (host := "") (Or.inl (hw _ (List.mem_of_getElem? (i := 16) rfl))) Via.refl e6 F1 (g := (mkF m 29 #[.val (.ref a), .val (.ref b), .val (.ref b)] [(.ref a), (.long lo2)])) rfl rfl (hb hby d9_29)
    refine Go.step (T' := T7) (f' := (mkF m 33 #[.val (.ref a), .val (.ref b), .val (.ref b)] [(.int (lcmpW lo2 lo1))])) (fun t kt => ?_) ?_
    · show Steps p.tables e below (T4.setTop (mkF m 24 #[.val (.ref a), .val (.ref b), .val (.ref b)] [])) _
      refine XS.aloadN X4.here hx rfl (hb hby d9_24) rfl rfl ?_
      show Steps p.tables e below (T4.setTop (mkF m 25 #[.val (.ref a), .val (.ref b), .val (.ref b)] [(.ref b)])) _
      refine st6 _ ?_
      show Steps p.tables e below (T6.setTop (mkF m 28 #[.val (.ref a), .val (.ref b), .val (.ref b)] [(.long lo2)])) _
      refine XS.aloadN X6.here hx rfl (hb hby d9_28) rfl rfl ?_
      show Steps p.tables e below (T6.setTop (mkF m 29 #[.val (.ref a), .val (.ref b), .val (.ref b)] [(.ref a), (.long lo2)])) _
      refine st7 _ ?_
      show Steps p.tables e below (T7.setTop (mkF m 32 #[.val (.ref a), .val (.ref b), .val (.ref b)] [(.long lo1), (.long lo2)])) _
      refine XS.lcmp X7.here hx rfl (hb hby d9_32) rfl ?_
      exact kt
    by_cases hc8 : lo2 = lo1
    · rw [if_pos hc8] at hf
      refine Go.step (T' := T7) (f' := (mkF m 36 #[.val (.ref a), .val (.ref b), .val (.ref b)] [])) (fun t kt => ?_) ?_
      · show Steps p.tables e below (T7.setTop (mkF m 33 #[.val (.ref a), .val (.ref b), .val (.ref b)] [(.int (lcmpW lo2 lo1))])) _
        refine XS.ifNo X7.here hx rfl (hb hby d9_33) rfl ((if0 _ _).trans (teq ((lw_eq _ _).mpr hc8)).2) ?_
        exact kt
      refine Go.step (T' := T7) (f' := (mkF m 41 #[.val (.ref a), .val (.ref b), .val (.ref b)] [(.int (1 : Int32))])) (fun t kt => ?_) ?_
      · show Steps p.tables e below (T7.setTop (mkF m 36 #[.val (.ref a), .val (.ref b), .val (.ref b)] [])) _
        refine XS.iconst X7.here hx rfl (hb hby d9_36) ?_
        show Steps p.tables e below (T7.setTop (mkF m 37 #[.val (.ref a), .val (.ref b), .val (.ref b)] [(.int (1 : Int32))])) _
        refine XS.goto X7.here hx rfl (pc0 := 37) (pc' := 41) rfl (hb hby d9_37) (by decide) (by decide) ?_
        exact kt
      refine Go.fin X7 (v := some (.int (1 : Int32))) (fun h => by rw [Bd.returns] at h; cases h) Bd.notSynchronized ?_ (Nat.le_trans (Nat.le_refl 0) (by decide)) (Nat.le_trans (Nat.le_refl 0) (by decide)) (fun fs hr => retN X7 hx (t := .boolean) Bd.returns (by simp) (hb hby d9_41) hr)
      · exact ⟨by rw [hf], N0, e7⟩
    · rw [if_neg hc8] at hf
      refine Go.step (T' := T7) (f' := (mkF m 40 #[.val (.ref a), .val (.ref b), .val (.ref b)] [])) (fun t kt => ?_) ?_
      · show Steps p.tables e below (T7.setTop (mkF m 33 #[.val (.ref a), .val (.ref b), .val (.ref b)] [(.int (lcmpW lo2 lo1))])) _
        refine XS.ifYes X7.here hx rfl (pc0 := 33) (pc' := 40) rfl (hb hby d9_33) rfl ((if0 _ _).trans (feq (fun q => hc8 ((lw_eq _ _).mp q))).2) (by decide) (by decide) ?_
        exact kt
      refine Go.step (T' := T7) (f' := (mkF m 41 #[.val (.ref a), .val (.ref b), .val (.ref b)] [(.int (0 : Int32))])) (fun t kt => ?_) ?_
      · show Steps p.tables e below (T7.setTop (mkF m 40 #[.val (.ref a), .val (.ref b), .val (.ref b)] [])) _
        refine XS.iconst X7.here hx rfl (hb hby d9_40) ?_
        exact kt
      refine Go.fin X7 (v := some (.int (0 : Int32))) (fun h => by rw [Bd.returns] at h; cases h) Bd.notSynchronized ?_ (Nat.le_trans (Nat.le_refl 0) (by decide)) (Nat.le_trans (Nat.le_refl 0) (by decide)) (fun fs hr => retN X7 hx (t := .boolean) Bd.returns (by simp) (hb hby d9_41) hr)
      · exact ⟨by rw [hf], N0, e7⟩
  · rw [if_neg hc5] at hf
    refine Go.step (T' := T4) (f' := (mkF m 40 #[.val (.ref a), .val (.ref b), .val (.ref b)] [])) (fun t kt => ?_) ?_
    · show Steps p.tables e below (T4.setTop (mkF m 21 #[.val (.ref a), .val (.ref b), .val (.ref b)] [(.int (lcmpW hi2 hi1))])) _
      refine XS.ifYes X4.here hx rfl (pc0 := 21) (pc' := 40) rfl (hb hby d9_21) rfl ((if0 _ _).trans (feq (fun q => hc5 ((lw_eq _ _).mp q))).2) (by decide) (by decide) ?_
      exact kt
    refine Go.step (T' := T4) (f' := (mkF m 41 #[.val (.ref a), .val (.ref b), .val (.ref b)] [(.int (0 : Int32))])) (fun t kt => ?_) ?_
    · show Steps p.tables e below (T4.setTop (mkF m 40 #[.val (.ref a), .val (.ref b), .val (.ref b)] [])) _
      refine XS.iconst X4.here hx rfl (hb hby d9_40) ?_
      exact kt
    refine Go.fin X4 (v := some (.int (0 : Int32))) (fun h => by rw [Bd.returns] at h; cases h) Bd.notSynchronized ?_ (Nat.le_trans (Nat.le_refl 0) (by decide)) (Nat.le_trans (Nat.le_refl 0) (by decide)) (fun fs hr => retN X4 hx (t := .boolean) Bd.returns (by simp) (hb hby d9_41) hr)
    · exact ⟨by rw [hf], N0, e4⟩
theorem own_31 {x : Int32} (h : 0 ≤ x.toInt ∧ x.toInt ≤ 31) : ¬ x < (0 : Int32) ∧ x < LST.length.toInt32 ∧ 0 ≤ x.toInt ∧ x.toInt < (LST.length : Int) := by
  have k0 : (0 : Int32).toInt = 0 := rfl
  have k32 : (LST.length.toInt32).toInt = 32 := rfl
  have k : (LST.length : Int) = 32 := rfl
  rw [Int32.lt_iff_toInt_lt, Int32.lt_iff_toInt_lt, k0, k32, k]
  omega
theorem own_m31 (x : Int32) : 0 ≤ (x &&& (31 : Int32)).toInt ∧ (x &&& (31 : Int32)).toInt ≤ 31 := by
  have := c_mask x 31 5 (by decide) (by decide)
  omega
theorem own_m31L (x : Int64) : 0 ≤ ((x &&& (31 : Int64)).toInt32).toInt ∧ ((x &&& (31 : Int64)).toInt32).toInt ≤ 31 := by
  have a := c_maskL x 31 5 (by decide) (by decide)
  have b := c_l2i (x &&& 31)
  have := rng32 ((x &&& (31 : Int64)).toInt32)
  omega
theorem own_cle {x : Int32} {cs : Int32} {fo : Value} (h : 0 ≤ x.toInt ∧ x.toInt ≤ 31) : ¬ (255 : Int32) < nar .char (chF x LST cs fo) := by
  obtain ⟨j, hj⟩ := own_fin (x := x) (n := 32) h.1 (by omega) (by decide)
  have key : ∀ j : Fin 32, ¬ (255 : Int32) < nar .char (nar .char (nar .char (((LST.getD (Int32.ofNat j.val).toNatClampNeg (0 : Int32)) &&& (255 : Int32)).toUInt32.toUInt16.toUInt32.toInt32))) := by decide +kernel
  rw [hj]; exact key j
theorem own_cle2 {r x : Int32} {cs : Int32} {fo : Value} (e : r = chF (x &&& (31 : Int32)) LST cs fo) : ¬ (255 : Int32) < nar .char r := by rw [e]; exact own_cle (own_m31 _)
theorem pd_11 : parseMethodDescriptor "(I)C" = some ⟨[.int], some .char⟩ := by decide +kernel
theorem d24_0 : decode method_5_code 0 = .ok (.ldc 59, 2) := by decide +kernel
theorem d24_2 : decode method_5_code 2 = .ok (.lload_n 0, 1) := by decide +kernel
theorem d24_3 : decode method_5_code 3 = .ok (.ldc2_w 53, 3) := by decide +kernel
theorem d24_6 : decode method_5_code 6 = .ok (.land, 1) := by decide +kernel
theorem d24_7 : decode method_5_code 7 = .ok (.l2i, 1) := by decide +kernel
theorem d24_8 : decode method_5_code 8 = .ok (.invokevirtual 45, 3) := by decide +kernel
theorem d24_11 : decode method_5_code 11 = .ok (.ireturn, 1) := by decide +kernel
theorem ef_digF (m : MethodId) (x0 : Int64) : entryFrame m #[(.long x0)] 2 = mkF m 0 #[.val (.long x0), .second] [] := by first | (simp [entryFrame, mkF, argsToLocals, Value.category]; done) | rfl
def digF (p1 : Int64) (cs : Int32) (fo : Value) : Int32 := (nar .char (chF ((p1 &&& (31 : Int64)).toInt32) LST cs fo))
def QdigF (Z : State) (p1 : Int64) (cs : Int32) (fo : Value) (RES : Int32) (h0 : Heap) (n0 : Nat) (v : Option Value) (h : Heap) (L : List Loc) : Prop := v = some (.int RES) ∧ Fr n0 L ∧ Keep h0 h []
set_option maxRecDepth 65536 in
set_option maxHeartbeats 40000000 in
theorem rm_digF (l : Launch) (Z : State) (a0 : Array Value) (hw : ∀ d ∈ tables_1, d.before a0 Z = true) (ws : List Jvm.Cond) (p1 : Int64) (cs : Int32) (fo : Value) (h0 : Heap) (n0 : Nat) (Z0 : n0 ≤ h0.size) (F0 : Sta Z h0 "java/lang/String" "COMPACT_STRINGS" "Z" (.int cs)) (F1 : Sta Z h0 "jdk/internal/util/Preconditions" "SIOOBE_FORMATTER" "Ljava/util/function/BiFunction;" fo) (hcs : ¬ cs = (0 : Int32)) (hfo : fo.isRef = true) :
    MetFree l (⟨"com/example/lane4/lane4/model/JobIdOfPinLaw", "digit", "(J)C"⟩ : MethodName) (head1 (Jvm.Cond.code (⟨"com/example/lane4/lane4/model/JobIdOfPinLaw", "digit", "(J)C"⟩ : MethodName) method_5_code 2 (some .char) :: ws) ({ frames := 4, cells := 2, slots := 132, locals := 53 } : Room)) (fun A_ U => A_ = #[(.long p1)] ∧ Z.Warmed39 U.vm ∧ U.heap = h0 ∧ CHv Z consts_1 U.vm h0) (fun _ _ _ _ _ => True) (fun _ U o U' => ∃ v L, o = .returned v ∧ QdigF Z p1 cs fo (digF p1 cs fo) h0 n0 v U'.heap L ∧ CHr Z consts_1 U.vm U.heap U'.vm U'.heap ∧ ReturnedEndW U o U' L ({ frames := 4, cells := 2, slots := 132, locals := 53 } : Room).cells ({ frames := 4, cells := 2, slots := 132, locals := 53 } : Room).slots) := by
  refine MetFree.of_bodySF (plainFor_of_name pn_5) hisR ?_
  intro p e s m args below meth c s₁ Bd hml0 hP hK
  obtain ⟨rfl, hZ, hh, hCH⟩ := hP
  have hx := Bd.exec
  have hby := Bd.bytes
  have hml : c.maxLocals = 2 := hml0
  have hown : s.vm.findClass "com/example/lane4/lane4/model/JobIdOfPinLaw" = some m.cls := findClass_of_methodNamed Bd.named
  have hnm := (name_of_methodNamed Bd.named Bd.method).1
  have X0 : Stand p l e ({ frames := 4, cells := 2, slots := 132, locals := 53 } : Room) (s.setVm s.vm) m #[(.long p1)] below meth c s₁ [] 0 0 := Stand.of_body Bd
  have e0 : s₁.heap = h0 := by rw [← hh, Bd.state]; rfl
  have N0 := Fr.nil n0
  have hZ : Z.Warmed39 (s.setVm s.vm).vm := hZ
  have hown : (s.setVm s.vm).vm.findClass "com/example/lane4/lane4/model/JobIdOfPinLaw" = some m.cls := hown
  have hEL : EW Z a0 consts_1 := own_EL hw
  have hS0 : s.Since s.vm h0.size := own_since
  have hk0 : h0.size ≤ h0.size := Nat.le_refl _
  have HC0 : CHr Z consts_1 s.vm s.heap s.vm h0 := by rw [hh]; exact CHr.refl hCH
  obtain ⟨RES, hf⟩ : ∃ z, z = digF p1 cs fo := ⟨_, rfl⟩
  rw [← hf]
  rw [digF] at hf
  suffices HGO : GoC p e below s Z consts_1 (QdigF Z p1 cs fo RES h0 n0) ({ frames := 4, cells := 2, slots := 132, locals := 53 } : Room).cells ({ frames := 4, cells := 2, slots := 132, locals := 53 } : Room).slots s₁ (mkF m 0 #[.val (.long p1), .second] []) from GoC.cast (ef_digF m p1) HGO
  obtain ⟨a1, T1, h1, k1, b1, kc1, X1, e1, E1, hS1, hk1, hZ, hown, A1, C1, V1, R1, -, -, CR1, Lt1, Sn1, st1⟩ := ldcCH (s := s) X0 hx hZ hown (hw _ (List.mem_of_getElem? (i := 123) rfl)) (fun d hd => hw d (own_wS d hd)) e0 hS0 hk0 hEL (by simp [consts_1]) HC0.1 (vs := LST.map Value.int) (z := (32 : Int32)) ⟨by decide, by decide +kernel⟩ (by decide) (by decide) (g := (mkF m 0 #[.val (.long p1), .second] [])) rfl (hb hby d24_0) (n := 128) (by decide) (by decide) (Nat.le_trans (Nat.add_le_add_right (Nat.le_refl 0) 2) (by decide)) (Nat.le_trans (Nat.add_le_add_right (Nat.le_refl 0) 132) (by decide))
  have G2 : Sta Z h1 "java/lang/String" "COMPACT_STRINGS" "Z" (.int cs) := F0.ext E1
  have G3 : Sta Z h1 "jdk/internal/util/Preconditions" "SIOOBE_FORMATTER" "Ljava/util/function/BiFunction;" fo := F1.ext E1
  have K1 : Keep h0 h1 [] := Keep.ext (Keep.refl h0 []) E1
  have Z1 : n0 ≤ h1.size := Nat.le_trans Z0 K1.1
  have HC1 := HC0.trans CR1
  have G4 : VA Z h1 b1 .byte (LST.map Value.int) := own_va R1 (by decide)
  have hZ5 := hZ
  have hown5 := hown
  obtain ⟨cq6, kq6, q6a, q6b, q6c⟩ := isOf hZ e1 (A1 : Exa Z h1 a1 "java/lang/String")
  obtain ⟨_, _, ⟨T6, L6, k6, n6⟩, -, X6, ⟨Lc6, hQ6, l6, y6, z6⟩, st6⟩ := X1.virtualBack hx (y := (⟨"java/lang/String", "charAt", "(I)C"⟩ : MethodName)) (z := (⟨"java/lang/String", "charAt", "(I)C"⟩ : MethodName)) hown (mvT hZ (hw _ (List.mem_of_getElem? (i := 119) rfl))) (mvT hZ (hw _ (List.mem_of_getElem? (i := 66) rfl))) (notFace_of_selects (args := #[]) (mvT hZ (hw _ (List.mem_of_getElem? (i := 68) rfl)))) (mvT hZ (hw _ (List.mem_of_getElem? (i := 68) rfl))) (mvT hZ (hw _ (List.mem_of_getElem? (i := 67) rfl))) (by decide) (backOf (W := 0) (rm_chF l Z a0 hw [] a1 ((p1 &&& (31 : Int64)).toInt32) b1 LST cs fo h1 n0 Z1 A1 V1 C1 G4 G2 G3 hcs hfo (own_31 (own_m31L _)).1 (own_31 (own_m31L _)).2.1 (own_31 (own_m31L _)).2.2) hZ (hw _ (List.mem_of_getElem? (i := 69) rfl)) (hw _ (List.mem_of_getElem? (i := 58) rfl)) (by decide) (by decide)) q6a q6c (g := (mkF m 8 #[.val (.long p1), .second] [(.int ((p1 &&& (31 : Int64)).toInt32)), (.ref a1)])) rfl (by rw [hml]; rfl) (Steps.refl _) (argsL := [(.int ((p1 &&& (31 : Int64)).toInt32))]) (rest := []) (lenOf pd_11 rfl) rfl (by show 2 * 0 + _ ≤ _; exact Nat.le_of_eq rfl) (hb hby d24_8) (fun _ _ => ⟨rfl, e1, (Nat.le_trans (Nat.add_le_add_right (Nat.add_le_add_right (Nat.le_refl 0) 2) 0) (by decide)), (Nat.le_trans (Nat.add_le_add_right (Nat.add_le_add_right (Nat.le_refl 0) 132) 0) (by decide))⟩)
  dsimp only [Pt.U, Pt.locs, Pt.cells, Pt.slots] at X6 l6 y6 z6 st6 hQ6
  subst l6 y6 z6
  obtain ⟨rfl, N6q, e6⟩ := hQ6
  have N6 := Fr.app N0 N6q
  refine GoC.step (T' := T6) (f' := (mkF m 11 #[.val (.long p1), .second] [(.int (chF ((p1 &&& (31 : Int64)).toInt32) LST cs fo))])) (fun t kt => ?_) ?_
  · show Steps p.tables e below (s₁.setTop (mkF m 0 #[.val (.long p1), .second] [])) _
    refine st1 _ ?_
    show Steps p.tables e below (T1.setTop (mkF m 2 #[.val (.long p1), .second] [(.ref a1)])) _
    refine XS.lloadN X1.here hx rfl (hb hby d24_2) rfl ?_
    show Steps p.tables e below (T1.setTop (mkF m 3 #[.val (.long p1), .second] [(.long p1), (.ref a1)])) _
    refine X1.ldc2Long hx hown5 (mvT hZ5 (hw _ (List.mem_of_getElem? (i := 124) rfl))) (g := (mkF m 3 #[.val (.long p1), .second] [(.long p1), (.ref a1)])) rfl (hb hby d24_3) _ ?_
    show Steps p.tables e below (T1.setTop (mkF m 6 #[.val (.long p1), .second] [(.long (31 : Int64)), (.long p1), (.ref a1)])) _
    refine XS.land X1.here hx rfl (hb hby d24_6) rfl ?_
    show Steps p.tables e below (T1.setTop (mkF m 7 #[.val (.long p1), .second] [(.long (p1 &&& (31 : Int64))), (.ref a1)])) _
    refine XS.l2i X1.here hx rfl (hb hby d24_7) rfl ?_
    show Steps p.tables e below (T1.setTop (mkF m 8 #[.val (.long p1), .second] [(.int ((p1 &&& (31 : Int64)).toInt32)), (.ref a1)])) _
    refine st6.trans ?_
    exact kt
  refine GoC.fin X6 hZ hEL hS1 e6 hk1 HC1 (v := some (.int (nar .char (chF ((p1 &&& (31 : Int64)).toInt32) LST cs fo)))) (fun h => by rw [Bd.returns] at h; cases h) Bd.notSynchronized ?_ (Nat.le_trans (Nat.add_le_add_right (Nat.add_le_add_right (Nat.le_refl 0) 2) 0) (by decide)) (Nat.le_trans (Nat.add_le_add_right (Nat.add_le_add_right (Nat.le_refl 0) 132) 0) (by decide)) (fun fs hr => retN X6 hx (t := .char) Bd.returns (by simp) (hb hby d24_11) hr)
  · show QdigF Z p1 cs fo RES h0 n0 _ T6.heap _
    rw [e6, hf]
    exact ⟨rfl, N6, K1⟩
def own_wb (hi lo : Int64) (i : Int32) : Int64 := if (((25 : Int32) - i) * (5 : Int32)) < (64 : Int32) then (if (64 : Int32) < ((((25 : Int32) - i) * (5 : Int32)) + (5 : Int32)) then ((hi <<< (((64 : Int32) - (((25 : Int32) - i) * (5 : Int32))) &&& 0x3f).toInt64) ||| ((lo.toUInt64 >>> ((((25 : Int32) - i) * (5 : Int32)) &&& 0x3f).toInt64.toUInt64).toInt64)) else ((lo.toUInt64 >>> ((((25 : Int32) - i) * (5 : Int32)) &&& 0x3f).toInt64.toUInt64).toInt64)) else ((hi.toUInt64 >>> (((((25 : Int32) - i) * (5 : Int32)) - (64 : Int32)) &&& 0x3f).toInt64.toUInt64).toInt64)
theorem own_wb1 {hi lo : Int64} {i : Int32} (h : ¬ (((25 : Int32) - i) * (5 : Int32)) < (64 : Int32)) : own_wb hi lo i = ((hi.toUInt64 >>> (((((25 : Int32) - i) * (5 : Int32)) - (64 : Int32)) &&& 0x3f).toInt64.toUInt64).toInt64) := if_neg h
theorem own_wb2 {hi lo : Int64} {i : Int32} (h : (((25 : Int32) - i) * (5 : Int32)) < (64 : Int32)) (h2 : ¬ (64 : Int32) < ((((25 : Int32) - i) * (5 : Int32)) + (5 : Int32))) : own_wb hi lo i = ((lo.toUInt64 >>> ((((25 : Int32) - i) * (5 : Int32)) &&& 0x3f).toInt64.toUInt64).toInt64) := (if_pos h).trans (if_neg h2)
theorem own_wb3 {hi lo : Int64} {i : Int32} (h : (((25 : Int32) - i) * (5 : Int32)) < (64 : Int32)) (h2 : (64 : Int32) < ((((25 : Int32) - i) * (5 : Int32)) + (5 : Int32))) : own_wb hi lo i = ((hi <<< (((64 : Int32) - (((25 : Int32) - i) * (5 : Int32))) &&& 0x3f).toInt64) ||| ((lo.toUInt64 >>> ((((25 : Int32) - i) * (5 : Int32)) &&& 0x3f).toInt64.toUInt64).toInt64)) := (if_pos h).trans (if_pos h2)
def own_we (hi lo : Int64) (cs : Int32) (fo : Value) (i : Int32) : Int32 := nar .char (chF (((own_wb hi lo i).toInt32) &&& (31 : Int32)) LST cs fo)
def own_wp (hi lo : Int64) (cs : Int32) (fo : Value) : Nat → List Int32
  | 0 => [(0 : Int32), (0 : Int32), (0 : Int32), (0 : Int32), (0 : Int32), (0 : Int32), (0 : Int32), (0 : Int32), (0 : Int32), (0 : Int32), (0 : Int32), (0 : Int32), (0 : Int32), (0 : Int32), (0 : Int32), (0 : Int32), (0 : Int32), (0 : Int32), (0 : Int32), (0 : Int32), (0 : Int32), (0 : Int32), (0 : Int32), (0 : Int32), (0 : Int32), (0 : Int32)]
  | k + 1 => (own_wp hi lo cs fo k).set k (own_we hi lo cs fo (Int32.ofNat k))
theorem own_wpl {hi lo : Int64} {cs : Int32} {fo : Value} : ∀ k : Nat, (own_wp hi lo cs fo k).length = 26
  | 0 => rfl
  | k + 1 => by rw [own_wp, List.length_set]; exact own_wpl k
theorem own_k26 {i : Int32} {k : Nat} (hki : i.toInt = (k : Int)) (hk : k ≤ 26) (h : ¬ i < (26 : Int32)) : k = 26 := by
  have k26 : (26 : Int32).toInt = 26 := rfl
  rw [Int32.lt_iff_toInt_lt, k26] at h; omega
theorem own_klt {i : Int32} {k : Nat} (hki : i.toInt = (k : Int)) (h : i < (26 : Int32)) : k < 26 := by
  have k26 : (26 : Int32).toInt = 26 := rfl
  rw [Int32.lt_iff_toInt_lt, k26] at h; omega
theorem own_wpi {hi lo : Int64} {cs : Int32} {fo : Value} {i : Int32} {k : Nat} (hki : i.toInt = (k : Int)) (h : i < (26 : Int32)) : 0 ≤ i.toInt ∧ i.toInt < ((own_wp hi lo cs fo k).length : Int) := by
  have := own_klt hki h
  rw [own_wpl]; omega
theorem own_k1 {i : Int32} {k : Nat} (hki : i.toInt = (k : Int)) (h : i < (26 : Int32)) : (i + (1 : Int32)).toInt = ((k + 1 : Nat) : Int) := by
  have := own_klt hki h
  have k1 : (1 : Int32).toInt = 1 := rfl
  rw [own_add (by rw [k1]; omega) (by rw [k1]; omega), k1]; omega
theorem own_wpS {hi lo : Int64} {cs : Int32} {fo : Value} {i r : Int32} {x : Int64} {k : Nat} (hki : i.toInt = (k : Int)) (h : i < (26 : Int32)) (hr : r = chF ((x.toInt32) &&& (31 : Int32)) LST cs fo) (hx : own_wb hi lo i = x) : (own_wp hi lo cs fo k).set i.toNatClampNeg (nar .char r) = own_wp hi lo cs fo (k + 1) := by
  have hk := own_klt hki h
  have e1 : i.toNatClampNeg = k := by have := own_nat (j := i) (by omega); omega
  have e2 : i = Int32.ofNat k := Int32.toInt_inj.mp (by rw [hki, Int32.toInt_ofNat_of_lt (by omega)])
  subst hx hr
  rw [e1, own_wp]
  subst e2
  rfl
theorem own_wp26 {hi lo : Int64} {cs : Int32} {fo : Value} : own_wp hi lo cs fo 26 = [(own_we hi lo cs fo (Int32.ofNat 0)), (own_we hi lo cs fo (Int32.ofNat 1)), (own_we hi lo cs fo (Int32.ofNat 2)), (own_we hi lo cs fo (Int32.ofNat 3)), (own_we hi lo cs fo (Int32.ofNat 4)), (own_we hi lo cs fo (Int32.ofNat 5)), (own_we hi lo cs fo (Int32.ofNat 6)), (own_we hi lo cs fo (Int32.ofNat 7)), (own_we hi lo cs fo (Int32.ofNat 8)), (own_we hi lo cs fo (Int32.ofNat 9)), (own_we hi lo cs fo (Int32.ofNat 10)), (own_we hi lo cs fo (Int32.ofNat 11)), (own_we hi lo cs fo (Int32.ofNat 12)), (own_we hi lo cs fo (Int32.ofNat 13)), (own_we hi lo cs fo (Int32.ofNat 14)), (own_we hi lo cs fo (Int32.ofNat 15)), (own_we hi lo cs fo (Int32.ofNat 16)), (own_we hi lo cs fo (Int32.ofNat 17)), (own_we hi lo cs fo (Int32.ofNat 18)), (own_we hi lo cs fo (Int32.ofNat 19)), (own_we hi lo cs fo (Int32.ofNat 20)), (own_we hi lo cs fo (Int32.ofNat 21)), (own_we hi lo cs fo (Int32.ofNat 22)), (own_we hi lo cs fo (Int32.ofNat 23)), (own_we hi lo cs fo (Int32.ofNat 24)), (own_we hi lo cs fo (Int32.ofNat 25))] := by
  simp only [own_wp, List.set_cons_zero, List.set_cons_succ]
theorem own_cwe {hi lo : Int64} {cs : Int32} {fo : Value} {i : Int32} : ¬ (255 : Int32) < own_we hi lo cs fo i := own_cle (own_m31 _)
theorem own_hle {hi lo : Int64} {cs : Int32} {fo : Value} : ∀ x ∈ [(own_we hi lo cs fo (Int32.ofNat 0)), (own_we hi lo cs fo (Int32.ofNat 1)), (own_we hi lo cs fo (Int32.ofNat 2)), (own_we hi lo cs fo (Int32.ofNat 3)), (own_we hi lo cs fo (Int32.ofNat 4)), (own_we hi lo cs fo (Int32.ofNat 5)), (own_we hi lo cs fo (Int32.ofNat 6)), (own_we hi lo cs fo (Int32.ofNat 7)), (own_we hi lo cs fo (Int32.ofNat 8)), (own_we hi lo cs fo (Int32.ofNat 9)), (own_we hi lo cs fo (Int32.ofNat 10)), (own_we hi lo cs fo (Int32.ofNat 11)), (own_we hi lo cs fo (Int32.ofNat 12)), (own_we hi lo cs fo (Int32.ofNat 13)), (own_we hi lo cs fo (Int32.ofNat 14)), (own_we hi lo cs fo (Int32.ofNat 15)), (own_we hi lo cs fo (Int32.ofNat 16)), (own_we hi lo cs fo (Int32.ofNat 17)), (own_we hi lo cs fo (Int32.ofNat 18)), (own_we hi lo cs fo (Int32.ofNat 19)), (own_we hi lo cs fo (Int32.ofNat 20)), (own_we hi lo cs fo (Int32.ofNat 21)), (own_we hi lo cs fo (Int32.ofNat 22)), (own_we hi lo cs fo (Int32.ofNat 23)), (own_we hi lo cs fo (Int32.ofNat 24)), (own_we hi lo cs fo (Int32.ofNat 25))], ¬ (255 : Int32) < x := by
  simp only [List.forall_mem_cons]
  exact ⟨own_cwe, own_cwe, own_cwe, own_cwe, own_cwe, own_cwe, own_cwe, own_cwe, own_cwe, own_cwe, own_cwe, own_cwe, own_cwe, own_cwe, own_cwe, own_cwe, own_cwe, own_cwe, own_cwe, own_cwe, own_cwe, own_cwe, own_cwe, own_cwe, own_cwe, own_cwe, fun _ h => nomatch h⟩
def wrL (hi lo : Int64) (cs : Int32) (fo : Value) : List Int32 := [(nar .byte ((own_we hi lo cs fo (Int32.ofNat 0)).toInt8.toInt32)), (nar .byte ((own_we hi lo cs fo (Int32.ofNat 1)).toInt8.toInt32)), (nar .byte ((own_we hi lo cs fo (Int32.ofNat 2)).toInt8.toInt32)), (nar .byte ((own_we hi lo cs fo (Int32.ofNat 3)).toInt8.toInt32)), (nar .byte ((own_we hi lo cs fo (Int32.ofNat 4)).toInt8.toInt32)), (nar .byte ((own_we hi lo cs fo (Int32.ofNat 5)).toInt8.toInt32)), (nar .byte ((own_we hi lo cs fo (Int32.ofNat 6)).toInt8.toInt32)), (nar .byte ((own_we hi lo cs fo (Int32.ofNat 7)).toInt8.toInt32)), (nar .byte ((own_we hi lo cs fo (Int32.ofNat 8)).toInt8.toInt32)), (nar .byte ((own_we hi lo cs fo (Int32.ofNat 9)).toInt8.toInt32)), (nar .byte ((own_we hi lo cs fo (Int32.ofNat 10)).toInt8.toInt32)), (nar .byte ((own_we hi lo cs fo (Int32.ofNat 11)).toInt8.toInt32)), (nar .byte ((own_we hi lo cs fo (Int32.ofNat 12)).toInt8.toInt32)), (nar .byte ((own_we hi lo cs fo (Int32.ofNat 13)).toInt8.toInt32)), (nar .byte ((own_we hi lo cs fo (Int32.ofNat 14)).toInt8.toInt32)), (nar .byte ((own_we hi lo cs fo (Int32.ofNat 15)).toInt8.toInt32)), (nar .byte ((own_we hi lo cs fo (Int32.ofNat 16)).toInt8.toInt32)), (nar .byte ((own_we hi lo cs fo (Int32.ofNat 17)).toInt8.toInt32)), (nar .byte ((own_we hi lo cs fo (Int32.ofNat 18)).toInt8.toInt32)), (nar .byte ((own_we hi lo cs fo (Int32.ofNat 19)).toInt8.toInt32)), (nar .byte ((own_we hi lo cs fo (Int32.ofNat 20)).toInt8.toInt32)), (nar .byte ((own_we hi lo cs fo (Int32.ofNat 21)).toInt8.toInt32)), (nar .byte ((own_we hi lo cs fo (Int32.ofNat 22)).toInt8.toInt32)), (nar .byte ((own_we hi lo cs fo (Int32.ofNat 23)).toInt8.toInt32)), (nar .byte ((own_we hi lo cs fo (Int32.ofNat 24)).toInt8.toInt32)), (nar .byte ((own_we hi lo cs fo (Int32.ofNat 25)).toInt8.toInt32))]
theorem pd_12 : parseMethodDescriptor "([C)V" = some ⟨[(.array .char)], none⟩ := by decide +kernel
theorem d11_0 : decode prog_11_method_11_code 0 = .ok (.bipush 26, 2) := by decide +kernel
theorem d11_2 : decode prog_11_method_11_code 2 = .ok (.newarray .char, 2) := by decide +kernel
theorem d11_4 : decode prog_11_method_11_code 4 = .ok (.astore_n 1, 1) := by decide +kernel
theorem d11_5 : decode prog_11_method_11_code 5 = .ok (.iconst 0, 1) := by decide +kernel
theorem d11_6 : decode prog_11_method_11_code 6 = .ok (.istore_n 2, 1) := by decide +kernel
theorem d11_7 : decode prog_11_method_11_code 7 = .ok (.iload_n 2, 1) := by decide +kernel
theorem d11_8 : decode prog_11_method_11_code 8 = .ok (.bipush 26, 2) := by decide +kernel
theorem d11_10 : decode prog_11_method_11_code 10 = .ok (.if_icmp .ge 87, 3) := by decide +kernel
theorem d11_13 : decode prog_11_method_11_code 13 = .ok (.bipush 25, 2) := by decide +kernel
theorem d11_15 : decode prog_11_method_11_code 15 = .ok (.iload_n 2, 1) := by decide +kernel
theorem d11_16 : decode prog_11_method_11_code 16 = .ok (.isub, 1) := by decide +kernel
theorem d11_17 : decode prog_11_method_11_code 17 = .ok (.iconst 5, 1) := by decide +kernel
theorem d11_18 : decode prog_11_method_11_code 18 = .ok (.imul, 1) := by decide +kernel
theorem d11_19 : decode prog_11_method_11_code 19 = .ok (.istore_n 3, 1) := by decide +kernel
theorem d11_20 : decode prog_11_method_11_code 20 = .ok (.iload_n 3, 1) := by decide +kernel
theorem d11_21 : decode prog_11_method_11_code 21 = .ok (.bipush 64, 2) := by decide +kernel
theorem d11_23 : decode prog_11_method_11_code 23 = .ok (.if_icmp .lt 17, 3) := by decide +kernel
theorem d11_26 : decode prog_11_method_11_code 26 = .ok (.aload_n 0, 1) := by decide +kernel
theorem d11_27 : decode prog_11_method_11_code 27 = .ok (.getfield 11, 3) := by decide +kernel
theorem d11_30 : decode prog_11_method_11_code 30 = .ok (.iload_n 3, 1) := by decide +kernel
theorem d11_31 : decode prog_11_method_11_code 31 = .ok (.bipush 64, 2) := by decide +kernel
theorem d11_33 : decode prog_11_method_11_code 33 = .ok (.isub, 1) := by decide +kernel
theorem d11_34 : decode prog_11_method_11_code 34 = .ok (.lushr, 1) := by decide +kernel
theorem d11_35 : decode prog_11_method_11_code 35 = .ok (.lstore 4, 2) := by decide +kernel
theorem d11_37 : decode prog_11_method_11_code 37 = .ok (.goto 40, 3) := by decide +kernel
theorem d11_40 : decode prog_11_method_11_code 40 = .ok (.iload_n 3, 1) := by decide +kernel
theorem d11_41 : decode prog_11_method_11_code 41 = .ok (.iconst 5, 1) := by decide +kernel
theorem d11_42 : decode prog_11_method_11_code 42 = .ok (.iadd, 1) := by decide +kernel
theorem d11_43 : decode prog_11_method_11_code 43 = .ok (.bipush 64, 2) := by decide +kernel
theorem d11_45 : decode prog_11_method_11_code 45 = .ok (.if_icmp .gt 14, 3) := by decide +kernel
theorem d11_48 : decode prog_11_method_11_code 48 = .ok (.aload_n 0, 1) := by decide +kernel
theorem d11_49 : decode prog_11_method_11_code 49 = .ok (.getfield 15, 3) := by decide +kernel
theorem d11_52 : decode prog_11_method_11_code 52 = .ok (.iload_n 3, 1) := by decide +kernel
theorem d11_53 : decode prog_11_method_11_code 53 = .ok (.lushr, 1) := by decide +kernel
theorem d11_54 : decode prog_11_method_11_code 54 = .ok (.lstore 4, 2) := by decide +kernel
theorem d11_56 : decode prog_11_method_11_code 56 = .ok (.goto 21, 3) := by decide +kernel
theorem d11_59 : decode prog_11_method_11_code 59 = .ok (.aload_n 0, 1) := by decide +kernel
theorem d11_60 : decode prog_11_method_11_code 60 = .ok (.getfield 11, 3) := by decide +kernel
theorem d11_63 : decode prog_11_method_11_code 63 = .ok (.bipush 64, 2) := by decide +kernel
theorem d11_65 : decode prog_11_method_11_code 65 = .ok (.iload_n 3, 1) := by decide +kernel
theorem d11_66 : decode prog_11_method_11_code 66 = .ok (.isub, 1) := by decide +kernel
theorem d11_67 : decode prog_11_method_11_code 67 = .ok (.lshl, 1) := by decide +kernel
theorem d11_68 : decode prog_11_method_11_code 68 = .ok (.aload_n 0, 1) := by decide +kernel
theorem d11_69 : decode prog_11_method_11_code 69 = .ok (.getfield 15, 3) := by decide +kernel
theorem d11_72 : decode prog_11_method_11_code 72 = .ok (.iload_n 3, 1) := by decide +kernel
theorem d11_73 : decode prog_11_method_11_code 73 = .ok (.lushr, 1) := by decide +kernel
theorem d11_74 : decode prog_11_method_11_code 74 = .ok (.lor, 1) := by decide +kernel
theorem d11_75 : decode prog_11_method_11_code 75 = .ok (.lstore 4, 2) := by decide +kernel
theorem d11_77 : decode prog_11_method_11_code 77 = .ok (.aload_n 1, 1) := by decide +kernel
theorem d11_78 : decode prog_11_method_11_code 78 = .ok (.iload_n 2, 1) := by decide +kernel
theorem d11_79 : decode prog_11_method_11_code 79 = .ok (.ldc 86, 2) := by decide +kernel
theorem d11_81 : decode prog_11_method_11_code 81 = .ok (.lload 4, 2) := by decide +kernel
theorem d11_83 : decode prog_11_method_11_code 83 = .ok (.l2i, 1) := by decide +kernel
theorem d11_84 : decode prog_11_method_11_code 84 = .ok (.bipush 31, 2) := by decide +kernel
theorem d11_86 : decode prog_11_method_11_code 86 = .ok (.iand, 1) := by decide +kernel
theorem d11_87 : decode prog_11_method_11_code 87 = .ok (.invokevirtual 88, 3) := by decide +kernel
theorem d11_90 : decode prog_11_method_11_code 90 = .ok (.castore, 1) := by decide +kernel
theorem d11_91 : decode prog_11_method_11_code 91 = .ok (.iinc 2 1, 3) := by decide +kernel
theorem d11_94 : decode prog_11_method_11_code 94 = .ok (.goto (-87), 3) := by decide +kernel
theorem d11_97 : decode prog_11_method_11_code 97 = .ok (.new 34, 3) := by decide +kernel
theorem d11_100 : decode prog_11_method_11_code 100 = .ok (.dup, 1) := by decide +kernel
theorem d11_101 : decode prog_11_method_11_code 101 = .ok (.aload_n 1, 1) := by decide +kernel
theorem d11_102 : decode prog_11_method_11_code 102 = .ok (.invokespecial 89, 3) := by decide +kernel
theorem d11_105 : decode prog_11_method_11_code 105 = .ok (.areturn, 1) := by decide +kernel
theorem ef_wriK (m : MethodId) (x0 : Addr) : entryFrame m #[(.ref x0)] 6 = mkF m 0 #[.val (.ref x0), .unset, .unset, .unset, .unset, .unset] [] := by first | (simp [entryFrame, mkF, argsToLocals, Value.category]; done) | rfl
def QwriK (Z : State) (a : Addr) (hi : Int64) (lo : Int64) (cs : Int32) (fo : Value) (h0 : Heap) (n0 : Nat) (v : Option Value) (h : Heap) (L : List Loc) : Prop := ∃ (sb : Addr), ∃ (bb : Addr), v = some (.ref sb) ∧ Fr n0 L ∧ Keep h0 h [] ∧ h0.size ≤ sb ∧ h0.size ≤ bb ∧ Exa Z h sb "java/lang/String" ∧ Fld Z h sb "java/lang/String" "value" "[B" (.ref bb) ∧ Fld Z h sb "java/lang/String" "coder" "B" (.int (0 : Int32)) ∧ VA Z h bb .byte ((wrL hi lo cs fo).map Value.int)
set_option maxRecDepth 65536 in
set_option maxHeartbeats 40000000 in
theorem rm_wriK (l : Launch) (Z : State) (a0 : Array Value) (hw : ∀ d ∈ tables_1, d.before a0 Z = true) (ws : List Jvm.Cond) (a : Addr) (hi : Int64) (lo : Int64) (cs : Int32) (fo : Value) (h0 : Heap) (n0 : Nat) (Z0 : n0 ≤ h0.size) (F0 : Exa Z h0 a "com/example/lane4/lane4/model/JobId") (F1 : Fld Z h0 a "com/example/lane4/lane4/model/JobId" "high" "J" (.long hi)) (F2 : Fld Z h0 a "com/example/lane4/lane4/model/JobId" "low" "J" (.long lo)) (F3 : Sta Z h0 "java/lang/String" "COMPACT_STRINGS" "Z" (.int cs)) (F4 : Sta Z h0 "jdk/internal/util/Preconditions" "SIOOBE_FORMATTER" "Ljava/util/function/BiFunction;" fo) (hcs : ¬ cs = (0 : Int32)) (hfo : fo.isRef = true) :
    MetFree l (⟨"com/example/lane4/lane4/model/JobId", "write", "()Ljava/lang/String;"⟩ : MethodName) (head1 (Jvm.Cond.code (⟨"com/example/lane4/lane4/model/JobId", "write", "()Ljava/lang/String;"⟩ : MethodName) prog_11_method_11_code 6 (some (.object "java/lang/String")) :: ws) ({ frames := 4, cells := 5, slots := 188, locals := 66 } : Room)) (fun A_ U => A_ = #[(.ref a)] ∧ Z.Warmed39 U.vm ∧ U.heap = h0 ∧ CHv Z consts_1 U.vm h0) (fun _ _ _ _ _ => True) (fun _ U o U' => ∃ v L, o = .returned v ∧ QwriK Z a hi lo cs fo h0 n0 v U'.heap L ∧ CHr Z consts_1 U.vm U.heap U'.vm U'.heap ∧ ReturnedEndW U o U' L ({ frames := 4, cells := 5, slots := 188, locals := 66 } : Room).cells ({ frames := 4, cells := 5, slots := 188, locals := 66 } : Room).slots) := by
  refine MetFree.of_bodySF (plainFor_of_name pn_4) hisR ?_
  intro p e s m args below meth c s₁ Bd hml0 hP hK
  obtain ⟨rfl, hZ, hh, hCH⟩ := hP
  have hx := Bd.exec
  have hby := Bd.bytes
  have hml : c.maxLocals = 6 := hml0
  have hown : s.vm.findClass "com/example/lane4/lane4/model/JobId" = some m.cls := findClass_of_methodNamed Bd.named
  have hnm := (name_of_methodNamed Bd.named Bd.method).1
  have X0 : Stand p l e ({ frames := 4, cells := 5, slots := 188, locals := 66 } : Room) (s.setVm s.vm) m #[(.ref a)] below meth c s₁ [] 0 0 := Stand.of_body Bd
  have e0 : s₁.heap = h0 := by rw [← hh, Bd.state]; rfl
  have N0 := Fr.nil n0
  have hZ : Z.Warmed39 (s.setVm s.vm).vm := hZ
  have hown : (s.setVm s.vm).vm.findClass "com/example/lane4/lane4/model/JobId" = some m.cls := hown
  have hEL : EW Z a0 consts_1 := own_EL hw
  have hS0 : s.Since s.vm h0.size := own_since
  have hk0 : h0.size ≤ h0.size := Nat.le_refl _
  have HC0 : CHr Z consts_1 s.vm s.heap s.vm h0 := by rw [hh]; exact CHr.refl hCH
  suffices HGO : GoC p e below s Z consts_1 (QwriK Z a hi lo cs fo h0 n0) ({ frames := 4, cells := 5, slots := 188, locals := 66 } : Room).cells ({ frames := 4, cells := 5, slots := 188, locals := 66 } : Room).slots s₁ (mkF m 0 #[.val (.ref a), .unset, .unset, .unset, .unset, .unset] []) from GoC.cast (ef_wriK m a) HGO
  obtain ⟨T1, h1, X1, e1, E1, A1, st1⟩ := newC X0 hx hZ (hw _ (List.mem_of_getElem? (i := 56) rfl)) e0 (g := (mkF m 2 #[.val (.ref a), .unset, .unset, .unset, .unset, .unset] [(.int (26 : Int32))])) rfl (hb hby d11_2) rfl (by decide) (cap := 26) (by decide) (by decide) (Nat.le_trans (Nat.add_le_add_right (Nat.le_refl 0) 1) (by decide)) (Nat.le_trans (Nat.add_le_add_right (Nat.le_refl 0) 26) (by decide))
  obtain ⟨b1, g1⟩ : ∃ z, z = h0.size := ⟨_, rfl⟩
  rw [← g1] at A1 st1
  have ne_a_b1 : a ≠ b1 := Nat.ne_of_lt (Nat.lt_of_lt_of_le F0.lt (Nat.le_of_eq g1.symm))
  have G2 : Exa Z h1 a "com/example/lane4/lane4/model/JobId" := F0.ext E1
  have G3 : Fld Z h1 a "com/example/lane4/lane4/model/JobId" "high" "J" (.long hi) := F1.ext E1
  have G4 : Fld Z h1 a "com/example/lane4/lane4/model/JobId" "low" "J" (.long lo) := F2.ext E1
  have G5 : Sta Z h1 "java/lang/String" "COMPACT_STRINGS" "Z" (.int cs) := F3.ext E1
  have G6 : Sta Z h1 "jdk/internal/util/Preconditions" "SIOOBE_FORMATTER" "Ljava/util/function/BiFunction;" fo := F4.ext E1
  have g_b1 : n0 ≤ b1 := Nat.le_trans Z0 (Nat.le_of_eq g1.symm)
  have sz_b1 : h0.size ≤ b1 := Nat.le_trans (Keep.refl h0 []).1 (Nat.le_of_eq g1.symm)
  have K1 : Keep h0 h1 [] := Keep.ext (Keep.refl h0 []) E1
  have Z1 : n0 ≤ h1.size := Nat.le_trans Z0 K1.1
  have sf1_b1 := Safe.ext E1 HC0.1 (Safe.new (Nat.le_of_eq g1.symm))
  have HC1 := HC0.trans (CHr.ext E1 HC0.1)
  have hk1 := Nat.le_trans hk0 E1.1
  have G7 : VA Z h1 b1 .char ([(0 : Int32), (0 : Int32), (0 : Int32), (0 : Int32), (0 : Int32), (0 : Int32), (0 : Int32), (0 : Int32), (0 : Int32), (0 : Int32), (0 : Int32), (0 : Int32), (0 : Int32), (0 : Int32), (0 : Int32), (0 : Int32), (0 : Int32), (0 : Int32), (0 : Int32), (0 : Int32), (0 : Int32), (0 : Int32), (0 : Int32), (0 : Int32), (0 : Int32), (0 : Int32)].map Value.int) := A1
  obtain ⟨T8, X8, e8, st8⟩ := getF X1 hx hZ hown (host := "") (Or.inl (hw _ (List.mem_of_getElem? (i := 14) rfl))) Via.refl e1 G3 (g := (mkF m 27 #[.val (.ref a), .val (.ref b1), .val (.int (0 : Int32)), .val (.int (125 : Int32)), .unset, .unset] [(.ref a)])) rfl rfl (hb hby d11_27)
  obtain ⟨a9, T9, h9, k9, b9, kc9, X9, e9, E9, hS9, hk9, hZ, hown, A9, C9, V9, R9, -, -, CR9, Lt9, Sn9, st9⟩ := ldcCH (s := s) X8 hx hZ hown (hw _ (List.mem_of_getElem? (i := 57) rfl)) (fun d hd => hw d (own_wS d hd)) e8 hS0 hk1 hEL (by simp [consts_1]) HC1.1 (vs := LST.map Value.int) (z := (32 : Int32)) ⟨by decide, by decide +kernel⟩ (by decide) (by decide) (g := (mkF m 79 #[.val (.ref a), .val (.ref b1), .val (.int (0 : Int32)), .val (.int (125 : Int32)), .val (.long ((hi.toUInt64 >>> ((61 : Int32) &&& 0x3f).toInt64.toUInt64).toInt64)), .second] [(.int (0 : Int32)), (.ref b1)])) rfl (hb hby d11_79) (n := 128) (by decide) (by decide) (Nat.le_trans (Nat.add_le_add_right (Nat.add_le_add_right (Nat.le_refl 0) 1) 2) (by decide)) (Nat.le_trans (Nat.add_le_add_right (Nat.add_le_add_right (Nat.le_refl 0) 26) 132) (by decide))
  have G10 : Exa Z h9 a "com/example/lane4/lane4/model/JobId" := G2.ext E9
  have G11 : Fld Z h9 a "com/example/lane4/lane4/model/JobId" "high" "J" (.long hi) := G3.ext E9
  have G12 : Fld Z h9 a "com/example/lane4/lane4/model/JobId" "low" "J" (.long lo) := G4.ext E9
  have G13 : Sta Z h9 "java/lang/String" "COMPACT_STRINGS" "Z" (.int cs) := G5.ext E9
  have G14 : Sta Z h9 "jdk/internal/util/Preconditions" "SIOOBE_FORMATTER" "Ljava/util/function/BiFunction;" fo := G6.ext E9
  have G15 : VA Z h9 b1 .char ([(0 : Int32), (0 : Int32), (0 : Int32), (0 : Int32), (0 : Int32), (0 : Int32), (0 : Int32), (0 : Int32), (0 : Int32), (0 : Int32), (0 : Int32), (0 : Int32), (0 : Int32), (0 : Int32), (0 : Int32), (0 : Int32), (0 : Int32), (0 : Int32), (0 : Int32), (0 : Int32), (0 : Int32), (0 : Int32), (0 : Int32), (0 : Int32), (0 : Int32), (0 : Int32)].map Value.int) := G7.ext E9
  have K9 : Keep h0 h9 [] := Keep.ext K1 E9
  have Z9 : n0 ≤ h9.size := Nat.le_trans Z0 K9.1
  have HC9 := HC1.trans CR9
  have ne9_a := Sn9 a (Safe.exa hZ.alike G10 (by decide) (by decide))
  have ne9_b1 := Sn9 b1 (own_safeV hZ.alike G15 (by decide))
  have G16 : VA Z h9 b9 .byte (LST.map Value.int) := own_va R9 (by decide)
  obtain ⟨cq17, kq17, q17a, q17b, q17c⟩ := isOf hZ e9 (A9 : Exa Z h9 a9 "java/lang/String")
  obtain ⟨_, _, ⟨T17, L17, k17, n17⟩, -, X17, ⟨Lc17, hQ17, l17, y17, z17⟩, st17⟩ := X9.virtualBack hx (y := (⟨"java/lang/String", "charAt", "(I)C"⟩ : MethodName)) (z := (⟨"java/lang/String", "charAt", "(I)C"⟩ : MethodName)) hown (mvT hZ (hw _ (List.mem_of_getElem? (i := 65) rfl))) (mvT hZ (hw _ (List.mem_of_getElem? (i := 66) rfl))) (notFace_of_selects (args := #[]) (mvT hZ (hw _ (List.mem_of_getElem? (i := 68) rfl)))) (mvT hZ (hw _ (List.mem_of_getElem? (i := 68) rfl))) (mvT hZ (hw _ (List.mem_of_getElem? (i := 67) rfl))) (by decide) (backOf (W := 2) (rm_chS l Z a0 hw [] a9 ((((hi.toUInt64 >>> ((61 : Int32) &&& 0x3f).toInt64.toUInt64).toInt64).toInt32) &&& (31 : Int32)) b9 LST cs fo h9 n0 Z9 A9 V9 C9 G16 G13 G14 hcs hfo (own_31 (own_m31 _)).1 (own_31 (own_m31 _)).2.1 (own_31 (own_m31 _)).2.2) hZ (hw _ (List.mem_of_getElem? (i := 69) rfl)) (hw _ (List.mem_of_getElem? (i := 58) rfl)) (by decide) (by decide)) q17a q17c (g := (mkF m 87 #[.val (.ref a), .val (.ref b1), .val (.int (0 : Int32)), .val (.int (125 : Int32)), .val (.long ((hi.toUInt64 >>> ((61 : Int32) &&& 0x3f).toInt64.toUInt64).toInt64)), .second] [(.int ((((hi.toUInt64 >>> ((61 : Int32) &&& 0x3f).toInt64.toUInt64).toInt64).toInt32) &&& (31 : Int32))), (.ref a9), (.int (0 : Int32)), (.ref b1)])) rfl (by rw [hml]; rfl) (Steps.refl _) (argsL := [(.int ((((hi.toUInt64 >>> ((61 : Int32) &&& 0x3f).toInt64.toUInt64).toInt64).toInt32) &&& (31 : Int32)))]) (rest := [(.int (0 : Int32)), (.ref b1)]) (lenOf pd_11 rfl) rfl (by show 2 * 0 + _ ≤ _; exact Nat.le_of_eq rfl) (hb hby d11_87) (fun _ _ => ⟨rfl, e9, (Nat.le_trans (Nat.add_le_add_right (Nat.add_le_add_right (Nat.add_le_add_right (Nat.le_refl 0) 1) 2) 0) (by decide)), (Nat.le_trans (Nat.add_le_add_right (Nat.add_le_add_right (Nat.add_le_add_right (Nat.le_refl 0) 26) 132) 0) (by decide))⟩)
  dsimp only [Pt.U, Pt.locs, Pt.cells, Pt.slots] at X17 l17 y17 z17 st17 hQ17
  subst l17 y17 z17
  obtain ⟨r_17, rfl, N17q, e17, ph17_0⟩ := hQ17
  have N17 := Fr.app N0 N17q
  have ix18 : 0 ≤ ((0 : Int32)).toInt ∧ ((0 : Int32)).toInt < (([(0 : Int32), (0 : Int32), (0 : Int32), (0 : Int32), (0 : Int32), (0 : Int32), (0 : Int32), (0 : Int32), (0 : Int32), (0 : Int32), (0 : Int32), (0 : Int32), (0 : Int32), (0 : Int32), (0 : Int32), (0 : Int32), (0 : Int32), (0 : Int32), (0 : Int32), (0 : Int32), (0 : Int32), (0 : Int32), (0 : Int32), (0 : Int32), (0 : Int32), (0 : Int32)]).length : Int) := by constructor <;> first | decide | (simp; done)
  obtain ⟨T19, h19, X19, e19, W19, V19, st19⟩ := putC X17 hx hZ e17 G15 ix18.1 ix18.2 (g := (mkF m 90 #[.val (.ref a), .val (.ref b1), .val (.int (0 : Int32)), .val (.int (125 : Int32)), .val (.long ((hi.toUInt64 >>> ((61 : Int32) &&& 0x3f).toInt64.toUInt64).toInt64)), .second] [(.int r_17), (.int (0 : Int32)), (.ref b1)])) rfl rfl (hb hby d11_90)
  have G20 : Exa Z h19 a "com/example/lane4/lane4/model/JobId" := G10.wr W19
  have G21 : Fld Z h19 a "com/example/lane4/lane4/model/JobId" "high" "J" (.long hi) := G11.other W19 (Or.inl ne_a_b1)
  have G22 : Fld Z h19 a "com/example/lane4/lane4/model/JobId" "low" "J" (.long lo) := G12.other W19 (Or.inl ne_a_b1)
  have G23 : Sta Z h19 "java/lang/String" "COMPACT_STRINGS" "Z" (.int cs) := G13.wr W19
  have G24 : Sta Z h19 "jdk/internal/util/Preconditions" "SIOOBE_FORMATTER" "Ljava/util/function/BiFunction;" fo := G14.wr W19
  have G25 : VA Z h19 b1 .char ([(nar .char r_17), (0 : Int32), (0 : Int32), (0 : Int32), (0 : Int32), (0 : Int32), (0 : Int32), (0 : Int32), (0 : Int32), (0 : Int32), (0 : Int32), (0 : Int32), (0 : Int32), (0 : Int32), (0 : Int32), (0 : Int32), (0 : Int32), (0 : Int32), (0 : Int32), (0 : Int32), (0 : Int32), (0 : Int32), (0 : Int32), (0 : Int32), (0 : Int32), (0 : Int32)].map Value.int) := V19
  have G26 : Exa Z h19 a9 "java/lang/String" := A9.wr W19
  have G27 : Fld Z h19 a9 "java/lang/String" "coder" "B" (.int (0 : Int32)) := C9.other W19 (Or.inl (Ne.symm ne9_b1.1))
  have G28 : Fld Z h19 a9 "java/lang/String" "value" "[B" (.ref b9) := V9.other W19 (Or.inl (Ne.symm ne9_b1.1))
  have G29 : VA Z h19 b9 .byte (LST.map Value.int) := G16.other W19 (Ne.symm ne9_b1.2)
  have CR19 := CHr.wr W19 (own_safeV hZ.alike G15 (by decide)) HC9.1
  have HC19 := HC9.trans CR19
  have hk19 := Nat.le_trans hk9 CR19.2.1
  have N19 := Fr.snoc X19 N17 g_b1
  have K19 : Keep h0 h19 [] := Keep.wr K9 W19 (Or.inr sz_b1)
  have Z19 : n0 ≤ h19.size := Nat.le_trans Z0 K19.1
  refine GoC.step (T' := T19) (f' := (mkF m 7 #[.val (.ref a), .val (.ref b1), .val (.int (1 : Int32)), .val (.int (125 : Int32)), .val (.long ((hi.toUInt64 >>> ((61 : Int32) &&& 0x3f).toInt64.toUInt64).toInt64)), .second] [])) (fun t kt => ?_) ?_
  · show Steps p.tables e below (s₁.setTop (mkF m 0 #[.val (.ref a), .unset, .unset, .unset, .unset, .unset] [])) _
    refine XS.bipush X0.here hx rfl (hb hby d11_0) ?_
    show Steps p.tables e below (s₁.setTop (mkF m 2 #[.val (.ref a), .unset, .unset, .unset, .unset, .unset] [(.int (26 : Int32))])) _
    refine st1 _ ?_
    show Steps p.tables e below (T1.setTop (mkF m 4 #[.val (.ref a), .unset, .unset, .unset, .unset, .unset] [(.ref b1)])) _
    refine XS.astoreN X1.here hx rfl (hb hby d11_4) rfl rfl (l' := #[.val (.ref a), .val (.ref b1), .unset, .unset, .unset, .unset]) rfl ?_
    show Steps p.tables e below (T1.setTop (mkF m 5 #[.val (.ref a), .val (.ref b1), .unset, .unset, .unset, .unset] [])) _
    refine XS.iconst X1.here hx rfl (hb hby d11_5) ?_
    show Steps p.tables e below (T1.setTop (mkF m 6 #[.val (.ref a), .val (.ref b1), .unset, .unset, .unset, .unset] [(.int (0 : Int32))])) _
    refine XS.istoreN X1.here hx rfl (hb hby d11_6) rfl (l' := #[.val (.ref a), .val (.ref b1), .val (.int (0 : Int32)), .unset, .unset, .unset]) rfl ?_
    show Steps p.tables e below (T1.setTop (mkF m 7 #[.val (.ref a), .val (.ref b1), .val (.int (0 : Int32)), .unset, .unset, .unset] [])) _
    refine XS.iloadN X1.here hx rfl (hb hby d11_7) rfl ?_
    show Steps p.tables e below (T1.setTop (mkF m 8 #[.val (.ref a), .val (.ref b1), .val (.int (0 : Int32)), .unset, .unset, .unset] [(.int (0 : Int32))])) _
    refine XS.bipush X1.here hx rfl (hb hby d11_8) ?_
    show Steps p.tables e below (T1.setTop (mkF m 10 #[.val (.ref a), .val (.ref b1), .val (.int (0 : Int32)), .unset, .unset, .unset] [(.int (26 : Int32)), (.int (0 : Int32))])) _
    refine XS.icmpNo X1.here hx rfl (hb hby d11_10) rfl (tlt (by decide : ((0 : Int32) < (26 : Int32)))).2.1 ?_
    show Steps p.tables e below (T1.setTop (mkF m 13 #[.val (.ref a), .val (.ref b1), .val (.int (0 : Int32)), .unset, .unset, .unset] [])) _
    refine XS.bipush X1.here hx rfl (hb hby d11_13) ?_
    show Steps p.tables e below (T1.setTop (mkF m 15 #[.val (.ref a), .val (.ref b1), .val (.int (0 : Int32)), .unset, .unset, .unset] [(.int (25 : Int32))])) _
    refine XS.iloadN X1.here hx rfl (hb hby d11_15) rfl ?_
    show Steps p.tables e below (T1.setTop (mkF m 16 #[.val (.ref a), .val (.ref b1), .val (.int (0 : Int32)), .unset, .unset, .unset] [(.int (0 : Int32)), (.int (25 : Int32))])) _
    refine XS.isub X1.here hx rfl (hb hby d11_16) rfl ?_
    show Steps p.tables e below (T1.setTop (mkF m 17 #[.val (.ref a), .val (.ref b1), .val (.int (0 : Int32)), .unset, .unset, .unset] [(.int (25 : Int32))])) _
    refine XS.iconst X1.here hx rfl (hb hby d11_17) ?_
    show Steps p.tables e below (T1.setTop (mkF m 18 #[.val (.ref a), .val (.ref b1), .val (.int (0 : Int32)), .unset, .unset, .unset] [(.int (5 : Int32)), (.int (25 : Int32))])) _
    refine XS.imul X1.here hx rfl (hb hby d11_18) rfl ?_
    show Steps p.tables e below (T1.setTop (mkF m 19 #[.val (.ref a), .val (.ref b1), .val (.int (0 : Int32)), .unset, .unset, .unset] [(.int (125 : Int32))])) _
    refine XS.istoreN X1.here hx rfl (hb hby d11_19) rfl (l' := #[.val (.ref a), .val (.ref b1), .val (.int (0 : Int32)), .val (.int (125 : Int32)), .unset, .unset]) rfl ?_
    show Steps p.tables e below (T1.setTop (mkF m 20 #[.val (.ref a), .val (.ref b1), .val (.int (0 : Int32)), .val (.int (125 : Int32)), .unset, .unset] [])) _
    refine XS.iloadN X1.here hx rfl (hb hby d11_20) rfl ?_
    show Steps p.tables e below (T1.setTop (mkF m 21 #[.val (.ref a), .val (.ref b1), .val (.int (0 : Int32)), .val (.int (125 : Int32)), .unset, .unset] [(.int (125 : Int32))])) _
    refine XS.bipush X1.here hx rfl (hb hby d11_21) ?_
    show Steps p.tables e below (T1.setTop (mkF m 23 #[.val (.ref a), .val (.ref b1), .val (.int (0 : Int32)), .val (.int (125 : Int32)), .unset, .unset] [(.int (64 : Int32)), (.int (125 : Int32))])) _
    refine XS.icmpNo X1.here hx rfl (hb hby d11_23) rfl (flt (by decide : ¬ ((125 : Int32) < (64 : Int32)))).1 ?_
    show Steps p.tables e below (T1.setTop (mkF m 26 #[.val (.ref a), .val (.ref b1), .val (.int (0 : Int32)), .val (.int (125 : Int32)), .unset, .unset] [])) _
    refine XS.aloadN X1.here hx rfl (hb hby d11_26) rfl rfl ?_
    show Steps p.tables e below (T1.setTop (mkF m 27 #[.val (.ref a), .val (.ref b1), .val (.int (0 : Int32)), .val (.int (125 : Int32)), .unset, .unset] [(.ref a)])) _
    refine st8 _ ?_
    show Steps p.tables e below (T8.setTop (mkF m 30 #[.val (.ref a), .val (.ref b1), .val (.int (0 : Int32)), .val (.int (125 : Int32)), .unset, .unset] [(.long hi)])) _
    refine XS.iloadN X8.here hx rfl (hb hby d11_30) rfl ?_
    show Steps p.tables e below (T8.setTop (mkF m 31 #[.val (.ref a), .val (.ref b1), .val (.int (0 : Int32)), .val (.int (125 : Int32)), .unset, .unset] [(.int (125 : Int32)), (.long hi)])) _
    refine XS.bipush X8.here hx rfl (hb hby d11_31) ?_
    show Steps p.tables e below (T8.setTop (mkF m 33 #[.val (.ref a), .val (.ref b1), .val (.int (0 : Int32)), .val (.int (125 : Int32)), .unset, .unset] [(.int (64 : Int32)), (.int (125 : Int32)), (.long hi)])) _
    refine XS.isub X8.here hx rfl (hb hby d11_33) rfl ?_
    show Steps p.tables e below (T8.setTop (mkF m 34 #[.val (.ref a), .val (.ref b1), .val (.int (0 : Int32)), .val (.int (125 : Int32)), .unset, .unset] [(.int (61 : Int32)), (.long hi)])) _
    refine XS.lushr X8.here hx rfl (hb hby d11_34) rfl ?_
    show Steps p.tables e below (T8.setTop (mkF m 35 #[.val (.ref a), .val (.ref b1), .val (.int (0 : Int32)), .val (.int (125 : Int32)), .unset, .unset] [(.long ((hi.toUInt64 >>> ((61 : Int32) &&& 0x3f).toInt64.toUInt64).toInt64))])) _
    refine XS.lstore X8.here hx rfl (hb hby d11_35) rfl (l' := #[.val (.ref a), .val (.ref b1), .val (.int (0 : Int32)), .val (.int (125 : Int32)), .val (.long ((hi.toUInt64 >>> ((61 : Int32) &&& 0x3f).toInt64.toUInt64).toInt64)), .second]) rfl ?_
    show Steps p.tables e below (T8.setTop (mkF m 37 #[.val (.ref a), .val (.ref b1), .val (.int (0 : Int32)), .val (.int (125 : Int32)), .val (.long ((hi.toUInt64 >>> ((61 : Int32) &&& 0x3f).toInt64.toUInt64).toInt64)), .second] [])) _
    refine XS.goto X8.here hx rfl (pc0 := 37) (pc' := 77) rfl (hb hby d11_37) (by decide) (by decide) ?_
    show Steps p.tables e below (T8.setTop (mkF m 77 #[.val (.ref a), .val (.ref b1), .val (.int (0 : Int32)), .val (.int (125 : Int32)), .val (.long ((hi.toUInt64 >>> ((61 : Int32) &&& 0x3f).toInt64.toUInt64).toInt64)), .second] [])) _
    refine XS.aloadN X8.here hx rfl (hb hby d11_77) rfl rfl ?_
    show Steps p.tables e below (T8.setTop (mkF m 78 #[.val (.ref a), .val (.ref b1), .val (.int (0 : Int32)), .val (.int (125 : Int32)), .val (.long ((hi.toUInt64 >>> ((61 : Int32) &&& 0x3f).toInt64.toUInt64).toInt64)), .second] [(.ref b1)])) _
    refine XS.iloadN X8.here hx rfl (hb hby d11_78) rfl ?_
    show Steps p.tables e below (T8.setTop (mkF m 79 #[.val (.ref a), .val (.ref b1), .val (.int (0 : Int32)), .val (.int (125 : Int32)), .val (.long ((hi.toUInt64 >>> ((61 : Int32) &&& 0x3f).toInt64.toUInt64).toInt64)), .second] [(.int (0 : Int32)), (.ref b1)])) _
    refine st9 _ ?_
    show Steps p.tables e below (T9.setTop (mkF m 81 #[.val (.ref a), .val (.ref b1), .val (.int (0 : Int32)), .val (.int (125 : Int32)), .val (.long ((hi.toUInt64 >>> ((61 : Int32) &&& 0x3f).toInt64.toUInt64).toInt64)), .second] [(.ref a9), (.int (0 : Int32)), (.ref b1)])) _
    refine XS.lload X9.here hx rfl (hb hby d11_81) rfl ?_
    show Steps p.tables e below (T9.setTop (mkF m 83 #[.val (.ref a), .val (.ref b1), .val (.int (0 : Int32)), .val (.int (125 : Int32)), .val (.long ((hi.toUInt64 >>> ((61 : Int32) &&& 0x3f).toInt64.toUInt64).toInt64)), .second] [(.long ((hi.toUInt64 >>> ((61 : Int32) &&& 0x3f).toInt64.toUInt64).toInt64)), (.ref a9), (.int (0 : Int32)), (.ref b1)])) _
    refine XS.l2i X9.here hx rfl (hb hby d11_83) rfl ?_
    show Steps p.tables e below (T9.setTop (mkF m 84 #[.val (.ref a), .val (.ref b1), .val (.int (0 : Int32)), .val (.int (125 : Int32)), .val (.long ((hi.toUInt64 >>> ((61 : Int32) &&& 0x3f).toInt64.toUInt64).toInt64)), .second] [(.int (((hi.toUInt64 >>> ((61 : Int32) &&& 0x3f).toInt64.toUInt64).toInt64).toInt32)), (.ref a9), (.int (0 : Int32)), (.ref b1)])) _
    refine XS.bipush X9.here hx rfl (hb hby d11_84) ?_
    show Steps p.tables e below (T9.setTop (mkF m 86 #[.val (.ref a), .val (.ref b1), .val (.int (0 : Int32)), .val (.int (125 : Int32)), .val (.long ((hi.toUInt64 >>> ((61 : Int32) &&& 0x3f).toInt64.toUInt64).toInt64)), .second] [(.int (31 : Int32)), (.int (((hi.toUInt64 >>> ((61 : Int32) &&& 0x3f).toInt64.toUInt64).toInt64).toInt32)), (.ref a9), (.int (0 : Int32)), (.ref b1)])) _
    refine XS.iand X9.here hx rfl (hb hby d11_86) rfl ?_
    show Steps p.tables e below (T9.setTop (mkF m 87 #[.val (.ref a), .val (.ref b1), .val (.int (0 : Int32)), .val (.int (125 : Int32)), .val (.long ((hi.toUInt64 >>> ((61 : Int32) &&& 0x3f).toInt64.toUInt64).toInt64)), .second] [(.int ((((hi.toUInt64 >>> ((61 : Int32) &&& 0x3f).toInt64.toUInt64).toInt64).toInt32) &&& (31 : Int32))), (.ref a9), (.int (0 : Int32)), (.ref b1)])) _
    refine st17.trans ?_
    show Steps p.tables e below (T17.setTop (mkF m 90 #[.val (.ref a), .val (.ref b1), .val (.int (0 : Int32)), .val (.int (125 : Int32)), .val (.long ((hi.toUInt64 >>> ((61 : Int32) &&& 0x3f).toInt64.toUInt64).toInt64)), .second] [(.int r_17), (.int (0 : Int32)), (.ref b1)])) _
    refine st19 _ ?_
    show Steps p.tables e below (T19.setTop (mkF m 91 #[.val (.ref a), .val (.ref b1), .val (.int (0 : Int32)), .val (.int (125 : Int32)), .val (.long ((hi.toUInt64 >>> ((61 : Int32) &&& 0x3f).toInt64.toUInt64).toInt64)), .second] [])) _
    refine XS.iinc X19.here hx rfl (hb hby d11_91) rfl (l' := #[.val (.ref a), .val (.ref b1), .val (.int (1 : Int32)), .val (.int (125 : Int32)), .val (.long ((hi.toUInt64 >>> ((61 : Int32) &&& 0x3f).toInt64.toUInt64).toInt64)), .second]) rfl ?_
    show Steps p.tables e below (T19.setTop (mkF m 94 #[.val (.ref a), .val (.ref b1), .val (.int (1 : Int32)), .val (.int (125 : Int32)), .val (.long ((hi.toUInt64 >>> ((61 : Int32) &&& 0x3f).toInt64.toUInt64).toInt64)), .second] [])) _
    refine XS.goto X19.here hx rfl (pc0 := 94) (pc' := 7) rfl (hb hby d11_94) (by decide) (by decide) ?_
    exact kt
  have hwS : [(nar .char r_17), (0 : Int32), (0 : Int32), (0 : Int32), (0 : Int32), (0 : Int32), (0 : Int32), (0 : Int32), (0 : Int32), (0 : Int32), (0 : Int32), (0 : Int32), (0 : Int32), (0 : Int32), (0 : Int32), (0 : Int32), (0 : Int32), (0 : Int32), (0 : Int32), (0 : Int32), (0 : Int32), (0 : Int32), (0 : Int32), (0 : Int32), (0 : Int32), (0 : Int32)] = (own_wp hi lo cs fo 1) := own_wpS (k := 0) (i := (0 : Int32)) (x := _) rfl (by decide) ph17_0 (own_wb1 (by decide))
  have G30 : VA Z h19 b1 .char ((own_wp hi lo cs fo 1).map Value.int) := by rw [← hwS]; exact G25
  have S7 : ∀ (N_ k_ : Nat) (T : State) (locs : List Loc) (cells slots : Nat) (X : Stand p l e ({ frames := 4, cells := 5, slots := 188, locals := 66 } : Room) (s.setVm T9.vm) m #[(.ref a)] below meth c T locs cells slots) (hcl : cells ≤ 3) (hsl : slots ≤ 158) (h : Heap) (eT : T.heap = h) (N : Fr n0 locs) (i x3 : Int32) (x4 : Int64) (K : Keep h0 h []) (HC : CHr Z consts_1 s.vm s.heap T9.vm h) (hkL : k9 ≤ h.size) (fc0 : Exa Z h a "com/example/lane4/lane4/model/JobId") (fc1 : Fld Z h a "com/example/lane4/lane4/model/JobId" "high" "J" (.long hi)) (fc2 : Fld Z h a "com/example/lane4/lane4/model/JobId" "low" "J" (.long lo)) (fc3 : Sta Z h "java/lang/String" "COMPACT_STRINGS" "Z" (.int cs)) (fc4 : Sta Z h "jdk/internal/util/Preconditions" "SIOOBE_FORMATTER" "Ljava/util/function/BiFunction;" fo) (fc5 : VA Z h b1 .char ((own_wp hi lo cs fo k_).map Value.int)) (fc6 : Exa Z h a9 "java/lang/String") (fc7 : Fld Z h a9 "java/lang/String" "coder" "B" (.int (0 : Int32))) (fc8 : Fld Z h a9 "java/lang/String" "value" "[B" (.ref b9)) (fc9 : VA Z h b9 .byte (LST.map Value.int)) (hki : i.toInt = (k_ : Int)) (hk26 : k_ ≤ 26) (hN_ : 26 - k_ = N_), GoC p e below s Z consts_1 (QwriK Z a hi lo cs fo h0 n0) ({ frames := 4, cells := 5, slots := 188, locals := 66 } : Room).cells ({ frames := 4, cells := 5, slots := 188, locals := 66 } : Room).slots T (mkF m 7 #[.val (.ref a), .val (.ref b1), .val (.int i), .val (.int x3), .val (.long x4), .second] []) := by
    intro N_; induction N_ using Nat.strongRecOn with | _ N_ IH => ?_
    intro k_ T locs cells slots X hcl hsl h eT N i x3 x4 K HC hkL fc0 fc1 fc2 fc3 fc4 fc5 fc6 fc7 fc8 fc9 hki hk26 hN_
    subst hN_
    have Zh : n0 ≤ h.size := Nat.le_trans Z0 K.1
    refine GoC.step (T' := T) (f' := (mkF m 10 #[.val (.ref a), .val (.ref b1), .val (.int i), .val (.int x3), .val (.long x4), .second] [(.int (26 : Int32)), (.int i)])) (fun t kt => ?_) ?_
    · show Steps p.tables e below (T.setTop (mkF m 7 #[.val (.ref a), .val (.ref b1), .val (.int i), .val (.int x3), .val (.long x4), .second] [])) _
      refine XS.iloadN X.here hx rfl (hb hby d11_7) rfl ?_
      show Steps p.tables e below (T.setTop (mkF m 8 #[.val (.ref a), .val (.ref b1), .val (.int i), .val (.int x3), .val (.long x4), .second] [(.int i)])) _
      refine XS.bipush X.here hx rfl (hb hby d11_8) ?_
      exact kt
    by_cases hc31 : i < (26 : Int32)
    · have _ := hc31
      refine GoC.step (T' := T) (f' := (mkF m 13 #[.val (.ref a), .val (.ref b1), .val (.int i), .val (.int x3), .val (.long x4), .second] [])) (fun t kt => ?_) ?_
      · show Steps p.tables e below (T.setTop (mkF m 10 #[.val (.ref a), .val (.ref b1), .val (.int i), .val (.int x3), .val (.long x4), .second] [(.int (26 : Int32)), (.int i)])) _
        refine XS.icmpNo X.here hx rfl (hb hby d11_10) rfl (tlt hc31).2.1 ?_
        exact kt
      refine GoC.step (T' := T) (f' := (mkF m 23 #[.val (.ref a), .val (.ref b1), .val (.int i), .val (.int (((25 : Int32) - i) * (5 : Int32))), .val (.long x4), .second] [(.int (64 : Int32)), (.int (((25 : Int32) - i) * (5 : Int32)))])) (fun t kt => ?_) ?_
      · show Steps p.tables e below (T.setTop (mkF m 13 #[.val (.ref a), .val (.ref b1), .val (.int i), .val (.int x3), .val (.long x4), .second] [])) _
        refine XS.bipush X.here hx rfl (hb hby d11_13) ?_
        show Steps p.tables e below (T.setTop (mkF m 15 #[.val (.ref a), .val (.ref b1), .val (.int i), .val (.int x3), .val (.long x4), .second] [(.int (25 : Int32))])) _
        refine XS.iloadN X.here hx rfl (hb hby d11_15) rfl ?_
        show Steps p.tables e below (T.setTop (mkF m 16 #[.val (.ref a), .val (.ref b1), .val (.int i), .val (.int x3), .val (.long x4), .second] [(.int i), (.int (25 : Int32))])) _
        refine XS.isub X.here hx rfl (hb hby d11_16) rfl ?_
        show Steps p.tables e below (T.setTop (mkF m 17 #[.val (.ref a), .val (.ref b1), .val (.int i), .val (.int x3), .val (.long x4), .second] [(.int ((25 : Int32) - i))])) _
        refine XS.iconst X.here hx rfl (hb hby d11_17) ?_
        show Steps p.tables e below (T.setTop (mkF m 18 #[.val (.ref a), .val (.ref b1), .val (.int i), .val (.int x3), .val (.long x4), .second] [(.int (5 : Int32)), (.int ((25 : Int32) - i))])) _
        refine XS.imul X.here hx rfl (hb hby d11_18) rfl ?_
        show Steps p.tables e below (T.setTop (mkF m 19 #[.val (.ref a), .val (.ref b1), .val (.int i), .val (.int x3), .val (.long x4), .second] [(.int (((25 : Int32) - i) * (5 : Int32)))])) _
        refine XS.istoreN X.here hx rfl (hb hby d11_19) rfl (l' := #[.val (.ref a), .val (.ref b1), .val (.int i), .val (.int (((25 : Int32) - i) * (5 : Int32))), .val (.long x4), .second]) rfl ?_
        show Steps p.tables e below (T.setTop (mkF m 20 #[.val (.ref a), .val (.ref b1), .val (.int i), .val (.int (((25 : Int32) - i) * (5 : Int32))), .val (.long x4), .second] [])) _
        refine XS.iloadN X.here hx rfl (hb hby d11_20) rfl ?_
        show Steps p.tables e below (T.setTop (mkF m 21 #[.val (.ref a), .val (.ref b1), .val (.int i), .val (.int (((25 : Int32) - i) * (5 : Int32))), .val (.long x4), .second] [(.int (((25 : Int32) - i) * (5 : Int32)))])) _
        refine XS.bipush X.here hx rfl (hb hby d11_21) ?_
        exact kt
      by_cases hc32 : (((25 : Int32) - i) * (5 : Int32)) < (64 : Int32)
      · have _ := hc32
        refine GoC.step (T' := T) (f' := (mkF m 40 #[.val (.ref a), .val (.ref b1), .val (.int i), .val (.int (((25 : Int32) - i) * (5 : Int32))), .val (.long x4), .second] [])) (fun t kt => ?_) ?_
        · show Steps p.tables e below (T.setTop (mkF m 23 #[.val (.ref a), .val (.ref b1), .val (.int i), .val (.int (((25 : Int32) - i) * (5 : Int32))), .val (.long x4), .second] [(.int (64 : Int32)), (.int (((25 : Int32) - i) * (5 : Int32)))])) _
          refine XS.icmpYes X.here hx rfl (pc0 := 23) (pc' := 40) rfl (hb hby d11_23) rfl (tlt hc32).1 (by decide) (by decide) ?_
          exact kt
        refine GoC.step (T' := T) (f' := (mkF m 45 #[.val (.ref a), .val (.ref b1), .val (.int i), .val (.int (((25 : Int32) - i) * (5 : Int32))), .val (.long x4), .second] [(.int (64 : Int32)), (.int ((((25 : Int32) - i) * (5 : Int32)) + (5 : Int32)))])) (fun t kt => ?_) ?_
        · show Steps p.tables e below (T.setTop (mkF m 40 #[.val (.ref a), .val (.ref b1), .val (.int i), .val (.int (((25 : Int32) - i) * (5 : Int32))), .val (.long x4), .second] [])) _
          refine XS.iloadN X.here hx rfl (hb hby d11_40) rfl ?_
          show Steps p.tables e below (T.setTop (mkF m 41 #[.val (.ref a), .val (.ref b1), .val (.int i), .val (.int (((25 : Int32) - i) * (5 : Int32))), .val (.long x4), .second] [(.int (((25 : Int32) - i) * (5 : Int32)))])) _
          refine XS.iconst X.here hx rfl (hb hby d11_41) ?_
          show Steps p.tables e below (T.setTop (mkF m 42 #[.val (.ref a), .val (.ref b1), .val (.int i), .val (.int (((25 : Int32) - i) * (5 : Int32))), .val (.long x4), .second] [(.int (5 : Int32)), (.int (((25 : Int32) - i) * (5 : Int32)))])) _
          refine XS.iadd X.here hx rfl (hb hby d11_42) rfl ?_
          show Steps p.tables e below (T.setTop (mkF m 43 #[.val (.ref a), .val (.ref b1), .val (.int i), .val (.int (((25 : Int32) - i) * (5 : Int32))), .val (.long x4), .second] [(.int ((((25 : Int32) - i) * (5 : Int32)) + (5 : Int32)))])) _
          refine XS.bipush X.here hx rfl (hb hby d11_43) ?_
          exact kt
        by_cases hc33 : (64 : Int32) < ((((25 : Int32) - i) * (5 : Int32)) + (5 : Int32))
        · have _ := hc33
          refine GoC.step (T' := T) (f' := (mkF m 59 #[.val (.ref a), .val (.ref b1), .val (.int i), .val (.int (((25 : Int32) - i) * (5 : Int32))), .val (.long x4), .second] [])) (fun t kt => ?_) ?_
          · show Steps p.tables e below (T.setTop (mkF m 45 #[.val (.ref a), .val (.ref b1), .val (.int i), .val (.int (((25 : Int32) - i) * (5 : Int32))), .val (.long x4), .second] [(.int (64 : Int32)), (.int ((((25 : Int32) - i) * (5 : Int32)) + (5 : Int32)))])) _
            refine XS.icmpYes X.here hx rfl (pc0 := 45) (pc' := 59) rfl (hb hby d11_45) rfl (tlt hc33).2.2.1 (by decide) (by decide) ?_
            exact kt
          obtain ⟨T34, X34, e34, st34⟩ := getF X hx hZ hown (host := "") (Or.inl (hw _ (List.mem_of_getElem? (i := 14) rfl))) Via.refl eT fc1 (g := (mkF m 60 #[.val (.ref a), .val (.ref b1), .val (.int i), .val (.int (((25 : Int32) - i) * (5 : Int32))), .val (.long x4), .second] [(.ref a)])) rfl rfl (hb hby d11_60)
          obtain ⟨T35, X35, e35, st35⟩ := getF X34 hx hZ hown (host := "") (Or.inl (hw _ (List.mem_of_getElem? (i := 16) rfl))) Via.refl e34 fc2 (g := (mkF m 69 #[.val (.ref a), .val (.ref b1), .val (.int i), .val (.int (((25 : Int32) - i) * (5 : Int32))), .val (.long x4), .second] [(.ref a), (.long (hi <<< (((64 : Int32) - (((25 : Int32) - i) * (5 : Int32))) &&& 0x3f).toInt64))])) rfl rfl (hb hby d11_69)
          obtain ⟨cq37, kq37, q37a, q37b, q37c⟩ := isOf hZ e35 (fc6 : Exa Z h a9 "java/lang/String")
          obtain ⟨_, _, ⟨T37, L37, k37, n37⟩, -, X37, ⟨Lc37, hQ37, l37, y37, z37⟩, st37⟩ := X35.virtualBack hx (y := (⟨"java/lang/String", "charAt", "(I)C"⟩ : MethodName)) (z := (⟨"java/lang/String", "charAt", "(I)C"⟩ : MethodName)) hown (mvT hZ (hw _ (List.mem_of_getElem? (i := 65) rfl))) (mvT hZ (hw _ (List.mem_of_getElem? (i := 66) rfl))) (notFace_of_selects (args := #[]) (mvT hZ (hw _ (List.mem_of_getElem? (i := 68) rfl)))) (mvT hZ (hw _ (List.mem_of_getElem? (i := 68) rfl))) (mvT hZ (hw _ (List.mem_of_getElem? (i := 67) rfl))) (by decide) (backOf (W := 2) (rm_chS l Z a0 hw [] a9 ((((hi <<< (((64 : Int32) - (((25 : Int32) - i) * (5 : Int32))) &&& 0x3f).toInt64) ||| ((lo.toUInt64 >>> ((((25 : Int32) - i) * (5 : Int32)) &&& 0x3f).toInt64.toUInt64).toInt64)).toInt32) &&& (31 : Int32)) b9 LST cs fo h n0 Zh fc6 fc8 fc7 fc9 fc3 fc4 hcs hfo (own_31 (own_m31 _)).1 (own_31 (own_m31 _)).2.1 (own_31 (own_m31 _)).2.2) hZ (hw _ (List.mem_of_getElem? (i := 69) rfl)) (hw _ (List.mem_of_getElem? (i := 58) rfl)) (by decide) (by decide)) q37a q37c (g := (mkF m 87 #[.val (.ref a), .val (.ref b1), .val (.int i), .val (.int (((25 : Int32) - i) * (5 : Int32))), .val (.long ((hi <<< (((64 : Int32) - (((25 : Int32) - i) * (5 : Int32))) &&& 0x3f).toInt64) ||| ((lo.toUInt64 >>> ((((25 : Int32) - i) * (5 : Int32)) &&& 0x3f).toInt64.toUInt64).toInt64))), .second] [(.int ((((hi <<< (((64 : Int32) - (((25 : Int32) - i) * (5 : Int32))) &&& 0x3f).toInt64) ||| ((lo.toUInt64 >>> ((((25 : Int32) - i) * (5 : Int32)) &&& 0x3f).toInt64.toUInt64).toInt64)).toInt32) &&& (31 : Int32))), (.ref a9), (.int i), (.ref b1)])) rfl (by rw [hml]; rfl) (Steps.refl _) (argsL := [(.int ((((hi <<< (((64 : Int32) - (((25 : Int32) - i) * (5 : Int32))) &&& 0x3f).toInt64) ||| ((lo.toUInt64 >>> ((((25 : Int32) - i) * (5 : Int32)) &&& 0x3f).toInt64.toUInt64).toInt64)).toInt32) &&& (31 : Int32)))]) (rest := [(.int i), (.ref b1)]) (lenOf pd_11 rfl) rfl (by show 2 * 0 + _ ≤ _; exact Nat.le_of_eq rfl) (hb hby d11_87) (fun _ _ => ⟨rfl, e35, (Nat.le_trans (Nat.add_le_add_right hcl 0) (by decide)), (Nat.le_trans (Nat.add_le_add_right hsl 0) (by decide))⟩)
          dsimp only [Pt.U, Pt.locs, Pt.cells, Pt.slots] at X37 l37 y37 z37 st37 hQ37
          subst l37 y37 z37
          obtain ⟨r_37, rfl, N37q, e37, ph37_0⟩ := hQ37
          have N37 := Fr.app N N37q
          have ix38 : 0 ≤ (i).toInt ∧ (i).toInt < (((own_wp hi lo cs fo k_)).length : Int) := own_wpi hki hc31
          obtain ⟨T39, h39, X39, e39, W39, V39, st39⟩ := putC X37 hx hZ e37 fc5 ix38.1 ix38.2 (g := (mkF m 90 #[.val (.ref a), .val (.ref b1), .val (.int i), .val (.int (((25 : Int32) - i) * (5 : Int32))), .val (.long ((hi <<< (((64 : Int32) - (((25 : Int32) - i) * (5 : Int32))) &&& 0x3f).toInt64) ||| ((lo.toUInt64 >>> ((((25 : Int32) - i) * (5 : Int32)) &&& 0x3f).toInt64.toUInt64).toInt64))), .second] [(.int r_37), (.int i), (.ref b1)])) rfl rfl (hb hby d11_90)
          have G40 : Exa Z h39 a "com/example/lane4/lane4/model/JobId" := fc0.wr W39
          have G41 : Fld Z h39 a "com/example/lane4/lane4/model/JobId" "high" "J" (.long hi) := fc1.other W39 (Or.inl ne_a_b1)
          have G42 : Fld Z h39 a "com/example/lane4/lane4/model/JobId" "low" "J" (.long lo) := fc2.other W39 (Or.inl ne_a_b1)
          have G43 : Sta Z h39 "java/lang/String" "COMPACT_STRINGS" "Z" (.int cs) := fc3.wr W39
          have G44 : Sta Z h39 "jdk/internal/util/Preconditions" "SIOOBE_FORMATTER" "Ljava/util/function/BiFunction;" fo := fc4.wr W39
          have G45 : VA Z h39 b1 .char (((own_wp hi lo cs fo k_).set i.toNatClampNeg (nar .char r_37)).map Value.int) := V39
          have G46 : Exa Z h39 a9 "java/lang/String" := fc6.wr W39
          have G47 : Fld Z h39 a9 "java/lang/String" "coder" "B" (.int (0 : Int32)) := fc7.other W39 (Or.inl (Ne.symm ne9_b1.1))
          have G48 : Fld Z h39 a9 "java/lang/String" "value" "[B" (.ref b9) := fc8.other W39 (Or.inl (Ne.symm ne9_b1.1))
          have G49 : VA Z h39 b9 .byte (LST.map Value.int) := fc9.other W39 (Ne.symm ne9_b1.2)
          have CR39 := CHr.wr W39 (own_safeV hZ.alike fc5 (by decide)) HC.1
          have HC39 := HC.trans CR39
          have hk39 := Nat.le_trans hkL CR39.2.1
          have N39 := Fr.snoc X39 N37 g_b1
          have K39 : Keep h0 h39 [] := Keep.wr K W39 (Or.inr sz_b1)
          have Z39 : n0 ≤ h39.size := Nat.le_trans Z0 K39.1
          refine GoC.step (T' := T39) (f' := (mkF m 7 #[.val (.ref a), .val (.ref b1), .val (.int (i + (1 : Int32))), .val (.int (((25 : Int32) - i) * (5 : Int32))), .val (.long ((hi <<< (((64 : Int32) - (((25 : Int32) - i) * (5 : Int32))) &&& 0x3f).toInt64) ||| ((lo.toUInt64 >>> ((((25 : Int32) - i) * (5 : Int32)) &&& 0x3f).toInt64.toUInt64).toInt64))), .second] [])) (fun t kt => ?_) ?_
          · show Steps p.tables e below (T.setTop (mkF m 59 #[.val (.ref a), .val (.ref b1), .val (.int i), .val (.int (((25 : Int32) - i) * (5 : Int32))), .val (.long x4), .second] [])) _
            refine XS.aloadN X.here hx rfl (hb hby d11_59) rfl rfl ?_
            show Steps p.tables e below (T.setTop (mkF m 60 #[.val (.ref a), .val (.ref b1), .val (.int i), .val (.int (((25 : Int32) - i) * (5 : Int32))), .val (.long x4), .second] [(.ref a)])) _
            refine st34 _ ?_
            show Steps p.tables e below (T34.setTop (mkF m 63 #[.val (.ref a), .val (.ref b1), .val (.int i), .val (.int (((25 : Int32) - i) * (5 : Int32))), .val (.long x4), .second] [(.long hi)])) _
            refine XS.bipush X34.here hx rfl (hb hby d11_63) ?_
            show Steps p.tables e below (T34.setTop (mkF m 65 #[.val (.ref a), .val (.ref b1), .val (.int i), .val (.int (((25 : Int32) - i) * (5 : Int32))), .val (.long x4), .second] [(.int (64 : Int32)), (.long hi)])) _
            refine XS.iloadN X34.here hx rfl (hb hby d11_65) rfl ?_
            show Steps p.tables e below (T34.setTop (mkF m 66 #[.val (.ref a), .val (.ref b1), .val (.int i), .val (.int (((25 : Int32) - i) * (5 : Int32))), .val (.long x4), .second] [(.int (((25 : Int32) - i) * (5 : Int32))), (.int (64 : Int32)), (.long hi)])) _
            refine XS.isub X34.here hx rfl (hb hby d11_66) rfl ?_
            show Steps p.tables e below (T34.setTop (mkF m 67 #[.val (.ref a), .val (.ref b1), .val (.int i), .val (.int (((25 : Int32) - i) * (5 : Int32))), .val (.long x4), .second] [(.int ((64 : Int32) - (((25 : Int32) - i) * (5 : Int32)))), (.long hi)])) _
            refine XS.lshl X34.here hx rfl (hb hby d11_67) rfl ?_
            show Steps p.tables e below (T34.setTop (mkF m 68 #[.val (.ref a), .val (.ref b1), .val (.int i), .val (.int (((25 : Int32) - i) * (5 : Int32))), .val (.long x4), .second] [(.long (hi <<< (((64 : Int32) - (((25 : Int32) - i) * (5 : Int32))) &&& 0x3f).toInt64))])) _
            refine XS.aloadN X34.here hx rfl (hb hby d11_68) rfl rfl ?_
            show Steps p.tables e below (T34.setTop (mkF m 69 #[.val (.ref a), .val (.ref b1), .val (.int i), .val (.int (((25 : Int32) - i) * (5 : Int32))), .val (.long x4), .second] [(.ref a), (.long (hi <<< (((64 : Int32) - (((25 : Int32) - i) * (5 : Int32))) &&& 0x3f).toInt64))])) _
            refine st35 _ ?_
            show Steps p.tables e below (T35.setTop (mkF m 72 #[.val (.ref a), .val (.ref b1), .val (.int i), .val (.int (((25 : Int32) - i) * (5 : Int32))), .val (.long x4), .second] [(.long lo), (.long (hi <<< (((64 : Int32) - (((25 : Int32) - i) * (5 : Int32))) &&& 0x3f).toInt64))])) _
            refine XS.iloadN X35.here hx rfl (hb hby d11_72) rfl ?_
            show Steps p.tables e below (T35.setTop (mkF m 73 #[.val (.ref a), .val (.ref b1), .val (.int i), .val (.int (((25 : Int32) - i) * (5 : Int32))), .val (.long x4), .second] [(.int (((25 : Int32) - i) * (5 : Int32))), (.long lo), (.long (hi <<< (((64 : Int32) - (((25 : Int32) - i) * (5 : Int32))) &&& 0x3f).toInt64))])) _
            refine XS.lushr X35.here hx rfl (hb hby d11_73) rfl ?_
            show Steps p.tables e below (T35.setTop (mkF m 74 #[.val (.ref a), .val (.ref b1), .val (.int i), .val (.int (((25 : Int32) - i) * (5 : Int32))), .val (.long x4), .second] [(.long ((lo.toUInt64 >>> ((((25 : Int32) - i) * (5 : Int32)) &&& 0x3f).toInt64.toUInt64).toInt64)), (.long (hi <<< (((64 : Int32) - (((25 : Int32) - i) * (5 : Int32))) &&& 0x3f).toInt64))])) _
            refine XS.lor X35.here hx rfl (hb hby d11_74) rfl ?_
            show Steps p.tables e below (T35.setTop (mkF m 75 #[.val (.ref a), .val (.ref b1), .val (.int i), .val (.int (((25 : Int32) - i) * (5 : Int32))), .val (.long x4), .second] [(.long ((hi <<< (((64 : Int32) - (((25 : Int32) - i) * (5 : Int32))) &&& 0x3f).toInt64) ||| ((lo.toUInt64 >>> ((((25 : Int32) - i) * (5 : Int32)) &&& 0x3f).toInt64.toUInt64).toInt64)))])) _
            refine XS.lstore X35.here hx rfl (hb hby d11_75) rfl (l' := #[.val (.ref a), .val (.ref b1), .val (.int i), .val (.int (((25 : Int32) - i) * (5 : Int32))), .val (.long ((hi <<< (((64 : Int32) - (((25 : Int32) - i) * (5 : Int32))) &&& 0x3f).toInt64) ||| ((lo.toUInt64 >>> ((((25 : Int32) - i) * (5 : Int32)) &&& 0x3f).toInt64.toUInt64).toInt64))), .second]) rfl ?_
            show Steps p.tables e below (T35.setTop (mkF m 77 #[.val (.ref a), .val (.ref b1), .val (.int i), .val (.int (((25 : Int32) - i) * (5 : Int32))), .val (.long ((hi <<< (((64 : Int32) - (((25 : Int32) - i) * (5 : Int32))) &&& 0x3f).toInt64) ||| ((lo.toUInt64 >>> ((((25 : Int32) - i) * (5 : Int32)) &&& 0x3f).toInt64.toUInt64).toInt64))), .second] [])) _
            refine XS.aloadN X35.here hx rfl (hb hby d11_77) rfl rfl ?_
            show Steps p.tables e below (T35.setTop (mkF m 78 #[.val (.ref a), .val (.ref b1), .val (.int i), .val (.int (((25 : Int32) - i) * (5 : Int32))), .val (.long ((hi <<< (((64 : Int32) - (((25 : Int32) - i) * (5 : Int32))) &&& 0x3f).toInt64) ||| ((lo.toUInt64 >>> ((((25 : Int32) - i) * (5 : Int32)) &&& 0x3f).toInt64.toUInt64).toInt64))), .second] [(.ref b1)])) _
            refine XS.iloadN X35.here hx rfl (hb hby d11_78) rfl ?_
            show Steps p.tables e below (T35.setTop (mkF m 79 #[.val (.ref a), .val (.ref b1), .val (.int i), .val (.int (((25 : Int32) - i) * (5 : Int32))), .val (.long ((hi <<< (((64 : Int32) - (((25 : Int32) - i) * (5 : Int32))) &&& 0x3f).toInt64) ||| ((lo.toUInt64 >>> ((((25 : Int32) - i) * (5 : Int32)) &&& 0x3f).toInt64.toUInt64).toInt64))), .second] [(.int i), (.ref b1)])) _
            refine ldcAgain (s := s) X35 hx hZ hown (hw _ (List.mem_of_getElem? (i := 57) rfl)) Lt9 (g := (mkF m 79 #[.val (.ref a), .val (.ref b1), .val (.int i), .val (.int (((25 : Int32) - i) * (5 : Int32))), .val (.long ((hi <<< (((64 : Int32) - (((25 : Int32) - i) * (5 : Int32))) &&& 0x3f).toInt64) ||| ((lo.toUInt64 >>> ((((25 : Int32) - i) * (5 : Int32)) &&& 0x3f).toInt64.toUInt64).toInt64))), .second] [(.int i), (.ref b1)])) rfl (hb hby d11_79) _ ?_
            show Steps p.tables e below (T35.setTop (mkF m 81 #[.val (.ref a), .val (.ref b1), .val (.int i), .val (.int (((25 : Int32) - i) * (5 : Int32))), .val (.long ((hi <<< (((64 : Int32) - (((25 : Int32) - i) * (5 : Int32))) &&& 0x3f).toInt64) ||| ((lo.toUInt64 >>> ((((25 : Int32) - i) * (5 : Int32)) &&& 0x3f).toInt64.toUInt64).toInt64))), .second] [(.ref a9), (.int i), (.ref b1)])) _
            refine XS.lload X35.here hx rfl (hb hby d11_81) rfl ?_
            show Steps p.tables e below (T35.setTop (mkF m 83 #[.val (.ref a), .val (.ref b1), .val (.int i), .val (.int (((25 : Int32) - i) * (5 : Int32))), .val (.long ((hi <<< (((64 : Int32) - (((25 : Int32) - i) * (5 : Int32))) &&& 0x3f).toInt64) ||| ((lo.toUInt64 >>> ((((25 : Int32) - i) * (5 : Int32)) &&& 0x3f).toInt64.toUInt64).toInt64))), .second] [(.long ((hi <<< (((64 : Int32) - (((25 : Int32) - i) * (5 : Int32))) &&& 0x3f).toInt64) ||| ((lo.toUInt64 >>> ((((25 : Int32) - i) * (5 : Int32)) &&& 0x3f).toInt64.toUInt64).toInt64))), (.ref a9), (.int i), (.ref b1)])) _
            refine XS.l2i X35.here hx rfl (hb hby d11_83) rfl ?_
            show Steps p.tables e below (T35.setTop (mkF m 84 #[.val (.ref a), .val (.ref b1), .val (.int i), .val (.int (((25 : Int32) - i) * (5 : Int32))), .val (.long ((hi <<< (((64 : Int32) - (((25 : Int32) - i) * (5 : Int32))) &&& 0x3f).toInt64) ||| ((lo.toUInt64 >>> ((((25 : Int32) - i) * (5 : Int32)) &&& 0x3f).toInt64.toUInt64).toInt64))), .second] [(.int (((hi <<< (((64 : Int32) - (((25 : Int32) - i) * (5 : Int32))) &&& 0x3f).toInt64) ||| ((lo.toUInt64 >>> ((((25 : Int32) - i) * (5 : Int32)) &&& 0x3f).toInt64.toUInt64).toInt64)).toInt32)), (.ref a9), (.int i), (.ref b1)])) _
            refine XS.bipush X35.here hx rfl (hb hby d11_84) ?_
            show Steps p.tables e below (T35.setTop (mkF m 86 #[.val (.ref a), .val (.ref b1), .val (.int i), .val (.int (((25 : Int32) - i) * (5 : Int32))), .val (.long ((hi <<< (((64 : Int32) - (((25 : Int32) - i) * (5 : Int32))) &&& 0x3f).toInt64) ||| ((lo.toUInt64 >>> ((((25 : Int32) - i) * (5 : Int32)) &&& 0x3f).toInt64.toUInt64).toInt64))), .second] [(.int (31 : Int32)), (.int (((hi <<< (((64 : Int32) - (((25 : Int32) - i) * (5 : Int32))) &&& 0x3f).toInt64) ||| ((lo.toUInt64 >>> ((((25 : Int32) - i) * (5 : Int32)) &&& 0x3f).toInt64.toUInt64).toInt64)).toInt32)), (.ref a9), (.int i), (.ref b1)])) _
            refine XS.iand X35.here hx rfl (hb hby d11_86) rfl ?_
            show Steps p.tables e below (T35.setTop (mkF m 87 #[.val (.ref a), .val (.ref b1), .val (.int i), .val (.int (((25 : Int32) - i) * (5 : Int32))), .val (.long ((hi <<< (((64 : Int32) - (((25 : Int32) - i) * (5 : Int32))) &&& 0x3f).toInt64) ||| ((lo.toUInt64 >>> ((((25 : Int32) - i) * (5 : Int32)) &&& 0x3f).toInt64.toUInt64).toInt64))), .second] [(.int ((((hi <<< (((64 : Int32) - (((25 : Int32) - i) * (5 : Int32))) &&& 0x3f).toInt64) ||| ((lo.toUInt64 >>> ((((25 : Int32) - i) * (5 : Int32)) &&& 0x3f).toInt64.toUInt64).toInt64)).toInt32) &&& (31 : Int32))), (.ref a9), (.int i), (.ref b1)])) _
            refine st37.trans ?_
            show Steps p.tables e below (T37.setTop (mkF m 90 #[.val (.ref a), .val (.ref b1), .val (.int i), .val (.int (((25 : Int32) - i) * (5 : Int32))), .val (.long ((hi <<< (((64 : Int32) - (((25 : Int32) - i) * (5 : Int32))) &&& 0x3f).toInt64) ||| ((lo.toUInt64 >>> ((((25 : Int32) - i) * (5 : Int32)) &&& 0x3f).toInt64.toUInt64).toInt64))), .second] [(.int r_37), (.int i), (.ref b1)])) _
            refine st39 _ ?_
            show Steps p.tables e below (T39.setTop (mkF m 91 #[.val (.ref a), .val (.ref b1), .val (.int i), .val (.int (((25 : Int32) - i) * (5 : Int32))), .val (.long ((hi <<< (((64 : Int32) - (((25 : Int32) - i) * (5 : Int32))) &&& 0x3f).toInt64) ||| ((lo.toUInt64 >>> ((((25 : Int32) - i) * (5 : Int32)) &&& 0x3f).toInt64.toUInt64).toInt64))), .second] [])) _
            refine XS.iinc X39.here hx rfl (hb hby d11_91) rfl (l' := #[.val (.ref a), .val (.ref b1), .val (.int (i + (1 : Int32))), .val (.int (((25 : Int32) - i) * (5 : Int32))), .val (.long ((hi <<< (((64 : Int32) - (((25 : Int32) - i) * (5 : Int32))) &&& 0x3f).toInt64) ||| ((lo.toUInt64 >>> ((((25 : Int32) - i) * (5 : Int32)) &&& 0x3f).toInt64.toUInt64).toInt64))), .second]) rfl ?_
            show Steps p.tables e below (T39.setTop (mkF m 94 #[.val (.ref a), .val (.ref b1), .val (.int (i + (1 : Int32))), .val (.int (((25 : Int32) - i) * (5 : Int32))), .val (.long ((hi <<< (((64 : Int32) - (((25 : Int32) - i) * (5 : Int32))) &&& 0x3f).toInt64) ||| ((lo.toUInt64 >>> ((((25 : Int32) - i) * (5 : Int32)) &&& 0x3f).toInt64.toUInt64).toInt64))), .second] [])) _
            refine XS.goto X39.here hx rfl (pc0 := 94) (pc' := 7) rfl (hb hby d11_94) (by decide) (by decide) ?_
            exact kt
          have hwS : ((own_wp hi lo cs fo k_).set i.toNatClampNeg (nar .char r_37)) = (own_wp hi lo cs fo (k_ + 1)) := own_wpS (k := k_) (i := i) (x := ((hi <<< (((64 : Int32) - (((25 : Int32) - i) * (5 : Int32))) &&& 0x3f).toInt64) ||| ((lo.toUInt64 >>> ((((25 : Int32) - i) * (5 : Int32)) &&& 0x3f).toInt64.toUInt64).toInt64))) hki hc31 ph37_0 (own_wb3 hc32 hc33)
          have G50 : VA Z h39 b1 .char ((own_wp hi lo cs fo (k_ + 1)).map Value.int) := by rw [← hwS]; exact G45
          have hkl_ := own_klt hki hc31
          exact IH (26 - (k_ + 1)) (by omega) (k_ + 1) _ _ _ _ X39 (Nat.le_trans (Nat.add_le_add_right hcl 0) (by decide)) (Nat.le_trans (Nat.add_le_add_right hsl 0) (by decide)) h39 e39 N39 (i + (1 : Int32)) (((25 : Int32) - i) * (5 : Int32)) ((hi <<< (((64 : Int32) - (((25 : Int32) - i) * (5 : Int32))) &&& 0x3f).toInt64) ||| ((lo.toUInt64 >>> ((((25 : Int32) - i) * (5 : Int32)) &&& 0x3f).toInt64.toUInt64).toInt64)) K39 HC39 hk39 G40 G41 G42 G43 G44 G50 G46 G47 G48 G49 (own_k1 hki hc31) (by omega) rfl
        · have _ := hc33
          refine GoC.step (T' := T) (f' := (mkF m 48 #[.val (.ref a), .val (.ref b1), .val (.int i), .val (.int (((25 : Int32) - i) * (5 : Int32))), .val (.long x4), .second] [])) (fun t kt => ?_) ?_
          · show Steps p.tables e below (T.setTop (mkF m 45 #[.val (.ref a), .val (.ref b1), .val (.int i), .val (.int (((25 : Int32) - i) * (5 : Int32))), .val (.long x4), .second] [(.int (64 : Int32)), (.int ((((25 : Int32) - i) * (5 : Int32)) + (5 : Int32)))])) _
            refine XS.icmpNo X.here hx rfl (hb hby d11_45) rfl (flt hc33).2.2.1 ?_
            exact kt
          obtain ⟨T51, X51, e51, st51⟩ := getF X hx hZ hown (host := "") (Or.inl (hw _ (List.mem_of_getElem? (i := 16) rfl))) Via.refl eT fc2 (g := (mkF m 49 #[.val (.ref a), .val (.ref b1), .val (.int i), .val (.int (((25 : Int32) - i) * (5 : Int32))), .val (.long x4), .second] [(.ref a)])) rfl rfl (hb hby d11_49)
          obtain ⟨cq53, kq53, q53a, q53b, q53c⟩ := isOf hZ e51 (fc6 : Exa Z h a9 "java/lang/String")
          obtain ⟨_, _, ⟨T53, L53, k53, n53⟩, -, X53, ⟨Lc53, hQ53, l53, y53, z53⟩, st53⟩ := X51.virtualBack hx (y := (⟨"java/lang/String", "charAt", "(I)C"⟩ : MethodName)) (z := (⟨"java/lang/String", "charAt", "(I)C"⟩ : MethodName)) hown (mvT hZ (hw _ (List.mem_of_getElem? (i := 65) rfl))) (mvT hZ (hw _ (List.mem_of_getElem? (i := 66) rfl))) (notFace_of_selects (args := #[]) (mvT hZ (hw _ (List.mem_of_getElem? (i := 68) rfl)))) (mvT hZ (hw _ (List.mem_of_getElem? (i := 68) rfl))) (mvT hZ (hw _ (List.mem_of_getElem? (i := 67) rfl))) (by decide) (backOf (W := 2) (rm_chS l Z a0 hw [] a9 ((((lo.toUInt64 >>> ((((25 : Int32) - i) * (5 : Int32)) &&& 0x3f).toInt64.toUInt64).toInt64).toInt32) &&& (31 : Int32)) b9 LST cs fo h n0 Zh fc6 fc8 fc7 fc9 fc3 fc4 hcs hfo (own_31 (own_m31 _)).1 (own_31 (own_m31 _)).2.1 (own_31 (own_m31 _)).2.2) hZ (hw _ (List.mem_of_getElem? (i := 69) rfl)) (hw _ (List.mem_of_getElem? (i := 58) rfl)) (by decide) (by decide)) q53a q53c (g := (mkF m 87 #[.val (.ref a), .val (.ref b1), .val (.int i), .val (.int (((25 : Int32) - i) * (5 : Int32))), .val (.long ((lo.toUInt64 >>> ((((25 : Int32) - i) * (5 : Int32)) &&& 0x3f).toInt64.toUInt64).toInt64)), .second] [(.int ((((lo.toUInt64 >>> ((((25 : Int32) - i) * (5 : Int32)) &&& 0x3f).toInt64.toUInt64).toInt64).toInt32) &&& (31 : Int32))), (.ref a9), (.int i), (.ref b1)])) rfl (by rw [hml]; rfl) (Steps.refl _) (argsL := [(.int ((((lo.toUInt64 >>> ((((25 : Int32) - i) * (5 : Int32)) &&& 0x3f).toInt64.toUInt64).toInt64).toInt32) &&& (31 : Int32)))]) (rest := [(.int i), (.ref b1)]) (lenOf pd_11 rfl) rfl (by show 2 * 0 + _ ≤ _; exact Nat.le_of_eq rfl) (hb hby d11_87) (fun _ _ => ⟨rfl, e51, (Nat.le_trans (Nat.add_le_add_right hcl 0) (by decide)), (Nat.le_trans (Nat.add_le_add_right hsl 0) (by decide))⟩)
          dsimp only [Pt.U, Pt.locs, Pt.cells, Pt.slots] at X53 l53 y53 z53 st53 hQ53
          subst l53 y53 z53
          obtain ⟨r_53, rfl, N53q, e53, ph53_0⟩ := hQ53
          have N53 := Fr.app N N53q
          have ix54 : 0 ≤ (i).toInt ∧ (i).toInt < (((own_wp hi lo cs fo k_)).length : Int) := own_wpi hki hc31
          obtain ⟨T55, h55, X55, e55, W55, V55, st55⟩ := putC X53 hx hZ e53 fc5 ix54.1 ix54.2 (g := (mkF m 90 #[.val (.ref a), .val (.ref b1), .val (.int i), .val (.int (((25 : Int32) - i) * (5 : Int32))), .val (.long ((lo.toUInt64 >>> ((((25 : Int32) - i) * (5 : Int32)) &&& 0x3f).toInt64.toUInt64).toInt64)), .second] [(.int r_53), (.int i), (.ref b1)])) rfl rfl (hb hby d11_90)
          have G56 : Exa Z h55 a "com/example/lane4/lane4/model/JobId" := fc0.wr W55
          have G57 : Fld Z h55 a "com/example/lane4/lane4/model/JobId" "high" "J" (.long hi) := fc1.other W55 (Or.inl ne_a_b1)
          have G58 : Fld Z h55 a "com/example/lane4/lane4/model/JobId" "low" "J" (.long lo) := fc2.other W55 (Or.inl ne_a_b1)
          have G59 : Sta Z h55 "java/lang/String" "COMPACT_STRINGS" "Z" (.int cs) := fc3.wr W55
          have G60 : Sta Z h55 "jdk/internal/util/Preconditions" "SIOOBE_FORMATTER" "Ljava/util/function/BiFunction;" fo := fc4.wr W55
          have G61 : VA Z h55 b1 .char (((own_wp hi lo cs fo k_).set i.toNatClampNeg (nar .char r_53)).map Value.int) := V55
          have G62 : Exa Z h55 a9 "java/lang/String" := fc6.wr W55
          have G63 : Fld Z h55 a9 "java/lang/String" "coder" "B" (.int (0 : Int32)) := fc7.other W55 (Or.inl (Ne.symm ne9_b1.1))
          have G64 : Fld Z h55 a9 "java/lang/String" "value" "[B" (.ref b9) := fc8.other W55 (Or.inl (Ne.symm ne9_b1.1))
          have G65 : VA Z h55 b9 .byte (LST.map Value.int) := fc9.other W55 (Ne.symm ne9_b1.2)
          have CR55 := CHr.wr W55 (own_safeV hZ.alike fc5 (by decide)) HC.1
          have HC55 := HC.trans CR55
          have hk55 := Nat.le_trans hkL CR55.2.1
          have N55 := Fr.snoc X55 N53 g_b1
          have K55 : Keep h0 h55 [] := Keep.wr K W55 (Or.inr sz_b1)
          have Z55 : n0 ≤ h55.size := Nat.le_trans Z0 K55.1
          refine GoC.step (T' := T55) (f' := (mkF m 7 #[.val (.ref a), .val (.ref b1), .val (.int (i + (1 : Int32))), .val (.int (((25 : Int32) - i) * (5 : Int32))), .val (.long ((lo.toUInt64 >>> ((((25 : Int32) - i) * (5 : Int32)) &&& 0x3f).toInt64.toUInt64).toInt64)), .second] [])) (fun t kt => ?_) ?_
          · show Steps p.tables e below (T.setTop (mkF m 48 #[.val (.ref a), .val (.ref b1), .val (.int i), .val (.int (((25 : Int32) - i) * (5 : Int32))), .val (.long x4), .second] [])) _
            refine XS.aloadN X.here hx rfl (hb hby d11_48) rfl rfl ?_
            show Steps p.tables e below (T.setTop (mkF m 49 #[.val (.ref a), .val (.ref b1), .val (.int i), .val (.int (((25 : Int32) - i) * (5 : Int32))), .val (.long x4), .second] [(.ref a)])) _
            refine st51 _ ?_
            show Steps p.tables e below (T51.setTop (mkF m 52 #[.val (.ref a), .val (.ref b1), .val (.int i), .val (.int (((25 : Int32) - i) * (5 : Int32))), .val (.long x4), .second] [(.long lo)])) _
            refine XS.iloadN X51.here hx rfl (hb hby d11_52) rfl ?_
            show Steps p.tables e below (T51.setTop (mkF m 53 #[.val (.ref a), .val (.ref b1), .val (.int i), .val (.int (((25 : Int32) - i) * (5 : Int32))), .val (.long x4), .second] [(.int (((25 : Int32) - i) * (5 : Int32))), (.long lo)])) _
            refine XS.lushr X51.here hx rfl (hb hby d11_53) rfl ?_
            show Steps p.tables e below (T51.setTop (mkF m 54 #[.val (.ref a), .val (.ref b1), .val (.int i), .val (.int (((25 : Int32) - i) * (5 : Int32))), .val (.long x4), .second] [(.long ((lo.toUInt64 >>> ((((25 : Int32) - i) * (5 : Int32)) &&& 0x3f).toInt64.toUInt64).toInt64))])) _
            refine XS.lstore X51.here hx rfl (hb hby d11_54) rfl (l' := #[.val (.ref a), .val (.ref b1), .val (.int i), .val (.int (((25 : Int32) - i) * (5 : Int32))), .val (.long ((lo.toUInt64 >>> ((((25 : Int32) - i) * (5 : Int32)) &&& 0x3f).toInt64.toUInt64).toInt64)), .second]) rfl ?_
            show Steps p.tables e below (T51.setTop (mkF m 56 #[.val (.ref a), .val (.ref b1), .val (.int i), .val (.int (((25 : Int32) - i) * (5 : Int32))), .val (.long ((lo.toUInt64 >>> ((((25 : Int32) - i) * (5 : Int32)) &&& 0x3f).toInt64.toUInt64).toInt64)), .second] [])) _
            refine XS.goto X51.here hx rfl (pc0 := 56) (pc' := 77) rfl (hb hby d11_56) (by decide) (by decide) ?_
            show Steps p.tables e below (T51.setTop (mkF m 77 #[.val (.ref a), .val (.ref b1), .val (.int i), .val (.int (((25 : Int32) - i) * (5 : Int32))), .val (.long ((lo.toUInt64 >>> ((((25 : Int32) - i) * (5 : Int32)) &&& 0x3f).toInt64.toUInt64).toInt64)), .second] [])) _
            refine XS.aloadN X51.here hx rfl (hb hby d11_77) rfl rfl ?_
            show Steps p.tables e below (T51.setTop (mkF m 78 #[.val (.ref a), .val (.ref b1), .val (.int i), .val (.int (((25 : Int32) - i) * (5 : Int32))), .val (.long ((lo.toUInt64 >>> ((((25 : Int32) - i) * (5 : Int32)) &&& 0x3f).toInt64.toUInt64).toInt64)), .second] [(.ref b1)])) _
            refine XS.iloadN X51.here hx rfl (hb hby d11_78) rfl ?_
            show Steps p.tables e below (T51.setTop (mkF m 79 #[.val (.ref a), .val (.ref b1), .val (.int i), .val (.int (((25 : Int32) - i) * (5 : Int32))), .val (.long ((lo.toUInt64 >>> ((((25 : Int32) - i) * (5 : Int32)) &&& 0x3f).toInt64.toUInt64).toInt64)), .second] [(.int i), (.ref b1)])) _
            refine ldcAgain (s := s) X51 hx hZ hown (hw _ (List.mem_of_getElem? (i := 57) rfl)) Lt9 (g := (mkF m 79 #[.val (.ref a), .val (.ref b1), .val (.int i), .val (.int (((25 : Int32) - i) * (5 : Int32))), .val (.long ((lo.toUInt64 >>> ((((25 : Int32) - i) * (5 : Int32)) &&& 0x3f).toInt64.toUInt64).toInt64)), .second] [(.int i), (.ref b1)])) rfl (hb hby d11_79) _ ?_
            show Steps p.tables e below (T51.setTop (mkF m 81 #[.val (.ref a), .val (.ref b1), .val (.int i), .val (.int (((25 : Int32) - i) * (5 : Int32))), .val (.long ((lo.toUInt64 >>> ((((25 : Int32) - i) * (5 : Int32)) &&& 0x3f).toInt64.toUInt64).toInt64)), .second] [(.ref a9), (.int i), (.ref b1)])) _
            refine XS.lload X51.here hx rfl (hb hby d11_81) rfl ?_
            show Steps p.tables e below (T51.setTop (mkF m 83 #[.val (.ref a), .val (.ref b1), .val (.int i), .val (.int (((25 : Int32) - i) * (5 : Int32))), .val (.long ((lo.toUInt64 >>> ((((25 : Int32) - i) * (5 : Int32)) &&& 0x3f).toInt64.toUInt64).toInt64)), .second] [(.long ((lo.toUInt64 >>> ((((25 : Int32) - i) * (5 : Int32)) &&& 0x3f).toInt64.toUInt64).toInt64)), (.ref a9), (.int i), (.ref b1)])) _
            refine XS.l2i X51.here hx rfl (hb hby d11_83) rfl ?_
            show Steps p.tables e below (T51.setTop (mkF m 84 #[.val (.ref a), .val (.ref b1), .val (.int i), .val (.int (((25 : Int32) - i) * (5 : Int32))), .val (.long ((lo.toUInt64 >>> ((((25 : Int32) - i) * (5 : Int32)) &&& 0x3f).toInt64.toUInt64).toInt64)), .second] [(.int (((lo.toUInt64 >>> ((((25 : Int32) - i) * (5 : Int32)) &&& 0x3f).toInt64.toUInt64).toInt64).toInt32)), (.ref a9), (.int i), (.ref b1)])) _
            refine XS.bipush X51.here hx rfl (hb hby d11_84) ?_
            show Steps p.tables e below (T51.setTop (mkF m 86 #[.val (.ref a), .val (.ref b1), .val (.int i), .val (.int (((25 : Int32) - i) * (5 : Int32))), .val (.long ((lo.toUInt64 >>> ((((25 : Int32) - i) * (5 : Int32)) &&& 0x3f).toInt64.toUInt64).toInt64)), .second] [(.int (31 : Int32)), (.int (((lo.toUInt64 >>> ((((25 : Int32) - i) * (5 : Int32)) &&& 0x3f).toInt64.toUInt64).toInt64).toInt32)), (.ref a9), (.int i), (.ref b1)])) _
            refine XS.iand X51.here hx rfl (hb hby d11_86) rfl ?_
            show Steps p.tables e below (T51.setTop (mkF m 87 #[.val (.ref a), .val (.ref b1), .val (.int i), .val (.int (((25 : Int32) - i) * (5 : Int32))), .val (.long ((lo.toUInt64 >>> ((((25 : Int32) - i) * (5 : Int32)) &&& 0x3f).toInt64.toUInt64).toInt64)), .second] [(.int ((((lo.toUInt64 >>> ((((25 : Int32) - i) * (5 : Int32)) &&& 0x3f).toInt64.toUInt64).toInt64).toInt32) &&& (31 : Int32))), (.ref a9), (.int i), (.ref b1)])) _
            refine st53.trans ?_
            show Steps p.tables e below (T53.setTop (mkF m 90 #[.val (.ref a), .val (.ref b1), .val (.int i), .val (.int (((25 : Int32) - i) * (5 : Int32))), .val (.long ((lo.toUInt64 >>> ((((25 : Int32) - i) * (5 : Int32)) &&& 0x3f).toInt64.toUInt64).toInt64)), .second] [(.int r_53), (.int i), (.ref b1)])) _
            refine st55 _ ?_
            show Steps p.tables e below (T55.setTop (mkF m 91 #[.val (.ref a), .val (.ref b1), .val (.int i), .val (.int (((25 : Int32) - i) * (5 : Int32))), .val (.long ((lo.toUInt64 >>> ((((25 : Int32) - i) * (5 : Int32)) &&& 0x3f).toInt64.toUInt64).toInt64)), .second] [])) _
            refine XS.iinc X55.here hx rfl (hb hby d11_91) rfl (l' := #[.val (.ref a), .val (.ref b1), .val (.int (i + (1 : Int32))), .val (.int (((25 : Int32) - i) * (5 : Int32))), .val (.long ((lo.toUInt64 >>> ((((25 : Int32) - i) * (5 : Int32)) &&& 0x3f).toInt64.toUInt64).toInt64)), .second]) rfl ?_
            show Steps p.tables e below (T55.setTop (mkF m 94 #[.val (.ref a), .val (.ref b1), .val (.int (i + (1 : Int32))), .val (.int (((25 : Int32) - i) * (5 : Int32))), .val (.long ((lo.toUInt64 >>> ((((25 : Int32) - i) * (5 : Int32)) &&& 0x3f).toInt64.toUInt64).toInt64)), .second] [])) _
            refine XS.goto X55.here hx rfl (pc0 := 94) (pc' := 7) rfl (hb hby d11_94) (by decide) (by decide) ?_
            exact kt
          have hwS : ((own_wp hi lo cs fo k_).set i.toNatClampNeg (nar .char r_53)) = (own_wp hi lo cs fo (k_ + 1)) := own_wpS (k := k_) (i := i) (x := ((lo.toUInt64 >>> ((((25 : Int32) - i) * (5 : Int32)) &&& 0x3f).toInt64.toUInt64).toInt64)) hki hc31 ph53_0 (own_wb2 hc32 hc33)
          have G66 : VA Z h55 b1 .char ((own_wp hi lo cs fo (k_ + 1)).map Value.int) := by rw [← hwS]; exact G61
          have hkl_ := own_klt hki hc31
          exact IH (26 - (k_ + 1)) (by omega) (k_ + 1) _ _ _ _ X55 (Nat.le_trans (Nat.add_le_add_right hcl 0) (by decide)) (Nat.le_trans (Nat.add_le_add_right hsl 0) (by decide)) h55 e55 N55 (i + (1 : Int32)) (((25 : Int32) - i) * (5 : Int32)) ((lo.toUInt64 >>> ((((25 : Int32) - i) * (5 : Int32)) &&& 0x3f).toInt64.toUInt64).toInt64) K55 HC55 hk55 G56 G57 G58 G59 G60 G66 G62 G63 G64 G65 (own_k1 hki hc31) (by omega) rfl
      · have _ := hc32
        refine GoC.step (T' := T) (f' := (mkF m 26 #[.val (.ref a), .val (.ref b1), .val (.int i), .val (.int (((25 : Int32) - i) * (5 : Int32))), .val (.long x4), .second] [])) (fun t kt => ?_) ?_
        · show Steps p.tables e below (T.setTop (mkF m 23 #[.val (.ref a), .val (.ref b1), .val (.int i), .val (.int (((25 : Int32) - i) * (5 : Int32))), .val (.long x4), .second] [(.int (64 : Int32)), (.int (((25 : Int32) - i) * (5 : Int32)))])) _
          refine XS.icmpNo X.here hx rfl (hb hby d11_23) rfl (flt hc32).1 ?_
          exact kt
        obtain ⟨T67, X67, e67, st67⟩ := getF X hx hZ hown (host := "") (Or.inl (hw _ (List.mem_of_getElem? (i := 14) rfl))) Via.refl eT fc1 (g := (mkF m 27 #[.val (.ref a), .val (.ref b1), .val (.int i), .val (.int (((25 : Int32) - i) * (5 : Int32))), .val (.long x4), .second] [(.ref a)])) rfl rfl (hb hby d11_27)
        obtain ⟨cq69, kq69, q69a, q69b, q69c⟩ := isOf hZ e67 (fc6 : Exa Z h a9 "java/lang/String")
        obtain ⟨_, _, ⟨T69, L69, k69, n69⟩, -, X69, ⟨Lc69, hQ69, l69, y69, z69⟩, st69⟩ := X67.virtualBack hx (y := (⟨"java/lang/String", "charAt", "(I)C"⟩ : MethodName)) (z := (⟨"java/lang/String", "charAt", "(I)C"⟩ : MethodName)) hown (mvT hZ (hw _ (List.mem_of_getElem? (i := 65) rfl))) (mvT hZ (hw _ (List.mem_of_getElem? (i := 66) rfl))) (notFace_of_selects (args := #[]) (mvT hZ (hw _ (List.mem_of_getElem? (i := 68) rfl)))) (mvT hZ (hw _ (List.mem_of_getElem? (i := 68) rfl))) (mvT hZ (hw _ (List.mem_of_getElem? (i := 67) rfl))) (by decide) (backOf (W := 2) (rm_chS l Z a0 hw [] a9 ((((hi.toUInt64 >>> (((((25 : Int32) - i) * (5 : Int32)) - (64 : Int32)) &&& 0x3f).toInt64.toUInt64).toInt64).toInt32) &&& (31 : Int32)) b9 LST cs fo h n0 Zh fc6 fc8 fc7 fc9 fc3 fc4 hcs hfo (own_31 (own_m31 _)).1 (own_31 (own_m31 _)).2.1 (own_31 (own_m31 _)).2.2) hZ (hw _ (List.mem_of_getElem? (i := 69) rfl)) (hw _ (List.mem_of_getElem? (i := 58) rfl)) (by decide) (by decide)) q69a q69c (g := (mkF m 87 #[.val (.ref a), .val (.ref b1), .val (.int i), .val (.int (((25 : Int32) - i) * (5 : Int32))), .val (.long ((hi.toUInt64 >>> (((((25 : Int32) - i) * (5 : Int32)) - (64 : Int32)) &&& 0x3f).toInt64.toUInt64).toInt64)), .second] [(.int ((((hi.toUInt64 >>> (((((25 : Int32) - i) * (5 : Int32)) - (64 : Int32)) &&& 0x3f).toInt64.toUInt64).toInt64).toInt32) &&& (31 : Int32))), (.ref a9), (.int i), (.ref b1)])) rfl (by rw [hml]; rfl) (Steps.refl _) (argsL := [(.int ((((hi.toUInt64 >>> (((((25 : Int32) - i) * (5 : Int32)) - (64 : Int32)) &&& 0x3f).toInt64.toUInt64).toInt64).toInt32) &&& (31 : Int32)))]) (rest := [(.int i), (.ref b1)]) (lenOf pd_11 rfl) rfl (by show 2 * 0 + _ ≤ _; exact Nat.le_of_eq rfl) (hb hby d11_87) (fun _ _ => ⟨rfl, e67, (Nat.le_trans (Nat.add_le_add_right hcl 0) (by decide)), (Nat.le_trans (Nat.add_le_add_right hsl 0) (by decide))⟩)
        dsimp only [Pt.U, Pt.locs, Pt.cells, Pt.slots] at X69 l69 y69 z69 st69 hQ69
        subst l69 y69 z69
        obtain ⟨r_69, rfl, N69q, e69, ph69_0⟩ := hQ69
        have N69 := Fr.app N N69q
        have ix70 : 0 ≤ (i).toInt ∧ (i).toInt < (((own_wp hi lo cs fo k_)).length : Int) := own_wpi hki hc31
        obtain ⟨T71, h71, X71, e71, W71, V71, st71⟩ := putC X69 hx hZ e69 fc5 ix70.1 ix70.2 (g := (mkF m 90 #[.val (.ref a), .val (.ref b1), .val (.int i), .val (.int (((25 : Int32) - i) * (5 : Int32))), .val (.long ((hi.toUInt64 >>> (((((25 : Int32) - i) * (5 : Int32)) - (64 : Int32)) &&& 0x3f).toInt64.toUInt64).toInt64)), .second] [(.int r_69), (.int i), (.ref b1)])) rfl rfl (hb hby d11_90)
        have G72 : Exa Z h71 a "com/example/lane4/lane4/model/JobId" := fc0.wr W71
        have G73 : Fld Z h71 a "com/example/lane4/lane4/model/JobId" "high" "J" (.long hi) := fc1.other W71 (Or.inl ne_a_b1)
        have G74 : Fld Z h71 a "com/example/lane4/lane4/model/JobId" "low" "J" (.long lo) := fc2.other W71 (Or.inl ne_a_b1)
        have G75 : Sta Z h71 "java/lang/String" "COMPACT_STRINGS" "Z" (.int cs) := fc3.wr W71
        have G76 : Sta Z h71 "jdk/internal/util/Preconditions" "SIOOBE_FORMATTER" "Ljava/util/function/BiFunction;" fo := fc4.wr W71
        have G77 : VA Z h71 b1 .char (((own_wp hi lo cs fo k_).set i.toNatClampNeg (nar .char r_69)).map Value.int) := V71
        have G78 : Exa Z h71 a9 "java/lang/String" := fc6.wr W71
        have G79 : Fld Z h71 a9 "java/lang/String" "coder" "B" (.int (0 : Int32)) := fc7.other W71 (Or.inl (Ne.symm ne9_b1.1))
        have G80 : Fld Z h71 a9 "java/lang/String" "value" "[B" (.ref b9) := fc8.other W71 (Or.inl (Ne.symm ne9_b1.1))
        have G81 : VA Z h71 b9 .byte (LST.map Value.int) := fc9.other W71 (Ne.symm ne9_b1.2)
        have CR71 := CHr.wr W71 (own_safeV hZ.alike fc5 (by decide)) HC.1
        have HC71 := HC.trans CR71
        have hk71 := Nat.le_trans hkL CR71.2.1
        have N71 := Fr.snoc X71 N69 g_b1
        have K71 : Keep h0 h71 [] := Keep.wr K W71 (Or.inr sz_b1)
        have Z71 : n0 ≤ h71.size := Nat.le_trans Z0 K71.1
        refine GoC.step (T' := T71) (f' := (mkF m 7 #[.val (.ref a), .val (.ref b1), .val (.int (i + (1 : Int32))), .val (.int (((25 : Int32) - i) * (5 : Int32))), .val (.long ((hi.toUInt64 >>> (((((25 : Int32) - i) * (5 : Int32)) - (64 : Int32)) &&& 0x3f).toInt64.toUInt64).toInt64)), .second] [])) (fun t kt => ?_) ?_
        · show Steps p.tables e below (T.setTop (mkF m 26 #[.val (.ref a), .val (.ref b1), .val (.int i), .val (.int (((25 : Int32) - i) * (5 : Int32))), .val (.long x4), .second] [])) _
          refine XS.aloadN X.here hx rfl (hb hby d11_26) rfl rfl ?_
          show Steps p.tables e below (T.setTop (mkF m 27 #[.val (.ref a), .val (.ref b1), .val (.int i), .val (.int (((25 : Int32) - i) * (5 : Int32))), .val (.long x4), .second] [(.ref a)])) _
          refine st67 _ ?_
          show Steps p.tables e below (T67.setTop (mkF m 30 #[.val (.ref a), .val (.ref b1), .val (.int i), .val (.int (((25 : Int32) - i) * (5 : Int32))), .val (.long x4), .second] [(.long hi)])) _
          refine XS.iloadN X67.here hx rfl (hb hby d11_30) rfl ?_
          show Steps p.tables e below (T67.setTop (mkF m 31 #[.val (.ref a), .val (.ref b1), .val (.int i), .val (.int (((25 : Int32) - i) * (5 : Int32))), .val (.long x4), .second] [(.int (((25 : Int32) - i) * (5 : Int32))), (.long hi)])) _
          refine XS.bipush X67.here hx rfl (hb hby d11_31) ?_
          show Steps p.tables e below (T67.setTop (mkF m 33 #[.val (.ref a), .val (.ref b1), .val (.int i), .val (.int (((25 : Int32) - i) * (5 : Int32))), .val (.long x4), .second] [(.int (64 : Int32)), (.int (((25 : Int32) - i) * (5 : Int32))), (.long hi)])) _
          refine XS.isub X67.here hx rfl (hb hby d11_33) rfl ?_
          show Steps p.tables e below (T67.setTop (mkF m 34 #[.val (.ref a), .val (.ref b1), .val (.int i), .val (.int (((25 : Int32) - i) * (5 : Int32))), .val (.long x4), .second] [(.int ((((25 : Int32) - i) * (5 : Int32)) - (64 : Int32))), (.long hi)])) _
          refine XS.lushr X67.here hx rfl (hb hby d11_34) rfl ?_
          show Steps p.tables e below (T67.setTop (mkF m 35 #[.val (.ref a), .val (.ref b1), .val (.int i), .val (.int (((25 : Int32) - i) * (5 : Int32))), .val (.long x4), .second] [(.long ((hi.toUInt64 >>> (((((25 : Int32) - i) * (5 : Int32)) - (64 : Int32)) &&& 0x3f).toInt64.toUInt64).toInt64))])) _
          refine XS.lstore X67.here hx rfl (hb hby d11_35) rfl (l' := #[.val (.ref a), .val (.ref b1), .val (.int i), .val (.int (((25 : Int32) - i) * (5 : Int32))), .val (.long ((hi.toUInt64 >>> (((((25 : Int32) - i) * (5 : Int32)) - (64 : Int32)) &&& 0x3f).toInt64.toUInt64).toInt64)), .second]) rfl ?_
          show Steps p.tables e below (T67.setTop (mkF m 37 #[.val (.ref a), .val (.ref b1), .val (.int i), .val (.int (((25 : Int32) - i) * (5 : Int32))), .val (.long ((hi.toUInt64 >>> (((((25 : Int32) - i) * (5 : Int32)) - (64 : Int32)) &&& 0x3f).toInt64.toUInt64).toInt64)), .second] [])) _
          refine XS.goto X67.here hx rfl (pc0 := 37) (pc' := 77) rfl (hb hby d11_37) (by decide) (by decide) ?_
          show Steps p.tables e below (T67.setTop (mkF m 77 #[.val (.ref a), .val (.ref b1), .val (.int i), .val (.int (((25 : Int32) - i) * (5 : Int32))), .val (.long ((hi.toUInt64 >>> (((((25 : Int32) - i) * (5 : Int32)) - (64 : Int32)) &&& 0x3f).toInt64.toUInt64).toInt64)), .second] [])) _
          refine XS.aloadN X67.here hx rfl (hb hby d11_77) rfl rfl ?_
          show Steps p.tables e below (T67.setTop (mkF m 78 #[.val (.ref a), .val (.ref b1), .val (.int i), .val (.int (((25 : Int32) - i) * (5 : Int32))), .val (.long ((hi.toUInt64 >>> (((((25 : Int32) - i) * (5 : Int32)) - (64 : Int32)) &&& 0x3f).toInt64.toUInt64).toInt64)), .second] [(.ref b1)])) _
          refine XS.iloadN X67.here hx rfl (hb hby d11_78) rfl ?_
          show Steps p.tables e below (T67.setTop (mkF m 79 #[.val (.ref a), .val (.ref b1), .val (.int i), .val (.int (((25 : Int32) - i) * (5 : Int32))), .val (.long ((hi.toUInt64 >>> (((((25 : Int32) - i) * (5 : Int32)) - (64 : Int32)) &&& 0x3f).toInt64.toUInt64).toInt64)), .second] [(.int i), (.ref b1)])) _
          refine ldcAgain (s := s) X67 hx hZ hown (hw _ (List.mem_of_getElem? (i := 57) rfl)) Lt9 (g := (mkF m 79 #[.val (.ref a), .val (.ref b1), .val (.int i), .val (.int (((25 : Int32) - i) * (5 : Int32))), .val (.long ((hi.toUInt64 >>> (((((25 : Int32) - i) * (5 : Int32)) - (64 : Int32)) &&& 0x3f).toInt64.toUInt64).toInt64)), .second] [(.int i), (.ref b1)])) rfl (hb hby d11_79) _ ?_
          show Steps p.tables e below (T67.setTop (mkF m 81 #[.val (.ref a), .val (.ref b1), .val (.int i), .val (.int (((25 : Int32) - i) * (5 : Int32))), .val (.long ((hi.toUInt64 >>> (((((25 : Int32) - i) * (5 : Int32)) - (64 : Int32)) &&& 0x3f).toInt64.toUInt64).toInt64)), .second] [(.ref a9), (.int i), (.ref b1)])) _
          refine XS.lload X67.here hx rfl (hb hby d11_81) rfl ?_
          show Steps p.tables e below (T67.setTop (mkF m 83 #[.val (.ref a), .val (.ref b1), .val (.int i), .val (.int (((25 : Int32) - i) * (5 : Int32))), .val (.long ((hi.toUInt64 >>> (((((25 : Int32) - i) * (5 : Int32)) - (64 : Int32)) &&& 0x3f).toInt64.toUInt64).toInt64)), .second] [(.long ((hi.toUInt64 >>> (((((25 : Int32) - i) * (5 : Int32)) - (64 : Int32)) &&& 0x3f).toInt64.toUInt64).toInt64)), (.ref a9), (.int i), (.ref b1)])) _
          refine XS.l2i X67.here hx rfl (hb hby d11_83) rfl ?_
          show Steps p.tables e below (T67.setTop (mkF m 84 #[.val (.ref a), .val (.ref b1), .val (.int i), .val (.int (((25 : Int32) - i) * (5 : Int32))), .val (.long ((hi.toUInt64 >>> (((((25 : Int32) - i) * (5 : Int32)) - (64 : Int32)) &&& 0x3f).toInt64.toUInt64).toInt64)), .second] [(.int (((hi.toUInt64 >>> (((((25 : Int32) - i) * (5 : Int32)) - (64 : Int32)) &&& 0x3f).toInt64.toUInt64).toInt64).toInt32)), (.ref a9), (.int i), (.ref b1)])) _
          refine XS.bipush X67.here hx rfl (hb hby d11_84) ?_
          show Steps p.tables e below (T67.setTop (mkF m 86 #[.val (.ref a), .val (.ref b1), .val (.int i), .val (.int (((25 : Int32) - i) * (5 : Int32))), .val (.long ((hi.toUInt64 >>> (((((25 : Int32) - i) * (5 : Int32)) - (64 : Int32)) &&& 0x3f).toInt64.toUInt64).toInt64)), .second] [(.int (31 : Int32)), (.int (((hi.toUInt64 >>> (((((25 : Int32) - i) * (5 : Int32)) - (64 : Int32)) &&& 0x3f).toInt64.toUInt64).toInt64).toInt32)), (.ref a9), (.int i), (.ref b1)])) _
          refine XS.iand X67.here hx rfl (hb hby d11_86) rfl ?_
          show Steps p.tables e below (T67.setTop (mkF m 87 #[.val (.ref a), .val (.ref b1), .val (.int i), .val (.int (((25 : Int32) - i) * (5 : Int32))), .val (.long ((hi.toUInt64 >>> (((((25 : Int32) - i) * (5 : Int32)) - (64 : Int32)) &&& 0x3f).toInt64.toUInt64).toInt64)), .second] [(.int ((((hi.toUInt64 >>> (((((25 : Int32) - i) * (5 : Int32)) - (64 : Int32)) &&& 0x3f).toInt64.toUInt64).toInt64).toInt32) &&& (31 : Int32))), (.ref a9), (.int i), (.ref b1)])) _
          refine st69.trans ?_
          show Steps p.tables e below (T69.setTop (mkF m 90 #[.val (.ref a), .val (.ref b1), .val (.int i), .val (.int (((25 : Int32) - i) * (5 : Int32))), .val (.long ((hi.toUInt64 >>> (((((25 : Int32) - i) * (5 : Int32)) - (64 : Int32)) &&& 0x3f).toInt64.toUInt64).toInt64)), .second] [(.int r_69), (.int i), (.ref b1)])) _
          refine st71 _ ?_
          show Steps p.tables e below (T71.setTop (mkF m 91 #[.val (.ref a), .val (.ref b1), .val (.int i), .val (.int (((25 : Int32) - i) * (5 : Int32))), .val (.long ((hi.toUInt64 >>> (((((25 : Int32) - i) * (5 : Int32)) - (64 : Int32)) &&& 0x3f).toInt64.toUInt64).toInt64)), .second] [])) _
          refine XS.iinc X71.here hx rfl (hb hby d11_91) rfl (l' := #[.val (.ref a), .val (.ref b1), .val (.int (i + (1 : Int32))), .val (.int (((25 : Int32) - i) * (5 : Int32))), .val (.long ((hi.toUInt64 >>> (((((25 : Int32) - i) * (5 : Int32)) - (64 : Int32)) &&& 0x3f).toInt64.toUInt64).toInt64)), .second]) rfl ?_
          show Steps p.tables e below (T71.setTop (mkF m 94 #[.val (.ref a), .val (.ref b1), .val (.int (i + (1 : Int32))), .val (.int (((25 : Int32) - i) * (5 : Int32))), .val (.long ((hi.toUInt64 >>> (((((25 : Int32) - i) * (5 : Int32)) - (64 : Int32)) &&& 0x3f).toInt64.toUInt64).toInt64)), .second] [])) _
          refine XS.goto X71.here hx rfl (pc0 := 94) (pc' := 7) rfl (hb hby d11_94) (by decide) (by decide) ?_
          exact kt
        have hwS : ((own_wp hi lo cs fo k_).set i.toNatClampNeg (nar .char r_69)) = (own_wp hi lo cs fo (k_ + 1)) := own_wpS (k := k_) (i := i) (x := ((hi.toUInt64 >>> (((((25 : Int32) - i) * (5 : Int32)) - (64 : Int32)) &&& 0x3f).toInt64.toUInt64).toInt64)) hki hc31 ph69_0 (own_wb1 hc32)
        have G82 : VA Z h71 b1 .char ((own_wp hi lo cs fo (k_ + 1)).map Value.int) := by rw [← hwS]; exact G77
        have hkl_ := own_klt hki hc31
        exact IH (26 - (k_ + 1)) (by omega) (k_ + 1) _ _ _ _ X71 (Nat.le_trans (Nat.add_le_add_right hcl 0) (by decide)) (Nat.le_trans (Nat.add_le_add_right hsl 0) (by decide)) h71 e71 N71 (i + (1 : Int32)) (((25 : Int32) - i) * (5 : Int32)) ((hi.toUInt64 >>> (((((25 : Int32) - i) * (5 : Int32)) - (64 : Int32)) &&& 0x3f).toInt64.toUInt64).toInt64) K71 HC71 hk71 G72 G73 G74 G75 G76 G82 G78 G79 G80 G81 (own_k1 hki hc31) (by omega) rfl
    · have _ := hc31
      refine GoC.step (T' := T) (f' := (mkF m 97 #[.val (.ref a), .val (.ref b1), .val (.int i), .val (.int x3), .val (.long x4), .second] [])) (fun t kt => ?_) ?_
      · show Steps p.tables e below (T.setTop (mkF m 10 #[.val (.ref a), .val (.ref b1), .val (.int i), .val (.int x3), .val (.long x4), .second] [(.int (26 : Int32)), (.int i)])) _
        refine XS.icmpYes X.here hx rfl (pc0 := 10) (pc' := 97) rfl (hb hby d11_10) rfl (flt hc31).2.1 (by decide) (by decide) ?_
        exact kt
      obtain rfl : k_ = 26 := own_k26 hki hk26 hc31
      have G83 : VA Z h b1 .char ([(own_we hi lo cs fo (Int32.ofNat 0)), (own_we hi lo cs fo (Int32.ofNat 1)), (own_we hi lo cs fo (Int32.ofNat 2)), (own_we hi lo cs fo (Int32.ofNat 3)), (own_we hi lo cs fo (Int32.ofNat 4)), (own_we hi lo cs fo (Int32.ofNat 5)), (own_we hi lo cs fo (Int32.ofNat 6)), (own_we hi lo cs fo (Int32.ofNat 7)), (own_we hi lo cs fo (Int32.ofNat 8)), (own_we hi lo cs fo (Int32.ofNat 9)), (own_we hi lo cs fo (Int32.ofNat 10)), (own_we hi lo cs fo (Int32.ofNat 11)), (own_we hi lo cs fo (Int32.ofNat 12)), (own_we hi lo cs fo (Int32.ofNat 13)), (own_we hi lo cs fo (Int32.ofNat 14)), (own_we hi lo cs fo (Int32.ofNat 15)), (own_we hi lo cs fo (Int32.ofNat 16)), (own_we hi lo cs fo (Int32.ofNat 17)), (own_we hi lo cs fo (Int32.ofNat 18)), (own_we hi lo cs fo (Int32.ofNat 19)), (own_we hi lo cs fo (Int32.ofNat 20)), (own_we hi lo cs fo (Int32.ofNat 21)), (own_we hi lo cs fo (Int32.ofNat 22)), (own_we hi lo cs fo (Int32.ofNat 23)), (own_we hi lo cs fo (Int32.ofNat 24)), (own_we hi lo cs fo (Int32.ofNat 25))].map Value.int) := by rw [← own_wp26]; exact fc5
      obtain ⟨T84, h84, X84, e84, E84, A84, D84, -, st84⟩ := newO X hx hZ hown (hw _ (List.mem_of_getElem? (i := 90) rfl)) (hw _ (List.mem_of_getElem? (i := 59) rfl)) (hw _ (List.mem_of_getElem? (i := 58) rfl)) eT (g := (mkF m 97 #[.val (.ref a), .val (.ref b1), .val (.int i), .val (.int x3), .val (.long x4), .second] [])) rfl (hb hby d11_97) (Nat.le_trans (Nat.add_le_add_right hcl 1) (by decide)) (Nat.le_trans (Nat.add_le_add_right hsl 4) (by decide))
      obtain ⟨b84, g84⟩ : ∃ z, z = h.size := ⟨_, rfl⟩
      rw [← g84] at A84 D84 st84
      have ne_a_b84 : a ≠ b84 := Nat.ne_of_lt (Nat.lt_of_lt_of_le fc0.lt (Nat.le_of_eq g84.symm))
      have ne_b1_b84 : b1 ≠ b84 := Nat.ne_of_lt (Nat.lt_of_lt_of_le G83.lt (Nat.le_of_eq g84.symm))
      have ne_a9_b84 : a9 ≠ b84 := Nat.ne_of_lt (Nat.lt_of_lt_of_le fc6.lt (Nat.le_of_eq g84.symm))
      have ne_b9_b84 : b9 ≠ b84 := Nat.ne_of_lt (Nat.lt_of_lt_of_le fc9.lt (Nat.le_of_eq g84.symm))
      have G85 : Exa Z h84 a "com/example/lane4/lane4/model/JobId" := fc0.ext E84
      have G86 : Fld Z h84 a "com/example/lane4/lane4/model/JobId" "high" "J" (.long hi) := fc1.ext E84
      have G87 : Fld Z h84 a "com/example/lane4/lane4/model/JobId" "low" "J" (.long lo) := fc2.ext E84
      have G88 : Sta Z h84 "java/lang/String" "COMPACT_STRINGS" "Z" (.int cs) := fc3.ext E84
      have G89 : Sta Z h84 "jdk/internal/util/Preconditions" "SIOOBE_FORMATTER" "Ljava/util/function/BiFunction;" fo := fc4.ext E84
      have G90 : VA Z h84 b1 .char ([(own_we hi lo cs fo (Int32.ofNat 0)), (own_we hi lo cs fo (Int32.ofNat 1)), (own_we hi lo cs fo (Int32.ofNat 2)), (own_we hi lo cs fo (Int32.ofNat 3)), (own_we hi lo cs fo (Int32.ofNat 4)), (own_we hi lo cs fo (Int32.ofNat 5)), (own_we hi lo cs fo (Int32.ofNat 6)), (own_we hi lo cs fo (Int32.ofNat 7)), (own_we hi lo cs fo (Int32.ofNat 8)), (own_we hi lo cs fo (Int32.ofNat 9)), (own_we hi lo cs fo (Int32.ofNat 10)), (own_we hi lo cs fo (Int32.ofNat 11)), (own_we hi lo cs fo (Int32.ofNat 12)), (own_we hi lo cs fo (Int32.ofNat 13)), (own_we hi lo cs fo (Int32.ofNat 14)), (own_we hi lo cs fo (Int32.ofNat 15)), (own_we hi lo cs fo (Int32.ofNat 16)), (own_we hi lo cs fo (Int32.ofNat 17)), (own_we hi lo cs fo (Int32.ofNat 18)), (own_we hi lo cs fo (Int32.ofNat 19)), (own_we hi lo cs fo (Int32.ofNat 20)), (own_we hi lo cs fo (Int32.ofNat 21)), (own_we hi lo cs fo (Int32.ofNat 22)), (own_we hi lo cs fo (Int32.ofNat 23)), (own_we hi lo cs fo (Int32.ofNat 24)), (own_we hi lo cs fo (Int32.ofNat 25))].map Value.int) := G83.ext E84
      have G91 : Exa Z h84 a9 "java/lang/String" := fc6.ext E84
      have G92 : Fld Z h84 a9 "java/lang/String" "coder" "B" (.int (0 : Int32)) := fc7.ext E84
      have G93 : Fld Z h84 a9 "java/lang/String" "value" "[B" (.ref b9) := fc8.ext E84
      have G94 : VA Z h84 b9 .byte (LST.map Value.int) := fc9.ext E84
      have g_b84 : n0 ≤ b84 := Nat.le_trans Zh (Nat.le_of_eq g84.symm)
      have sz_b84 : h0.size ≤ b84 := Nat.le_trans K.1 (Nat.le_of_eq g84.symm)
      have K84 : Keep h0 h84 [] := Keep.ext K E84
      have Z84 : n0 ≤ h84.size := Nat.le_trans Z0 K84.1
      have sf84_b84 := Safe.ext E84 HC.1 (Safe.new (Nat.le_of_eq g84.symm))
      have HC84 := HC.trans (CHr.ext E84 HC.1)
      have hk84 := Nat.le_trans hkL E84.1
      have G95 : Fld Z h84 b84 "java/lang/String" "value" "[B" .null := D84 (Or.inr (hw _ (List.mem_of_getElem? (i := 61) rfl))) (ty := (.array .byte)) (by decide)
      have G96 : Fld Z h84 b84 "java/lang/String" "coder" "B" (.int (0 : Int32)) := D84 (Or.inr (hw _ (List.mem_of_getElem? (i := 62) rfl))) (ty := .byte) (by decide)
      obtain ⟨_, _, ⟨T97, L97, k97, n97⟩, -, X97, ⟨Lc97, hQ97, l97, y97, z97⟩, st97⟩ := X84.specialBack hx (y := (⟨"java/lang/String", "<init>", "([C)V"⟩ : MethodName)) rfl hown (mvT hZ (hw _ (List.mem_of_getElem? (i := 91) rfl))) (mvT hZ (hw _ (List.mem_of_getElem? (i := 92) rfl))) (mvT hZ (hw _ (List.mem_of_getElem? (i := 93) rfl))) (by decide) (backOf (W := 1) (rm_in1 l Z a0 hw [] b84 b1 (own_we hi lo cs fo (Int32.ofNat 0)) (own_we hi lo cs fo (Int32.ofNat 1)) (own_we hi lo cs fo (Int32.ofNat 2)) (own_we hi lo cs fo (Int32.ofNat 3)) (own_we hi lo cs fo (Int32.ofNat 4)) (own_we hi lo cs fo (Int32.ofNat 5)) (own_we hi lo cs fo (Int32.ofNat 6)) (own_we hi lo cs fo (Int32.ofNat 7)) (own_we hi lo cs fo (Int32.ofNat 8)) (own_we hi lo cs fo (Int32.ofNat 9)) (own_we hi lo cs fo (Int32.ofNat 10)) (own_we hi lo cs fo (Int32.ofNat 11)) (own_we hi lo cs fo (Int32.ofNat 12)) (own_we hi lo cs fo (Int32.ofNat 13)) (own_we hi lo cs fo (Int32.ofNat 14)) (own_we hi lo cs fo (Int32.ofNat 15)) (own_we hi lo cs fo (Int32.ofNat 16)) (own_we hi lo cs fo (Int32.ofNat 17)) (own_we hi lo cs fo (Int32.ofNat 18)) (own_we hi lo cs fo (Int32.ofNat 19)) (own_we hi lo cs fo (Int32.ofNat 20)) (own_we hi lo cs fo (Int32.ofNat 21)) (own_we hi lo cs fo (Int32.ofNat 22)) (own_we hi lo cs fo (Int32.ofNat 23)) (own_we hi lo cs fo (Int32.ofNat 24)) (own_we hi lo cs fo (Int32.ofNat 25)) cs h84 n0 Z84 A84 G95 G96 G90 G88 g_b84 (Ne.symm ne_b1_b84) hcs own_hle) hZ (hw _ (List.mem_of_getElem? (i := 93) rfl)) (hw _ (List.mem_of_getElem? (i := 58) rfl)) (by decide) (by decide)) (g := (mkF m 102 #[.val (.ref a), .val (.ref b1), .val (.int i), .val (.int x3), .val (.long x4), .second] [(.ref b1), (.ref b84), (.ref b84)])) rfl (by rw [hml]; rfl) (Steps.refl _) (a := b84) (argsL := [(.ref b1)]) (rest := [(.ref b84)]) (lenOf pd_12 rfl) rfl (by show 2 * 0 + _ ≤ _; exact Nat.le_of_eq rfl) (hb hby d11_102) (fun _ _ => ⟨rfl, e84, (Nat.le_trans (Nat.add_le_add_right (Nat.add_le_add_right hcl 1) 1) (by decide)), (Nat.le_trans (Nat.add_le_add_right (Nat.add_le_add_right hsl 4) 26) (by decide))⟩)
      dsimp only [Pt.U, Pt.locs, Pt.cells, Pt.slots] at X97 l97 y97 z97 st97 hQ97
      subst l97 y97 z97
      obtain ⟨bb_97, rfl, N97q, Kq97, fz_bb_97, pf97_0, pf97_1, pf97_2⟩ := hQ97
      have oldlt_97_a : a < h84.size := G85.lt
      have oldlt_97_b1 : b1 < h84.size := G90.lt
      have oldlt_97_a9 : a9 < h84.size := G91.lt
      have oldlt_97_b9 : b9 < h84.size := G94.lt
      have oldlt_97_b84 : b84 < h84.size := A84.lt
      have G98 : Exa Z T97.heap a "com/example/lane4/lane4/model/JobId" := Exa.keep G85 Kq97
      have G99 : Fld Z T97.heap a "com/example/lane4/lane4/model/JobId" "high" "J" (.long hi) := G86.keep Kq97 (ninS ne_a_b84 nin0)
      have G100 : Fld Z T97.heap a "com/example/lane4/lane4/model/JobId" "low" "J" (.long lo) := G87.keep Kq97 (ninS ne_a_b84 nin0)
      have G101 : Sta Z T97.heap "java/lang/String" "COMPACT_STRINGS" "Z" (.int cs) := G88.keepE Kq97 A84
      have G102 : Sta Z T97.heap "jdk/internal/util/Preconditions" "SIOOBE_FORMATTER" "Ljava/util/function/BiFunction;" fo := G89.keepE Kq97 A84
      have G103 : VA Z T97.heap b1 .char ([(own_we hi lo cs fo (Int32.ofNat 0)), (own_we hi lo cs fo (Int32.ofNat 1)), (own_we hi lo cs fo (Int32.ofNat 2)), (own_we hi lo cs fo (Int32.ofNat 3)), (own_we hi lo cs fo (Int32.ofNat 4)), (own_we hi lo cs fo (Int32.ofNat 5)), (own_we hi lo cs fo (Int32.ofNat 6)), (own_we hi lo cs fo (Int32.ofNat 7)), (own_we hi lo cs fo (Int32.ofNat 8)), (own_we hi lo cs fo (Int32.ofNat 9)), (own_we hi lo cs fo (Int32.ofNat 10)), (own_we hi lo cs fo (Int32.ofNat 11)), (own_we hi lo cs fo (Int32.ofNat 12)), (own_we hi lo cs fo (Int32.ofNat 13)), (own_we hi lo cs fo (Int32.ofNat 14)), (own_we hi lo cs fo (Int32.ofNat 15)), (own_we hi lo cs fo (Int32.ofNat 16)), (own_we hi lo cs fo (Int32.ofNat 17)), (own_we hi lo cs fo (Int32.ofNat 18)), (own_we hi lo cs fo (Int32.ofNat 19)), (own_we hi lo cs fo (Int32.ofNat 20)), (own_we hi lo cs fo (Int32.ofNat 21)), (own_we hi lo cs fo (Int32.ofNat 22)), (own_we hi lo cs fo (Int32.ofNat 23)), (own_we hi lo cs fo (Int32.ofNat 24)), (own_we hi lo cs fo (Int32.ofNat 25))].map Value.int) := G90.keep Kq97 (ninS ne_b1_b84 nin0)
      have G104 : Exa Z T97.heap a9 "java/lang/String" := Exa.keep G91 Kq97
      have G105 : Fld Z T97.heap a9 "java/lang/String" "coder" "B" (.int (0 : Int32)) := G92.keep Kq97 (ninS ne_a9_b84 nin0)
      have G106 : Fld Z T97.heap a9 "java/lang/String" "value" "[B" (.ref b9) := G93.keep Kq97 (ninS ne_a9_b84 nin0)
      have G107 : VA Z T97.heap b9 .byte (LST.map Value.int) := G94.keep Kq97 (ninS ne_b9_b84 nin0)
      have G108 : Exa Z T97.heap b84 "java/lang/String" := Exa.keep A84 Kq97
      have ne_a_bb_97 : a ≠ bb_97 := Nat.ne_of_lt (Nat.lt_of_lt_of_le oldlt_97_a fz_bb_97)
      have ne_b1_bb_97 : b1 ≠ bb_97 := Nat.ne_of_lt (Nat.lt_of_lt_of_le oldlt_97_b1 fz_bb_97)
      have ne_a9_bb_97 : a9 ≠ bb_97 := Nat.ne_of_lt (Nat.lt_of_lt_of_le oldlt_97_a9 fz_bb_97)
      have ne_b9_bb_97 : b9 ≠ bb_97 := Nat.ne_of_lt (Nat.lt_of_lt_of_le oldlt_97_b9 fz_bb_97)
      have ne_b84_bb_97 : b84 ≠ bb_97 := Nat.ne_of_lt (Nat.lt_of_lt_of_le oldlt_97_b84 fz_bb_97)
      have g_bb_97 : n0 ≤ bb_97 := Nat.le_trans Z84 fz_bb_97
      have sz_bb_97 : h0.size ≤ bb_97 := Nat.le_trans K84.1 fz_bb_97
      have CR97 := CHr.keep Kq97 (allS sf84_b84 all0) HC84.1
      have HC97 := HC84.trans CR97
      have hk97 := Nat.le_trans hk84 CR97.2.1
      have K97 : Keep h0 T97.heap [] := Keep.trans K84 Kq97 (allS (Or.inr sz_b84) all0)
      have Z97 : n0 ≤ T97.heap.size := Nat.le_trans Z0 K97.1
      have N97 := Fr.app N N97q
      have G109 : VA Z T97.heap bb_97 .byte ((wrL hi lo cs fo).map Value.int) := pf97_2
      refine GoC.step (T' := T97) (f' := (mkF m 105 #[.val (.ref a), .val (.ref b1), .val (.int i), .val (.int x3), .val (.long x4), .second] [(.ref b84)])) (fun t kt => ?_) ?_
      · show Steps p.tables e below (T.setTop (mkF m 97 #[.val (.ref a), .val (.ref b1), .val (.int i), .val (.int x3), .val (.long x4), .second] [])) _
        refine st84 _ ?_
        show Steps p.tables e below (T84.setTop (mkF m 100 #[.val (.ref a), .val (.ref b1), .val (.int i), .val (.int x3), .val (.long x4), .second] [(.ref b84)])) _
        refine XS.dup X84.here hx rfl (hb hby d11_100) rfl rfl ?_
        show Steps p.tables e below (T84.setTop (mkF m 101 #[.val (.ref a), .val (.ref b1), .val (.int i), .val (.int x3), .val (.long x4), .second] [(.ref b84), (.ref b84)])) _
        refine XS.aloadN X84.here hx rfl (hb hby d11_101) rfl rfl ?_
        show Steps p.tables e below (T84.setTop (mkF m 102 #[.val (.ref a), .val (.ref b1), .val (.int i), .val (.int x3), .val (.long x4), .second] [(.ref b1), (.ref b84), (.ref b84)])) _
        refine st97.trans ?_
        exact kt
      refine GoC.fin X97 hZ hEL hS9 rfl hk97 HC97 (v := some (.ref b84)) (fun h => by rw [Bd.returns] at h; cases h) Bd.notSynchronized ?_ (Nat.le_trans (Nat.add_le_add_right (Nat.add_le_add_right hcl 1) 1) (by decide)) (Nat.le_trans (Nat.add_le_add_right (Nat.add_le_add_right hsl 4) 26) (by decide)) (fun fs hr => X97.areturnOut hx rfl Bd.returns rfl (hb hby d11_105) hr)
      · show QwriK Z a hi lo cs fo h0 n0 _ T97.heap _
        exact ⟨b84, bb_97, rfl, N97, K97, sz_b84, sz_bb_97, G108, pf97_0, pf97_1, G109⟩
  exact S7 _ 1 _ _ _ _ X19 (Nat.le_trans (Nat.add_le_add_right (Nat.add_le_add_right (Nat.add_le_add_right (Nat.le_refl 0) 1) 2) 0) (by decide)) (Nat.le_trans (Nat.add_le_add_right (Nat.add_le_add_right (Nat.add_le_add_right (Nat.le_refl 0) 26) 132) 0) (by decide)) h19 e19 N19 (1 : Int32) (125 : Int32) ((hi.toUInt64 >>> ((61 : Int32) &&& 0x3f).toInt64.toUInt64).toInt64) K19 HC19 hk19 G20 G21 G22 G23 G24 G30 G26 G27 G28 G29 rfl (by decide) rfl
theorem pd_13 : parseMethodDescriptor "()Ljava/lang/String;" = some ⟨[], some (.object "java/lang/String")⟩ := by decide +kernel
theorem d10_0 : decode prog_11_method_10_code 0 = .ok (.aload_n 0, 1) := by decide +kernel
theorem d10_1 : decode prog_11_method_10_code 1 = .ok (.getfield 69, 3) := by decide +kernel
theorem d10_4 : decode prog_11_method_10_code 4 = .ok (.astore_n 1, 1) := by decide +kernel
theorem d10_5 : decode prog_11_method_10_code 5 = .ok (.aload_n 1, 1) := by decide +kernel
theorem d10_6 : decode prog_11_method_10_code 6 = .ok (.ifnonnull 13, 3) := by decide +kernel
theorem d10_9 : decode prog_11_method_10_code 9 = .ok (.aload_n 0, 1) := by decide +kernel
theorem d10_10 : decode prog_11_method_10_code 10 = .ok (.invokevirtual 83, 3) := by decide +kernel
theorem d10_13 : decode prog_11_method_10_code 13 = .ok (.astore_n 1, 1) := by decide +kernel
theorem d10_14 : decode prog_11_method_10_code 14 = .ok (.aload_n 0, 1) := by decide +kernel
theorem d10_15 : decode prog_11_method_10_code 15 = .ok (.aload_n 1, 1) := by decide +kernel
theorem d10_16 : decode prog_11_method_10_code 16 = .ok (.putfield 69, 3) := by decide +kernel
theorem d10_19 : decode prog_11_method_10_code 19 = .ok (.aload_n 1, 1) := by decide +kernel
theorem d10_20 : decode prog_11_method_10_code 20 = .ok (.areturn, 1) := by decide +kernel
theorem ef_tosK (m : MethodId) (x0 : Addr) : entryFrame m #[(.ref x0)] 2 = mkF m 0 #[.val (.ref x0), .unset] [] := by first | (simp [entryFrame, mkF, argsToLocals, Value.category]; done) | rfl
def QtosK (Z : State) (a : Addr) (hi : Int64) (lo : Int64) (cs : Int32) (fo : Value) (h0 : Heap) (n0 : Nat) (v : Option Value) (h : Heap) (L : List Loc) : Prop := ∃ (sb : Addr), ∃ (bb : Addr), v = some (.ref sb) ∧ Fr n0 L ∧ Keep h0 h [a] ∧ h0.size ≤ sb ∧ h0.size ≤ bb ∧ Exa Z h sb "java/lang/String" ∧ Fld Z h sb "java/lang/String" "value" "[B" (.ref bb) ∧ Fld Z h sb "java/lang/String" "coder" "B" (.int (0 : Int32)) ∧ VA Z h bb .byte ((wrL hi lo cs fo).map Value.int) ∧ Fld Z h a "com/example/lane4/lane4/model/JobId" "high" "J" (.long hi) ∧ Fld Z h a "com/example/lane4/lane4/model/JobId" "low" "J" (.long lo)
set_option maxRecDepth 65536 in
set_option maxHeartbeats 40000000 in
theorem rm_tosK (l : Launch) (Z : State) (a0 : Array Value) (hw : ∀ d ∈ tables_1, d.before a0 Z = true) (ws : List Jvm.Cond) (a : Addr) (hi : Int64) (lo : Int64) (cs : Int32) (fo : Value) (h0 : Heap) (n0 : Nat) (Z0 : n0 ≤ h0.size) (F0 : Exa Z h0 a "com/example/lane4/lane4/model/JobId") (F1 : Fld Z h0 a "com/example/lane4/lane4/model/JobId" "high" "J" (.long hi)) (F2 : Fld Z h0 a "com/example/lane4/lane4/model/JobId" "low" "J" (.long lo)) (F3 : Fld Z h0 a "com/example/lane4/lane4/model/JobId" "text" "Ljava/lang/String;" .null) (F4 : Sta Z h0 "java/lang/String" "COMPACT_STRINGS" "Z" (.int cs)) (F5 : Sta Z h0 "jdk/internal/util/Preconditions" "SIOOBE_FORMATTER" "Ljava/util/function/BiFunction;" fo) (g_a : n0 ≤ a) (hcs : ¬ cs = (0 : Int32)) (hfo : fo.isRef = true) :
    MetFree l (⟨"com/example/lane4/lane4/model/JobId", "toString", "()Ljava/lang/String;"⟩ : MethodName) (head1 (Jvm.Cond.code (⟨"com/example/lane4/lane4/model/JobId", "toString", "()Ljava/lang/String;"⟩ : MethodName) prog_11_method_10_code 2 (some (.object "java/lang/String")) :: ws) ({ frames := 5, cells := 5, slots := 188, locals := 83 } : Room)) (fun A_ U => A_ = #[(.ref a)] ∧ Z.Warmed39 U.vm ∧ U.heap = h0 ∧ CHv Z consts_1 U.vm h0) (fun _ _ _ _ _ => True) (fun _ U o U' => ∃ v L, o = .returned v ∧ QtosK Z a hi lo cs fo h0 n0 v U'.heap L ∧ CHr Z consts_1 U.vm U.heap U'.vm U'.heap ∧ ReturnedEndW U o U' L ({ frames := 5, cells := 5, slots := 188, locals := 83 } : Room).cells ({ frames := 5, cells := 5, slots := 188, locals := 83 } : Room).slots) := by
  refine MetFree.of_bodySF (plainFor_of_name pn_4) hisR ?_
  intro p e s m args below meth c s₁ Bd hml0 hP hK
  obtain ⟨rfl, hZ, hh, hCH⟩ := hP
  have hx := Bd.exec
  have hby := Bd.bytes
  have hml : c.maxLocals = 2 := hml0
  have hown : s.vm.findClass "com/example/lane4/lane4/model/JobId" = some m.cls := findClass_of_methodNamed Bd.named
  have hnm := (name_of_methodNamed Bd.named Bd.method).1
  have X0 : Stand p l e ({ frames := 5, cells := 5, slots := 188, locals := 83 } : Room) (s.setVm s.vm) m #[(.ref a)] below meth c s₁ [] 0 0 := Stand.of_body Bd
  have e0 : s₁.heap = h0 := by rw [← hh, Bd.state]; rfl
  have N0 := Fr.nil n0
  have hZ : Z.Warmed39 (s.setVm s.vm).vm := hZ
  have hown : (s.setVm s.vm).vm.findClass "com/example/lane4/lane4/model/JobId" = some m.cls := hown
  have hEL : EW Z a0 consts_1 := own_EL hw
  have hS0 : s.Since s.vm h0.size := own_since
  have hk0 : h0.size ≤ h0.size := Nat.le_refl _
  have HC0 : CHr Z consts_1 s.vm s.heap s.vm h0 := by rw [hh]; exact CHr.refl hCH
  suffices HGO : GoC p e below s Z consts_1 (QtosK Z a hi lo cs fo h0 n0) ({ frames := 5, cells := 5, slots := 188, locals := 83 } : Room).cells ({ frames := 5, cells := 5, slots := 188, locals := 83 } : Room).slots s₁ (mkF m 0 #[.val (.ref a), .unset] []) from GoC.cast (ef_tosK m a) HGO
  obtain ⟨T1, X1, e1, st1⟩ := getF X0 hx hZ hown (host := "") (Or.inl (hw _ (List.mem_of_getElem? (i := 50) rfl))) Via.refl e0 F3 (g := (mkF m 1 #[.val (.ref a), .unset] [(.ref a)])) rfl rfl (hb hby d10_1)
  obtain ⟨cq2, q2, q2'⟩ := (F0 : Exa Z h0 a "com/example/lane4/lane4/model/JobId").cell
  obtain ⟨_, _, ⟨T2, L2, k2, n2⟩, -, X2, hT2, hg2, ⟨Lc2, hQ2, l2, y2, z2, hR2⟩, st2⟩ := privateBackS X1 hx (y := (⟨"com/example/lane4/lane4/model/JobId", "write", "()Ljava/lang/String;"⟩ : MethodName)) hown (mvT hZ (hw _ (List.mem_of_getElem? (i := 52) rfl))) (mvT hZ (hw _ (List.mem_of_getElem? (i := 53) rfl))) (own_psel (mvT hZ (hw _ (List.mem_of_getElem? (i := 7) rfl))) (Cond.privateMethod_at (mvP hZ (hw _ (List.mem_of_getElem? (i := 54) rfl)) (args := #[]))) (mvT hZ (hw _ (List.mem_of_getElem? (i := 53) rfl))) (by decide)) (Cond.privateMethod_at (mvP hZ (hw _ (List.mem_of_getElem? (i := 54) rfl)) (args := #[]))) (mvT hZ (hw _ (List.mem_of_getElem? (i := 55) rfl))) (by decide) (backOfSH (W := 0) (rm_wriK l Z a0 hw [] a hi lo cs fo h0 n0 Z0 F0 F1 F2 F4 F5 hcs hfo) hZ (hw _ (List.mem_of_getElem? (i := 55) rfl)) (hw _ (List.mem_of_getElem? (i := 4) rfl)) (by decide) (by decide) hEL HC0.1) (g := (mkF m 10 #[.val (.ref a), .val .null] [(.ref a)])) rfl (by rw [hml]; rfl) (Steps.refl _) (a := a) (by rw [e1]; exact q2) q2' (argsL := []) (rest := []) (lenOf pd_13 rfl) rfl (by show 2 * 0 + _ ≤ _; exact Nat.le_of_eq rfl) (hb hby d10_10) (fun _ _ => ⟨rfl, e1, (Nat.le_trans (Nat.add_le_add_right (Nat.le_refl 0) 5) (by decide)), (Nat.le_trans (Nat.add_le_add_right (Nat.le_refl 0) 188) (by decide))⟩)
  dsimp only [Pt.U, Pt.locs, Pt.cells, Pt.slots] at X2 l2 y2 z2 st2 hQ2 hT2 hg2 hR2
  subst l2 y2 z2
  obtain ⟨X2, hS2, hZ, hown⟩ := rebS hS0 (by rw [e1]; exact hk0 : _ ≤ T1.heap.size) X2 hT2 hg2 hZ hown
  have HC2 := HC0.trans hR2
  have hk2 : T2.heap.size ≤ T2.heap.size := Nat.le_refl _
  obtain ⟨sb_2, bb_2, rfl, N2q, Kq2, fz_sb_2, fz_bb_2, pf2_0, pf2_1, pf2_2, pf2_3⟩ := hQ2
  have oldlt_2_a : a < h0.size := F0.lt
  have G3 : Exa Z T2.heap a "com/example/lane4/lane4/model/JobId" := Exa.keep F0 Kq2
  have G4 : Fld Z T2.heap a "com/example/lane4/lane4/model/JobId" "high" "J" (.long hi) := F1.keep Kq2 nin0
  have G5 : Fld Z T2.heap a "com/example/lane4/lane4/model/JobId" "low" "J" (.long lo) := F2.keep Kq2 nin0
  have G6 : Fld Z T2.heap a "com/example/lane4/lane4/model/JobId" "text" "Ljava/lang/String;" .null := F3.keep Kq2 nin0
  have G7 : Sta Z T2.heap "java/lang/String" "COMPACT_STRINGS" "Z" (.int cs) := F4.keep0 Kq2
  have G8 : Sta Z T2.heap "jdk/internal/util/Preconditions" "SIOOBE_FORMATTER" "Ljava/util/function/BiFunction;" fo := F5.keep0 Kq2
  have ne_a_sb_2 : a ≠ sb_2 := Nat.ne_of_lt (Nat.lt_of_lt_of_le oldlt_2_a fz_sb_2)
  have g_sb_2 : n0 ≤ sb_2 := Nat.le_trans Z0 fz_sb_2
  have sz_sb_2 : h0.size ≤ sb_2 := Nat.le_trans (Keep.refl h0 [a]).1 fz_sb_2
  have ne_a_bb_2 : a ≠ bb_2 := Nat.ne_of_lt (Nat.lt_of_lt_of_le oldlt_2_a fz_bb_2)
  have g_bb_2 : n0 ≤ bb_2 := Nat.le_trans Z0 fz_bb_2
  have sz_bb_2 : h0.size ≤ bb_2 := Nat.le_trans (Keep.refl h0 [a]).1 fz_bb_2
  have K2 : Keep h0 T2.heap [a] := Keep.trans (Keep.refl h0 [a]) Kq2 all0
  have Z2 : n0 ≤ T2.heap.size := Nat.le_trans Z0 K2.1
  have N2 := Fr.app N0 N2q
  obtain ⟨T9, h9, X9, e9, W9, st9⟩ := putF X2 hx hZ hown (host := "") (Or.inl (hw _ (List.mem_of_getElem? (i := 50) rfl))) Via.refl rfl G6 G3 (Or.inl (hw _ (List.mem_of_getElem? (i := 51) rfl))) (hw _ (List.mem_of_getElem? (i := 7) rfl)) (ty := (.object "java/lang/String")) (by decide) rfl rfl (g := (mkF m 16 #[.val (.ref a), .val (.ref sb_2)] [(.ref sb_2), (.ref a)])) rfl rfl (hb hby d10_16)
  have G10 : Exa Z h9 a "com/example/lane4/lane4/model/JobId" := G3.wr W9
  have G11 : Fld Z h9 a "com/example/lane4/lane4/model/JobId" "high" "J" (.long hi) := G4.other W9 (Or.inr (slot_ne (Or.inr (hw _ (List.mem_of_getElem? (i := 15) rfl))) (Or.inl (hw _ (List.mem_of_getElem? (i := 51) rfl))) (by decide) (t := .long) (t' := (.object "java/lang/String")) (by decide) (by decide)))
  have G12 : Fld Z h9 a "com/example/lane4/lane4/model/JobId" "low" "J" (.long lo) := G5.other W9 (Or.inr (slot_ne (Or.inr (hw _ (List.mem_of_getElem? (i := 17) rfl))) (Or.inl (hw _ (List.mem_of_getElem? (i := 51) rfl))) (by decide) (t := .long) (t' := (.object "java/lang/String")) (by decide) (by decide)))
  have G13 : Fld Z h9 a "com/example/lane4/lane4/model/JobId" "text" "Ljava/lang/String;" (.ref sb_2) := G6.same W9
  have G14 : Sta Z h9 "java/lang/String" "COMPACT_STRINGS" "Z" (.int cs) := G7.wr W9
  have G15 : Sta Z h9 "jdk/internal/util/Preconditions" "SIOOBE_FORMATTER" "Ljava/util/function/BiFunction;" fo := G8.wr W9
  have G16 : Exa Z h9 sb_2 "java/lang/String" := pf2_0.wr W9
  have G17 : Fld Z h9 sb_2 "java/lang/String" "value" "[B" (.ref bb_2) := pf2_1.other W9 (Or.inl (Ne.symm ne_a_sb_2))
  have G18 : Fld Z h9 sb_2 "java/lang/String" "coder" "B" (.int (0 : Int32)) := pf2_2.other W9 (Or.inl (Ne.symm ne_a_sb_2))
  have G19 : VA Z h9 bb_2 .byte ((wrL hi lo cs fo).map Value.int) := pf2_3.other W9 (Ne.symm ne_a_bb_2)
  have CR9 := CHr.wr W9 (Safe.exa hZ.alike G3 (by decide) (by decide)) HC2.1
  have HC9 := HC2.trans CR9
  have hk9 := Nat.le_trans hk2 CR9.2.1
  have N9 := Fr.snoc X9 N2 g_a
  have K9 : Keep h0 h9 [a] := Keep.wr K2 W9 (Or.inl (List.mem_of_getElem? (i := 0) rfl))
  have Z9 : n0 ≤ h9.size := Nat.le_trans Z0 K9.1
  refine GoC.step (T' := T9) (f' := (mkF m 20 #[.val (.ref a), .val (.ref sb_2)] [(.ref sb_2)])) (fun t kt => ?_) ?_
  · show Steps p.tables e below (s₁.setTop (mkF m 0 #[.val (.ref a), .unset] [])) _
    refine XS.aloadN X0.here hx rfl (hb hby d10_0) rfl rfl ?_
    show Steps p.tables e below (s₁.setTop (mkF m 1 #[.val (.ref a), .unset] [(.ref a)])) _
    refine st1 _ ?_
    show Steps p.tables e below (T1.setTop (mkF m 4 #[.val (.ref a), .unset] [.null])) _
    refine XS.astoreN X1.here hx rfl (hb hby d10_4) rfl rfl (l' := #[.val (.ref a), .val .null]) rfl ?_
    show Steps p.tables e below (T1.setTop (mkF m 5 #[.val (.ref a), .val .null] [])) _
    refine XS.aloadN X1.here hx rfl (hb hby d10_5) rfl rfl ?_
    show Steps p.tables e below (T1.setTop (mkF m 6 #[.val (.ref a), .val .null] [.null])) _
    refine XS.ifnonnullNo X1.here hx rfl (hb hby d10_6) rfl ?_
    show Steps p.tables e below (T1.setTop (mkF m 9 #[.val (.ref a), .val .null] [])) _
    refine XS.aloadN X1.here hx rfl (hb hby d10_9) rfl rfl ?_
    show Steps p.tables e below (T1.setTop (mkF m 10 #[.val (.ref a), .val .null] [(.ref a)])) _
    refine st2.trans ?_
    show Steps p.tables e below (T2.setTop (mkF m 13 #[.val (.ref a), .val .null] [(.ref sb_2)])) _
    refine XS.astoreN X2.here hx rfl (hb hby d10_13) rfl rfl (l' := #[.val (.ref a), .val (.ref sb_2)]) rfl ?_
    show Steps p.tables e below (T2.setTop (mkF m 14 #[.val (.ref a), .val (.ref sb_2)] [])) _
    refine XS.aloadN X2.here hx rfl (hb hby d10_14) rfl rfl ?_
    show Steps p.tables e below (T2.setTop (mkF m 15 #[.val (.ref a), .val (.ref sb_2)] [(.ref a)])) _
    refine XS.aloadN X2.here hx rfl (hb hby d10_15) rfl rfl ?_
    show Steps p.tables e below (T2.setTop (mkF m 16 #[.val (.ref a), .val (.ref sb_2)] [(.ref sb_2), (.ref a)])) _
    refine st9 _ ?_
    show Steps p.tables e below (T9.setTop (mkF m 19 #[.val (.ref a), .val (.ref sb_2)] [])) _
    refine XS.aloadN X9.here hx rfl (hb hby d10_19) rfl rfl ?_
    exact kt
  refine GoC.fin X9 hZ hEL hS2 e9 hk9 HC9 (v := some (.ref sb_2)) (fun h => by rw [Bd.returns] at h; cases h) Bd.notSynchronized ?_ (Nat.le_trans (Nat.add_le_add_right (Nat.le_refl 0) 5) (by decide)) (Nat.le_trans (Nat.add_le_add_right (Nat.le_refl 0) 188) (by decide)) (fun fs hr => X9.areturnOut hx rfl Bd.returns rfl (hb hby d10_20) hr)
  · show QtosK Z a hi lo cs fo h0 n0 _ T9.heap _
    rw [e9]
    exact ⟨sb_2, bb_2, rfl, N9, K9, sz_sb_2, sz_bb_2, G16, G17, G18, G19, G11, G12⟩
theorem own_hi {t r : Int64} (h0 : 0 ≤ t.toInt ∧ t.toInt < 281474976710656) (h1 : 0 ≤ r.toInt ∧ r.toInt < 65536) : ((t <<< ((16 : Int32) &&& 0x3f).toInt64) ||| r).toInt % 18446744073709551616 = t.toInt * 65536 + r.toInt := by
  have a := c_lshl t 16 16 (by decide)
  have b := c_orL (t <<< ((16 : Int32) &&& 0x3f).toInt64) r 16 (by decide) 65536 (by decide) (by omega) h1.1 h1.2
  omega
theorem own_xm (a : Int64) : a ^^^ (-9223372036854775808 : Int64) = a + (-9223372036854775808 : Int64) := by
  apply Int64.toBitVec_inj.mp
  rw [Int64.toBitVec_xor, Int64.toBitVec_add]
  generalize a.toBitVec = x
  have e : (-9223372036854775808 : Int64).toBitVec = BitVec.ofNat 64 (2 ^ 63) := by decide
  rw [e]
  apply BitVec.eq_of_getLsbD_eq
  intro i hi
  have q : BitVec.carry i x (BitVec.ofNat 64 (2 ^ 63)) false = false := by
    unfold BitVec.carry
    have : (BitVec.ofNat 64 (2 ^ 63)).toNat % 2 ^ i = 0 := by
      have : (BitVec.ofNat 64 (2 ^ 63)).toNat = 2 ^ 63 := by decide
      rw [this]
      exact Nat.mod_eq_zero_of_dvd (Nat.pow_dvd_pow 2 (by omega))
    rw [this]
    have h := Nat.mod_lt x.toNat (Nat.two_pow_pos i)
    simp; omega
  rw [BitVec.getLsbD_xor, BitVec.getLsbD_add hi, q]
  simp
theorem own_ult (a b : Int64) : ultF a b = if a.toInt % 18446744073709551616 < b.toInt % 18446744073709551616 then 1 else 0 := by
  unfold ultF
  rw [own_xm, own_xm]
  have k : (-9223372036854775808 : Int64).toInt = -9223372036854775808 := by decide
  have a1 := c_ladd a (-9223372036854775808); have b1 := c_ladd b (-9223372036854775808)
  have ra := rng64 a; have rb := rng64 b; have ra1 := rng64 (a + (-9223372036854775808)); have rb1 := rng64 (b + (-9223372036854775808))
  rw [k] at a1 b1
  by_cases h : a + (-9223372036854775808 : Int64) < b + (-9223372036854775808 : Int64)
  · rw [if_pos h, if_pos]; rw [Int64.lt_iff_toInt_lt] at h; omega
  · rw [if_neg h, if_neg]; rw [Int64.lt_iff_toInt_lt] at h; omega
theorem own_cu (a b : Int64) : (a.toInt % 18446744073709551616 < b.toInt % 18446744073709551616 → cuF a b = -1) ∧ (a = b → cuF a b = 0) ∧ (b.toInt % 18446744073709551616 < a.toInt % 18446744073709551616 → cuF a b = 1) := by
  unfold cuF cmL
  have k : (-9223372036854775808 : Int64).toInt = -9223372036854775808 := by decide
  have a1 := c_ladd a (-9223372036854775808); have b1 := c_ladd b (-9223372036854775808)
  have ra := rng64 a; have rb := rng64 b; have ra1 := rng64 (a + (-9223372036854775808)); have rb1 := rng64 (b + (-9223372036854775808))
  rw [k] at a1 b1
  refine ⟨fun h => ?_, fun h => ?_, fun h => ?_⟩
  · rw [if_pos]; rw [Int64.lt_iff_toInt_lt]; omega
  · subst h; rw [if_neg (by rw [Int64.lt_iff_toInt_lt]; omega), if_pos rfl]
  · rw [if_neg (by rw [Int64.lt_iff_toInt_lt]; omega), if_neg]
    intro q; rw [q] at ra1 a1; omega
def own_EXP (h1 l1 h2 l2 : Int64) (z : Int32) : Prop := sigF (cmpF h1 l1 h2 l2) = z ∧ sigF (cmpF h2 l2 h1 l1) = -z ∧ eqF h1 l1 h2 l2 = (if z = 0 then 1 else 0)
theorem own_e1 {h1 l1 h2 l2 : Int64} (h : h1.toInt % 18446744073709551616 < h2.toInt % 18446744073709551616) : own_EXP h1 l1 h2 l2 (-1) ∧ own_EXP h2 l2 h1 l1 1 := by
  have a := (own_cu h1 h2).1 h
  have b := (own_cu h2 h1).2.2 h
  have n1 : ¬ h1 = h2 := fun q => by rw [q] at h; omega
  have n2 : ¬ h2 = h1 := fun q => n1 q.symm
  unfold own_EXP cmpF eqF
  rw [a, b, if_neg n1, if_neg n2, if_neg (by decide : ¬ (-1 : Int32) = 0), if_neg (by decide : ¬ (1 : Int32) = 0)]
  decide
theorem own_e2 {h1 l1 l2 : Int64} (h : l1.toInt % 18446744073709551616 < l2.toInt % 18446744073709551616) : own_EXP h1 l1 h1 l2 (-1) ∧ own_EXP h1 l2 h1 l1 1 := by
  have c0 := (own_cu h1 h1).2.1 rfl
  have a := (own_cu l1 l2).1 h
  have b := (own_cu l2 l1).2.2 h
  have n1 : ¬ l1 = l2 := fun q => by rw [q] at h; omega
  have n2 : ¬ l2 = l1 := fun q => n1 q.symm
  unfold own_EXP cmpF eqF
  rw [c0, a, b, if_neg n1, if_neg n2, if_pos (rfl : h1 = h1)]
  decide
theorem own_e3 {h1 l1 : Int64} : own_EXP h1 l1 h1 l1 0 := by
  have c0 := (own_cu h1 h1).2.1 rfl
  have c1 := (own_cu l1 l1).2.1 rfl
  unfold own_EXP cmpF eqF
  rw [c0, c1, if_pos (rfl : h1 = h1), if_pos (rfl : l1 = l1)]
  decide
theorem own_u {a b : Int64} (h : ¬ a = b) : a.toInt % 18446744073709551616 ≠ b.toInt % 18446744073709551616 := fun q => h (Int64.toInt_inj.mp (by have := rng64 a; have := rng64 b; omega))
theorem own_o1 {x11 x13 x15 x17 l1 l2 : Int64} (h11 : 0 ≤ x11.toInt ∧ x11.toInt < 281474976710656) (h13 : 0 ≤ x13.toInt ∧ x13.toInt < 65536) (h15 : 0 ≤ x15.toInt ∧ x15.toInt < 281474976710656) (h17 : 0 ≤ x17.toInt ∧ x17.toInt < 65536) (h : x11 < x15) : own_EXP ((x11 <<< ((16 : Int32) &&& 0x3f).toInt64) ||| x13) l1 ((x15 <<< ((16 : Int32) &&& 0x3f).toInt64) ||| x17) l2 (-1) := (own_e1 (by rw [own_hi h11 h13, own_hi h15 h17]; rw [Int64.lt_iff_toInt_lt] at h; omega)).1
theorem own_o2 {x11 x13 x15 x17 l1 l2 : Int64} (h11 : 0 ≤ x11.toInt ∧ x11.toInt < 281474976710656) (h13 : 0 ≤ x13.toInt ∧ x13.toInt < 65536) (h15 : 0 ≤ x15.toInt ∧ x15.toInt < 281474976710656) (h17 : 0 ≤ x17.toInt ∧ x17.toInt < 65536) (n : ¬ x11 = x15) (h : ¬ x11 < x15) : own_EXP ((x11 <<< ((16 : Int32) &&& 0x3f).toInt64) ||| x13) l1 ((x15 <<< ((16 : Int32) &&& 0x3f).toInt64) ||| x17) l2 1 := (own_e1 (by
  have : x11.toInt ≠ x15.toInt := fun q => n (Int64.toInt_inj.mp q)
  rw [own_hi h11 h13, own_hi h15 h17]; rw [Int64.lt_iff_toInt_lt] at h; omega)).2
theorem own_o3 {x11 x13 x15 x17 l1 l2 : Int64} (h11 : 0 ≤ x11.toInt ∧ x11.toInt < 281474976710656) (h13 : 0 ≤ x13.toInt ∧ x13.toInt < 65536) (h15 : 0 ≤ x15.toInt ∧ x15.toInt < 281474976710656) (h17 : 0 ≤ x17.toInt ∧ x17.toInt < 65536) (e : x11 = x15) (h : x13 < x17) : own_EXP ((x11 <<< ((16 : Int32) &&& 0x3f).toInt64) ||| x13) l1 ((x15 <<< ((16 : Int32) &&& 0x3f).toInt64) ||| x17) l2 (-1) := (own_e1 (by rw [own_hi h11 h13, own_hi h15 h17, e]; rw [Int64.lt_iff_toInt_lt] at h; omega)).1
theorem own_o4 {x11 x13 x15 x17 l1 l2 : Int64} (h11 : 0 ≤ x11.toInt ∧ x11.toInt < 281474976710656) (h13 : 0 ≤ x13.toInt ∧ x13.toInt < 65536) (h15 : 0 ≤ x15.toInt ∧ x15.toInt < 281474976710656) (h17 : 0 ≤ x17.toInt ∧ x17.toInt < 65536) (e : x11 = x15) (n : ¬ x13 = x17) (h : ¬ x13 < x17) : own_EXP ((x11 <<< ((16 : Int32) &&& 0x3f).toInt64) ||| x13) l1 ((x15 <<< ((16 : Int32) &&& 0x3f).toInt64) ||| x17) l2 1 := (own_e1 (by
  have : x13.toInt ≠ x17.toInt := fun q => n (Int64.toInt_inj.mp q)
  rw [own_hi h11 h13, own_hi h15 h17, e]; rw [Int64.lt_iff_toInt_lt] at h; omega)).2
theorem own_o5 {x11 x13 x15 x17 l1 l2 : Int64} (e : x11 = x15) (e2 : x13 = x17) (n : ¬ l1 = l2) (h : ultF l1 l2 = 0) : own_EXP ((x11 <<< ((16 : Int32) &&& 0x3f).toInt64) ||| x13) l1 ((x15 <<< ((16 : Int32) &&& 0x3f).toInt64) ||| x17) l2 1 := by
  subst e e2
  rw [own_ult] at h
  refine (own_e2 ?_).2
  have := own_u n
  rcases Int.lt_or_le (l1.toInt % 18446744073709551616) (l2.toInt % 18446744073709551616) with g | g
  · rw [if_pos g] at h; exact absurd h (by decide)
  · omega
theorem own_o6 {x11 x13 x15 x17 l1 l2 : Int64} (e : x11 = x15) (e2 : x13 = x17) (h : ¬ ultF l1 l2 = 0) : own_EXP ((x11 <<< ((16 : Int32) &&& 0x3f).toInt64) ||| x13) l1 ((x15 <<< ((16 : Int32) &&& 0x3f).toInt64) ||| x17) l2 (-1) := by
  subst e e2
  rw [own_ult] at h
  refine (own_e2 ?_).1
  rcases Int.lt_or_le (l1.toInt % 18446744073709551616) (l2.toInt % 18446744073709551616) with g | g
  · exact g
  · rw [if_neg (by omega)] at h; exact absurd rfl h
theorem own_o7 {x11 x13 x15 x17 l1 l2 : Int64} (e : x11 = x15) (e2 : x13 = x17) (e3 : l1 = l2) : own_EXP ((x11 <<< ((16 : Int32) &&& 0x3f).toInt64) ||| x13) l1 ((x15 <<< ((16 : Int32) &&& 0x3f).toInt64) ||| x17) l2 0 := by
  subst e e2 e3; exact own_e3
theorem own_b48 (x : Int64) : 0 ≤ (x &&& (281474976710655 : Int64)).toInt ∧ (x &&& (281474976710655 : Int64)).toInt < 281474976710656 := by
  have := c_maskL x 281474976710655 48 (by decide) (by decide)
  omega
theorem own_b16 (x : Int64) : 0 ≤ (x &&& (65535 : Int64)).toInt ∧ (x &&& (65535 : Int64)).toInt < 65536 := by
  have := c_maskL x 65535 16 (by decide) (by decide)
  omega
theorem own_s48 (x : Int64) : 0 ≤ ((x.toUInt64 >>> ((48 : Int32) &&& 0x3f).toInt64.toUInt64).toInt64).toInt ∧ ((x.toUInt64 >>> ((48 : Int32) &&& 0x3f).toInt64.toUInt64).toInt64).toInt < 65536 := by
  have := c_lushr x 48 48 (by decide) (by decide)
  omega
theorem own_cc {hi lo : Int64} {cs : Int32} {fo : Value} {i idx : Int32} {x : Int64} (he : (wrL hi lo cs fo).getD i.toNatClampNeg 0 = (nar .byte ((nar .char (chF idx LST cs fo)).toInt8.toInt32))) (hd : 0 ≤ idx.toInt ∧ idx.toInt ≤ 31) (hx : idx = ((x &&& (31 : Int64)).toInt32)) : chF i (wrL hi lo cs fo) cs fo = digF x cs fo := by
  obtain ⟨j, hj⟩ := own_fin (x := idx) (n := 32) hd.1 (by omega) (by decide)
  have key : ∀ j : Fin 32, nar .char (nar .char (((nar .byte ((nar .char (nar .char (nar .char (((LST.getD (Int32.ofNat j.val).toNatClampNeg (0 : Int32)) &&& (255 : Int32)).toUInt32.toUInt16.toUInt32.toInt32)))).toInt8.toInt32)) &&& (255 : Int32)).toUInt32.toUInt16.toUInt32.toInt32)) = nar .char (nar .char (nar .char (((LST.getD (Int32.ofNat j.val).toNatClampNeg (0 : Int32)) &&& (255 : Int32)).toUInt32.toUInt16.toUInt32.toInt32))) := by decide +kernel
  unfold digF
  rw [← hx, hj]
  show nar .char (nar .char ((((wrL hi lo cs fo).getD i.toNatClampNeg 0) &&& (255 : Int32)).toUInt32.toUInt16.toUInt32.toInt32)) = _
  rw [he, hj]
  exact key j
theorem own_w26 {hi lo : Int64} {cs : Int32} {fo : Value} {i : Int32} (h : 0 ≤ i.toInt ∧ i.toInt < 26) : ¬ i < (0 : Int32) ∧ i < (wrL hi lo cs fo).length.toInt32 ∧ 0 ≤ i.toInt ∧ i.toInt < ((wrL hi lo cs fo).length : Int) := by
  have k0 : (0 : Int32).toInt = 0 := rfl
  have k : ((wrL hi lo cs fo).length.toInt32).toInt = 26 := rfl
  have k' : ((wrL hi lo cs fo).length : Int) = 26 := rfl
  rw [Int32.lt_iff_toInt_lt, Int32.lt_iff_toInt_lt, k0, k, k']
  omega
theorem own_x0 {x11 x13 p3 : Int64} (h11 : 0 ≤ x11.toInt ∧ x11.toInt < 281474976710656) (h13 : 0 ≤ x13.toInt ∧ x13.toInt < 65536) : ((((((x11 <<< ((16 : Int32) &&& 0x3f).toInt64) ||| x13).toUInt64 >>> ((61 : Int32) &&& 0x3f).toInt64.toUInt64).toInt64).toInt32) &&& (31 : Int32)) = ((((x11.toUInt64 >>> ((45 : Int32) &&& 0x3f).toInt64.toUInt64).toInt64) &&& (31 : Int64)).toInt32) := by
  have r1 := c_mask (((((x11 <<< ((16 : Int32) &&& 0x3f).toInt64) ||| x13).toUInt64 >>> ((61 : Int32) &&& 0x3f).toInt64.toUInt64).toInt64).toInt32) 31 5 (by decide) (by decide)
  have r2 := c_l2i ((((x11 <<< ((16 : Int32) &&& 0x3f).toInt64) ||| x13).toUInt64 >>> ((61 : Int32) &&& 0x3f).toInt64.toUInt64).toInt64)
  have r3 := c_maskL ((x11.toUInt64 >>> ((45 : Int32) &&& 0x3f).toInt64.toUInt64).toInt64) 31 5 (by decide) (by decide)
  have r4 := c_l2i (((x11.toUInt64 >>> ((45 : Int32) &&& 0x3f).toInt64.toUInt64).toInt64) &&& (31 : Int64))
  have r5 := rng32 ((((x11.toUInt64 >>> ((45 : Int32) &&& 0x3f).toInt64.toUInt64).toInt64) &&& (31 : Int64)).toInt32)
  have H := own_hi h11 h13
  have s1 := c_lushr ((x11 <<< ((16 : Int32) &&& 0x3f).toInt64) ||| x13) 61 61 (by decide) (by decide)
  have s2 := c_lushr x11 45 45 (by decide) (by decide)
  apply Int32.toInt_inj.mp
  omega
theorem own_x9 {x11 x13 p3 : Int64} (h11 : 0 ≤ x11.toInt ∧ x11.toInt < 281474976710656) (h13 : 0 ≤ x13.toInt ∧ x13.toInt < 65536) : ((((((x11 <<< ((16 : Int32) &&& 0x3f).toInt64) ||| x13).toUInt64 >>> ((16 : Int32) &&& 0x3f).toInt64.toUInt64).toInt64).toInt32) &&& (31 : Int32)) = (((x11 &&& (31 : Int64)) &&& (31 : Int64)).toInt32) := by
  have r1 := c_mask (((((x11 <<< ((16 : Int32) &&& 0x3f).toInt64) ||| x13).toUInt64 >>> ((16 : Int32) &&& 0x3f).toInt64.toUInt64).toInt64).toInt32) 31 5 (by decide) (by decide)
  have r2 := c_l2i ((((x11 <<< ((16 : Int32) &&& 0x3f).toInt64) ||| x13).toUInt64 >>> ((16 : Int32) &&& 0x3f).toInt64.toUInt64).toInt64)
  have r3 := c_maskL (x11 &&& (31 : Int64)) 31 5 (by decide) (by decide)
  have r4 := c_l2i ((x11 &&& (31 : Int64)) &&& (31 : Int64))
  have r5 := rng32 (((x11 &&& (31 : Int64)) &&& (31 : Int64)).toInt32)
  have H := own_hi h11 h13
  have s1 := c_lushr ((x11 <<< ((16 : Int32) &&& 0x3f).toInt64) ||| x13) 16 16 (by decide) (by decide)
  have s2 := c_maskL x11 31 5 (by decide) (by decide)
  apply Int32.toInt_inj.mp
  omega
theorem own_x10 {x11 x13 p3 : Int64} (h11 : 0 ≤ x11.toInt ∧ x11.toInt < 281474976710656) (h13 : 0 ≤ x13.toInt ∧ x13.toInt < 65536) : ((((((x11 <<< ((16 : Int32) &&& 0x3f).toInt64) ||| x13).toUInt64 >>> ((11 : Int32) &&& 0x3f).toInt64.toUInt64).toInt64).toInt32) &&& (31 : Int32)) = ((((x13.toUInt64 >>> ((11 : Int32) &&& 0x3f).toInt64.toUInt64).toInt64) &&& (31 : Int64)).toInt32) := by
  have r1 := c_mask (((((x11 <<< ((16 : Int32) &&& 0x3f).toInt64) ||| x13).toUInt64 >>> ((11 : Int32) &&& 0x3f).toInt64.toUInt64).toInt64).toInt32) 31 5 (by decide) (by decide)
  have r2 := c_l2i ((((x11 <<< ((16 : Int32) &&& 0x3f).toInt64) ||| x13).toUInt64 >>> ((11 : Int32) &&& 0x3f).toInt64.toUInt64).toInt64)
  have r3 := c_maskL ((x13.toUInt64 >>> ((11 : Int32) &&& 0x3f).toInt64.toUInt64).toInt64) 31 5 (by decide) (by decide)
  have r4 := c_l2i (((x13.toUInt64 >>> ((11 : Int32) &&& 0x3f).toInt64.toUInt64).toInt64) &&& (31 : Int64))
  have r5 := rng32 ((((x13.toUInt64 >>> ((11 : Int32) &&& 0x3f).toInt64.toUInt64).toInt64) &&& (31 : Int64)).toInt32)
  have H := own_hi h11 h13
  have s1 := c_lushr ((x11 <<< ((16 : Int32) &&& 0x3f).toInt64) ||| x13) 11 11 (by decide) (by decide)
  have s2 := c_lushr x13 11 11 (by decide) (by decide)
  apply Int32.toInt_inj.mp
  omega
theorem own_x12 {x11 x13 p3 : Int64} (h11 : 0 ≤ x11.toInt ∧ x11.toInt < 281474976710656) (h13 : 0 ≤ x13.toInt ∧ x13.toInt < 65536) : ((((((x11 <<< ((16 : Int32) &&& 0x3f).toInt64) ||| x13).toUInt64 >>> ((1 : Int32) &&& 0x3f).toInt64.toUInt64).toInt64).toInt32) &&& (31 : Int32)) = (((((x13.toUInt64 >>> ((1 : Int32) &&& 0x3f).toInt64.toUInt64).toInt64) &&& (31 : Int64)) &&& (31 : Int64)).toInt32) := by
  have r1 := c_mask (((((x11 <<< ((16 : Int32) &&& 0x3f).toInt64) ||| x13).toUInt64 >>> ((1 : Int32) &&& 0x3f).toInt64.toUInt64).toInt64).toInt32) 31 5 (by decide) (by decide)
  have r2 := c_l2i ((((x11 <<< ((16 : Int32) &&& 0x3f).toInt64) ||| x13).toUInt64 >>> ((1 : Int32) &&& 0x3f).toInt64.toUInt64).toInt64)
  have r3 := c_maskL (((x13.toUInt64 >>> ((1 : Int32) &&& 0x3f).toInt64.toUInt64).toInt64) &&& (31 : Int64)) 31 5 (by decide) (by decide)
  have r4 := c_l2i ((((x13.toUInt64 >>> ((1 : Int32) &&& 0x3f).toInt64.toUInt64).toInt64) &&& (31 : Int64)) &&& (31 : Int64))
  have r5 := rng32 (((((x13.toUInt64 >>> ((1 : Int32) &&& 0x3f).toInt64.toUInt64).toInt64) &&& (31 : Int64)) &&& (31 : Int64)).toInt32)
  have H := own_hi h11 h13
  have s1 := c_lushr ((x11 <<< ((16 : Int32) &&& 0x3f).toInt64) ||| x13) 1 1 (by decide) (by decide)
  have s2 := c_lushr x13 1 1 (by decide) (by decide)
  have s3 := c_maskL ((x13.toUInt64 >>> ((1 : Int32) &&& 0x3f).toInt64.toUInt64).toInt64) 31 5 (by decide) (by decide)
  apply Int32.toInt_inj.mp
  omega
theorem own_x13 {x11 x13 p3 : Int64} (h11 : 0 ≤ x11.toInt ∧ x11.toInt < 281474976710656) (h13 : 0 ≤ x13.toInt ∧ x13.toInt < 65536) : ((((((x11 <<< ((16 : Int32) &&& 0x3f).toInt64) ||| x13) <<< ((4 : Int32) &&& 0x3f).toInt64) ||| ((p3.toUInt64 >>> ((60 : Int32) &&& 0x3f).toInt64.toUInt64).toInt64)).toInt32) &&& (31 : Int32)) = (((((x13 &&& (1 : Int64)) <<< ((4 : Int32) &&& 0x3f).toInt64) ||| ((p3.toUInt64 >>> ((60 : Int32) &&& 0x3f).toInt64.toUInt64).toInt64)) &&& (31 : Int64)).toInt32) := by
  have r1 := c_mask (((((x11 <<< ((16 : Int32) &&& 0x3f).toInt64) ||| x13) <<< ((4 : Int32) &&& 0x3f).toInt64) ||| ((p3.toUInt64 >>> ((60 : Int32) &&& 0x3f).toInt64.toUInt64).toInt64)).toInt32) 31 5 (by decide) (by decide)
  have r2 := c_l2i ((((x11 <<< ((16 : Int32) &&& 0x3f).toInt64) ||| x13) <<< ((4 : Int32) &&& 0x3f).toInt64) ||| ((p3.toUInt64 >>> ((60 : Int32) &&& 0x3f).toInt64.toUInt64).toInt64))
  have r3 := c_maskL (((x13 &&& (1 : Int64)) <<< ((4 : Int32) &&& 0x3f).toInt64) ||| ((p3.toUInt64 >>> ((60 : Int32) &&& 0x3f).toInt64.toUInt64).toInt64)) 31 5 (by decide) (by decide)
  have r4 := c_l2i ((((x13 &&& (1 : Int64)) <<< ((4 : Int32) &&& 0x3f).toInt64) ||| ((p3.toUInt64 >>> ((60 : Int32) &&& 0x3f).toInt64.toUInt64).toInt64)) &&& (31 : Int64))
  have r5 := rng32 (((((x13 &&& (1 : Int64)) <<< ((4 : Int32) &&& 0x3f).toInt64) ||| ((p3.toUInt64 >>> ((60 : Int32) &&& 0x3f).toInt64.toUInt64).toInt64)) &&& (31 : Int64)).toInt32)
  have H := own_hi h11 h13
  have s0 := c_lushr p3 60 60 (by decide) (by decide)
  have s1 := c_lshl ((x11 <<< ((16 : Int32) &&& 0x3f).toInt64) ||| x13) 4 4 (by decide)
  have s2 := c_orL (((x11 <<< ((16 : Int32) &&& 0x3f).toInt64) ||| x13) <<< ((4 : Int32) &&& 0x3f).toInt64) ((p3.toUInt64 >>> ((60 : Int32) &&& 0x3f).toInt64.toUInt64).toInt64) 4 (by decide) 16 (by decide) (by omega) (by omega) (by omega)
  have s3 := c_maskL x13 1 1 (by decide) (by decide)
  have s4 := c_lshl (x13 &&& (1 : Int64)) 4 4 (by decide)
  have s5 := c_orL ((x13 &&& (1 : Int64)) <<< ((4 : Int32) &&& 0x3f).toInt64) ((p3.toUInt64 >>> ((60 : Int32) &&& 0x3f).toInt64.toUInt64).toInt64) 4 (by decide) 16 (by decide) (by omega) (by omega) (by omega)
  apply Int32.toInt_inj.mp
  omega
theorem own_x25 {x11 x13 p3 : Int64} (h11 : 0 ≤ x11.toInt ∧ x11.toInt < 281474976710656) (h13 : 0 ≤ x13.toInt ∧ x13.toInt < 65536) : ((((p3.toUInt64 >>> ((0 : Int32) &&& 0x3f).toInt64.toUInt64).toInt64).toInt32) &&& (31 : Int32)) = (((p3 &&& (31 : Int64)) &&& (31 : Int64)).toInt32) := by
  have r1 := c_mask (((p3.toUInt64 >>> ((0 : Int32) &&& 0x3f).toInt64.toUInt64).toInt64).toInt32) 31 5 (by decide) (by decide)
  have r2 := c_l2i ((p3.toUInt64 >>> ((0 : Int32) &&& 0x3f).toInt64.toUInt64).toInt64)
  have r3 := c_maskL (p3 &&& (31 : Int64)) 31 5 (by decide) (by decide)
  have r4 := c_l2i ((p3 &&& (31 : Int64)) &&& (31 : Int64))
  have r5 := rng32 (((p3 &&& (31 : Int64)) &&& (31 : Int64)).toInt32)
  have H := own_hi h11 h13
  have s1 : ((p3.toUInt64 >>> ((0 : Int32) &&& 0x3f).toInt64.toUInt64).toInt64) = p3 := by
    have e : ((0 : Int32) &&& 0x3f).toInt64.toUInt64 = 0 := by decide
    rw [e]; simp
  rw [s1] at r1 r2 ⊢
  have s2 := c_maskL p3 31 5 (by decide) (by decide)
  apply Int32.toInt_inj.mp
  omega
theorem own_wL0 {hi lo : Int64} {cs : Int32} {fo : Value} : (wrL hi lo cs fo).getD (0 : Int32).toNatClampNeg 0 = (nar .byte ((nar .char (chF ((((hi.toUInt64 >>> ((61 : Int32) &&& 0x3f).toInt64.toUInt64).toInt64).toInt32) &&& (31 : Int32)) LST cs fo)).toInt8.toInt32)) := by
  have k1 : (((25 : Int32) - Int32.ofNat 0) * (5 : Int32)) = (125 : Int32) := by decide
  have k2 : (125 : Int32) - (64 : Int32) = (61 : Int32) := by decide
  have e := own_wb1 (hi := hi) (lo := lo) (i := Int32.ofNat 0) (by decide)
  rw [k1, k2] at e
  show (nar .byte ((own_we hi lo cs fo (Int32.ofNat 0)).toInt8.toInt32)) = _
  unfold own_we
  rw [e]
theorem own_wL9 {hi lo : Int64} {cs : Int32} {fo : Value} : (wrL hi lo cs fo).getD (9 : Int32).toNatClampNeg 0 = (nar .byte ((nar .char (chF ((((hi.toUInt64 >>> ((16 : Int32) &&& 0x3f).toInt64.toUInt64).toInt64).toInt32) &&& (31 : Int32)) LST cs fo)).toInt8.toInt32)) := by
  have k1 : (((25 : Int32) - Int32.ofNat 9) * (5 : Int32)) = (80 : Int32) := by decide
  have k2 : (80 : Int32) - (64 : Int32) = (16 : Int32) := by decide
  have e := own_wb1 (hi := hi) (lo := lo) (i := Int32.ofNat 9) (by decide)
  rw [k1, k2] at e
  show (nar .byte ((own_we hi lo cs fo (Int32.ofNat 9)).toInt8.toInt32)) = _
  unfold own_we
  rw [e]
theorem own_wL10 {hi lo : Int64} {cs : Int32} {fo : Value} : (wrL hi lo cs fo).getD (10 : Int32).toNatClampNeg 0 = (nar .byte ((nar .char (chF ((((hi.toUInt64 >>> ((11 : Int32) &&& 0x3f).toInt64.toUInt64).toInt64).toInt32) &&& (31 : Int32)) LST cs fo)).toInt8.toInt32)) := by
  have k1 : (((25 : Int32) - Int32.ofNat 10) * (5 : Int32)) = (75 : Int32) := by decide
  have k2 : (75 : Int32) - (64 : Int32) = (11 : Int32) := by decide
  have e := own_wb1 (hi := hi) (lo := lo) (i := Int32.ofNat 10) (by decide)
  rw [k1, k2] at e
  show (nar .byte ((own_we hi lo cs fo (Int32.ofNat 10)).toInt8.toInt32)) = _
  unfold own_we
  rw [e]
theorem own_wL12 {hi lo : Int64} {cs : Int32} {fo : Value} : (wrL hi lo cs fo).getD (12 : Int32).toNatClampNeg 0 = (nar .byte ((nar .char (chF ((((hi.toUInt64 >>> ((1 : Int32) &&& 0x3f).toInt64.toUInt64).toInt64).toInt32) &&& (31 : Int32)) LST cs fo)).toInt8.toInt32)) := by
  have k1 : (((25 : Int32) - Int32.ofNat 12) * (5 : Int32)) = (65 : Int32) := by decide
  have k2 : (65 : Int32) - (64 : Int32) = (1 : Int32) := by decide
  have e := own_wb1 (hi := hi) (lo := lo) (i := Int32.ofNat 12) (by decide)
  rw [k1, k2] at e
  show (nar .byte ((own_we hi lo cs fo (Int32.ofNat 12)).toInt8.toInt32)) = _
  unfold own_we
  rw [e]
theorem own_wL13 {hi lo : Int64} {cs : Int32} {fo : Value} : (wrL hi lo cs fo).getD (13 : Int32).toNatClampNeg 0 = (nar .byte ((nar .char (chF ((((hi <<< ((4 : Int32) &&& 0x3f).toInt64) ||| ((lo.toUInt64 >>> ((60 : Int32) &&& 0x3f).toInt64.toUInt64).toInt64)).toInt32) &&& (31 : Int32)) LST cs fo)).toInt8.toInt32)) := by
  have k1 : (((25 : Int32) - Int32.ofNat 13) * (5 : Int32)) = (60 : Int32) := by decide
  have k2 : (64 : Int32) - (60 : Int32) = (4 : Int32) := by decide
  have e := own_wb3 (hi := hi) (lo := lo) (i := Int32.ofNat 13) (by decide) (by decide)
  rw [k1, k2] at e
  show (nar .byte ((own_we hi lo cs fo (Int32.ofNat 13)).toInt8.toInt32)) = _
  unfold own_we
  rw [e]
theorem own_wL25 {hi lo : Int64} {cs : Int32} {fo : Value} : (wrL hi lo cs fo).getD (25 : Int32).toNatClampNeg 0 = (nar .byte ((nar .char (chF ((((lo.toUInt64 >>> ((0 : Int32) &&& 0x3f).toInt64.toUInt64).toInt64).toInt32) &&& (31 : Int32)) LST cs fo)).toInt8.toInt32)) := by
  have k1 : (((25 : Int32) - Int32.ofNat 25) * (5 : Int32)) = (0 : Int32) := by decide
  have e := own_wb2 (hi := hi) (lo := lo) (i := Int32.ofNat 25) (by decide) (by decide)
  rw [k1] at e
  show (nar .byte ((own_we hi lo cs fo (Int32.ofNat 25)).toInt8.toInt32)) = _
  unfold own_we
  rw [e]
theorem pd_14 : parseMethodDescriptor "(JJJ)Lcom/example/lane4/lane4/model/JobId;" = some ⟨[.long, .long, .long], some (.object "com/example/lane4/lane4/model/JobId")⟩ := by decide +kernel
theorem pd_15 : parseMethodDescriptor "(JJ)Z" = some ⟨[.long, .long], some .boolean⟩ := by decide +kernel
theorem pd_16 : parseMethodDescriptor "(Lcom/example/lane4/lane4/model/JobId;)I" = some ⟨[(.object "com/example/lane4/lane4/model/JobId")], some .int⟩ := by decide +kernel
theorem pd_17 : parseMethodDescriptor "(I)I" = some ⟨[.int], some .int⟩ := by decide +kernel
theorem pd_18 : parseMethodDescriptor "(Ljava/lang/Object;)Z" = some ⟨[(.object "java/lang/Object")], some .boolean⟩ := by decide +kernel
theorem pd_19 : parseMethodDescriptor "()I" = some ⟨[], some .int⟩ := by decide +kernel
theorem pd_20 : parseMethodDescriptor "(J)C" = some ⟨[.long], some .char⟩ := by decide +kernel
theorem ef_0 (m : MethodId) (x0 : Int64) (x1 : Int64) (x2 : Int64) (x3 : Int64) (x4 : Int64) (x5 : Int32) : entryFrame m #[(.long x0), (.long x1), (.long x2), (.long x3), (.long x4), (.int x5)] maxLocals = mkF m 0 #[.val (.long x0), .second, .val (.long x1), .second, .val (.long x2), .second, .val (.long x3), .second, .val (.long x4), .second, .val (.int x5), .unset, .unset, .unset, .unset, .unset, .unset, .unset, .unset, .unset, .unset, .unset, .unset, .unset, .unset, .unset, .unset] [] := by first | (simp [entryFrame, mkF, argsToLocals, Value.category, maxLocals]; done) | rfl
def Q0 (Z : State) (p1 : Int64) (p2 : Int64) (p3 : Int64) (p4 : Int64) (p5 : Int64) (p6 : Int32) (cs : Int32) (fo : Value) (h0 : Heap) (n0 : Nat) (v : Option Value) (h : Heap) (L : List Loc) : Prop := v = some (.int (1 : Int32)) ∧ Fr n0 L
set_option maxRecDepth 65536 in
set_option maxHeartbeats 40000000 in
theorem rm_0 (l : Launch) (Z : State) (a0 : Array Value) (hw : ∀ d ∈ tables_1, d.before a0 Z = true) (ws : List Jvm.Cond) (p1 : Int64) (p2 : Int64) (p3 : Int64) (p4 : Int64) (p5 : Int64) (p6 : Int32) (cs : Int32) (fo : Value) (h0 : Heap) (n0 : Nat) (Z0 : n0 ≤ h0.size) (F0 : Sta Z h0 "java/lang/String" "COMPACT_STRINGS" "Z" (.int cs)) (F1 : Sta Z h0 "jdk/internal/util/Preconditions" "SIOOBE_FORMATTER" "Ljava/util/function/BiFunction;" fo) (hcs : ¬ cs = (0 : Int32)) (hfo : fo.isRef = true) :
    MetFree l x (head1 (Jvm.Cond.code x code maxLocals ret :: ws) room_1) (fun A_ U => A_ = #[(.long p1), (.long p2), (.long p3), (.long p4), (.long p5), (.int p6)] ∧ Z.Warmed39 U.vm ∧ U.heap = h0 ∧ CHv Z consts_1 U.vm h0) (fun _ _ _ _ _ => True) (fun _ U o U' => ∃ v L, o = .returned v ∧ Q0 Z p1 p2 p3 p4 p5 p6 cs fo h0 n0 v U'.heap L ∧ CHr Z consts_1 U.vm U.heap U'.vm U'.heap ∧ ReturnedEndW U o U' L 24 2304) := by
  refine MetFree.of_bodySF (plainFor_of_name pn_5) hisR ?_
  intro p e s m args below meth c s₁ Bd hml0 hP hK
  obtain ⟨rfl, hZ, hh, hCH⟩ := hP
  have hx := Bd.exec
  have hby := Bd.bytes
  have hml : c.maxLocals = 27 := hml0
  have hown : s.vm.findClass "com/example/lane4/lane4/model/JobIdOfPinLaw" = some m.cls := findClass_of_methodNamed Bd.named
  have hnm := (name_of_methodNamed Bd.named Bd.method).1
  have X0 : Stand p l e room_1 (s.setVm s.vm) m #[(.long p1), (.long p2), (.long p3), (.long p4), (.long p5), (.int p6)] below meth c s₁ [] 0 0 := Stand.of_body Bd
  have e0 : s₁.heap = h0 := by rw [← hh, Bd.state]; rfl
  have N0 := Fr.nil n0
  have hZ : Z.Warmed39 (s.setVm s.vm).vm := hZ
  have hown : (s.setVm s.vm).vm.findClass "com/example/lane4/lane4/model/JobIdOfPinLaw" = some m.cls := hown
  have hEL : EW Z a0 consts_1 := own_EL hw
  have hS0 : s.Since s.vm h0.size := own_since
  have hk0 : h0.size ≤ h0.size := Nat.le_refl _
  have HC0 : CHr Z consts_1 s.vm s.heap s.vm h0 := by rw [hh]; exact CHr.refl hCH
  suffices HGO : GoC p e below s Z consts_1 (Q0 Z p1 p2 p3 p4 p5 p6 cs fo h0 n0) 24 2304 s₁ (mkF m 0 #[.val (.long p1), .second, .val (.long p2), .second, .val (.long p3), .second, .val (.long p4), .second, .val (.long p5), .second, .val (.int p6), .unset, .unset, .unset, .unset, .unset, .unset, .unset, .unset, .unset, .unset, .unset, .unset, .unset, .unset, .unset, .unset] []) from GoC.cast (ef_0 m p1 p2 p3 p4 p5 p6) HGO
  have S232 : ∀ (T : State) (locs : List Loc) (cells slots : Nat) (X : Stand p l e room_1 (s.setVm s.vm) m #[(.long p1), (.long p2), (.long p3), (.long p4), (.long p5), (.int p6)] below meth c T locs cells slots) (hcl : cells ≤ 2) (hsl : slots ≤ 6) (h : Heap) (eT : T.heap = h) (N : Fr n0 locs) (x11 : Int64) (x13 : Int64) (x15 : Int64) (x17 : Int64) (x19 : Int64) (x23 : Int32)  (b_7 : Addr) (b_10 : Addr) (K : Keep h0 h []) (HC : CHr Z consts_1 s.vm s.heap s.vm h) (fc0 : Sta Z h "java/lang/String" "COMPACT_STRINGS" "Z" (.int cs)) (fc1 : Sta Z h "jdk/internal/util/Preconditions" "SIOOBE_FORMATTER" "Ljava/util/function/BiFunction;" fo) (fc2 : Exa Z h b_7 "com/example/lane4/lane4/model/JobId") (fc3 : Fld Z h b_7 "com/example/lane4/lane4/model/JobId" "high" "J" (.long ((x11 <<< ((16 : Int32) &&& 0x3f).toInt64) ||| x13))) (fc4 : Fld Z h b_7 "com/example/lane4/lane4/model/JobId" "low" "J" (.long p3)) (fc5 : Fld Z h b_7 "com/example/lane4/lane4/model/JobId" "text" "Ljava/lang/String;" .null) (fc6 : Exa Z h b_10 "com/example/lane4/lane4/model/JobId") (fc7 : Fld Z h b_10 "com/example/lane4/lane4/model/JobId" "high" "J" (.long ((x15 <<< ((16 : Int32) &&& 0x3f).toInt64) ||| x17))) (fc8 : Fld Z h b_10 "com/example/lane4/lane4/model/JobId" "low" "J" (.long x19)) (fc9 : Fld Z h b_10 "com/example/lane4/lane4/model/JobId" "text" "Ljava/lang/String;" .null) (g_b_7 : n0 ≤ b_7) (g_b_10 : n0 ≤ b_10) (sz_b_7 : h0.size ≤ b_7) (sz_b_10 : h0.size ≤ b_10) (ne_b_7_b_10 : b_7 ≠ b_10) (h11 : 0 ≤ x11.toInt ∧ x11.toInt < 281474976710656) (h13 : 0 ≤ x13.toInt ∧ x13.toInt < 65536), GoC p e below s Z consts_1 (Q0 Z p1 p2 p3 p4 p5 p6 cs fo h0 n0) 24 2304 T (mkF m 232 #[.val (.long p1), .second, .val (.long p2), .second, .val (.long p3), .second, .val (.long p4), .second, .val (.long p5), .second, .val (.int p6), .val (.long x11), .second, .val (.long x13), .second, .val (.long x15), .second, .val (.long x17), .second, .val (.long x19), .second, .val (.ref b_7), .val (.ref b_10), .val (.int x23), .val (.int (1 : Int32)), .unset, .unset] []) := by
    intro T locs cells slots X hcl hsl h eT N x11 x13 x15 x17 x19 x23 b_7 b_10 K HC fc0 fc1 fc2 fc3 fc4 fc5 fc6 fc7 fc8 fc9 g_b_7 g_b_10 sz_b_7 sz_b_10 ne_b_7_b_10 h11 h13
    have Zh : n0 ≤ h.size := Nat.le_trans Z0 K.1
    have hkS : h0.size ≤ h.size := K.1
    obtain ⟨cq1, kq1, q1a, q1b, q1c⟩ := isOf hZ eT (fc2 : Exa Z h b_7 "com/example/lane4/lane4/model/JobId")
    obtain ⟨_, _, ⟨T1, L1, k1, n1⟩, -, X1, hT1, hg1, ⟨Lc1, hQ1, l1, y1, z1, hR1⟩, st1⟩ := X.virtualBackS hx (y := (⟨"com/example/lane4/lane4/model/JobId", "toString", "()Ljava/lang/String;"⟩ : MethodName)) (z := (⟨"com/example/lane4/lane4/model/JobId", "toString", "()Ljava/lang/String;"⟩ : MethodName)) hown (mvT hZ (hw _ (List.mem_of_getElem? (i := 45) rfl))) (mvT hZ (hw _ (List.mem_of_getElem? (i := 46) rfl))) (notFace_of_selects (args := #[]) (mvT hZ (hw _ (List.mem_of_getElem? (i := 48) rfl)))) (mvT hZ (hw _ (List.mem_of_getElem? (i := 48) rfl))) (mvT hZ (hw _ (List.mem_of_getElem? (i := 47) rfl))) (by decide) (backOfSH (W := 0) (rm_tosK l Z a0 hw [] b_7 ((x11 <<< ((16 : Int32) &&& 0x3f).toInt64) ||| x13) p3 cs fo h n0 Zh fc2 fc3 fc4 fc5 fc0 fc1 g_b_7 hcs hfo) hZ (hw _ (List.mem_of_getElem? (i := 49) rfl)) (hw _ (List.mem_of_getElem? (i := 4) rfl)) (by decide) (by decide) hEL HC.1) q1a q1c (g := (mkF m 234 #[.val (.long p1), .second, .val (.long p2), .second, .val (.long p3), .second, .val (.long p4), .second, .val (.long p5), .second, .val (.int p6), .val (.long x11), .second, .val (.long x13), .second, .val (.long x15), .second, .val (.long x17), .second, .val (.long x19), .second, .val (.ref b_7), .val (.ref b_10), .val (.int x23), .val (.int (1 : Int32)), .unset, .unset] [(.ref b_7)])) rfl (by rw [hml]; rfl) (Steps.refl _) (argsL := []) (rest := []) (lenOf pd_13 rfl) rfl (by show 2 * 0 + _ ≤ _; exact Nat.le_of_eq rfl) (hb hby at_234) (fun _ _ => ⟨rfl, eT, (Nat.le_trans (Nat.add_le_add_right hcl 5) (by decide)), (Nat.le_trans (Nat.add_le_add_right hsl 188) (by decide))⟩)
    dsimp only [Pt.U, Pt.locs, Pt.cells, Pt.slots] at X1 l1 y1 z1 st1 hQ1 hT1 hg1 hR1
    subst l1 y1 z1
    obtain ⟨X1, hS1, hZ, hown⟩ := rebS hS0 (by rw [eT]; exact hkS : _ ≤ T.heap.size) X1 hT1 hg1 hZ hown
    have HC1 := HC.trans hR1
    have hk1 : T1.heap.size ≤ T1.heap.size := Nat.le_refl _
    obtain ⟨sb_1, bb_1, rfl, N1q, Kq1, fz_sb_1, fz_bb_1, pf1_0, pf1_1, pf1_2, pf1_3, pf1_4, pf1_5⟩ := hQ1
    have oldlt_1_b_7 : b_7 < h.size := fc2.lt
    have oldlt_1_b_10 : b_10 < h.size := fc6.lt
    have G2 : Sta Z T1.heap "java/lang/String" "COMPACT_STRINGS" "Z" (.int cs) := fc0.keepE Kq1 fc2
    have G3 : Sta Z T1.heap "jdk/internal/util/Preconditions" "SIOOBE_FORMATTER" "Ljava/util/function/BiFunction;" fo := fc1.keepE Kq1 fc2
    have G4 : Exa Z T1.heap b_7 "com/example/lane4/lane4/model/JobId" := Exa.keep fc2 Kq1
    have G5 : Exa Z T1.heap b_10 "com/example/lane4/lane4/model/JobId" := Exa.keep fc6 Kq1
    have G6 : Fld Z T1.heap b_10 "com/example/lane4/lane4/model/JobId" "high" "J" (.long ((x15 <<< ((16 : Int32) &&& 0x3f).toInt64) ||| x17)) := fc7.keep Kq1 (ninS (Ne.symm ne_b_7_b_10) nin0)
    have G7 : Fld Z T1.heap b_10 "com/example/lane4/lane4/model/JobId" "low" "J" (.long x19) := fc8.keep Kq1 (ninS (Ne.symm ne_b_7_b_10) nin0)
    have G8 : Fld Z T1.heap b_10 "com/example/lane4/lane4/model/JobId" "text" "Ljava/lang/String;" .null := fc9.keep Kq1 (ninS (Ne.symm ne_b_7_b_10) nin0)
    have ne_b_7_sb_1 : b_7 ≠ sb_1 := Nat.ne_of_lt (Nat.lt_of_lt_of_le oldlt_1_b_7 fz_sb_1)
    have ne_b_10_sb_1 : b_10 ≠ sb_1 := Nat.ne_of_lt (Nat.lt_of_lt_of_le oldlt_1_b_10 fz_sb_1)
    have g_sb_1 : n0 ≤ sb_1 := Nat.le_trans Zh fz_sb_1
    have sz_sb_1 : h0.size ≤ sb_1 := Nat.le_trans K.1 fz_sb_1
    have ne_b_7_bb_1 : b_7 ≠ bb_1 := Nat.ne_of_lt (Nat.lt_of_lt_of_le oldlt_1_b_7 fz_bb_1)
    have ne_b_10_bb_1 : b_10 ≠ bb_1 := Nat.ne_of_lt (Nat.lt_of_lt_of_le oldlt_1_b_10 fz_bb_1)
    have g_bb_1 : n0 ≤ bb_1 := Nat.le_trans Zh fz_bb_1
    have sz_bb_1 : h0.size ≤ bb_1 := Nat.le_trans K.1 fz_bb_1
    have K1 : Keep h0 T1.heap [] := Keep.trans K Kq1 (allS (Or.inr sz_b_7) all0)
    have Z1 : n0 ≤ T1.heap.size := Nat.le_trans Z0 K1.1
    have N1 := Fr.app N N1q
    obtain ⟨cq9, kq9, q9a, q9b, q9c⟩ := isOf hZ rfl (pf1_0 : Exa Z T1.heap sb_1 "java/lang/String")
    obtain ⟨_, _, ⟨T9, L9, k9, n9⟩, -, X9, ⟨Lc9, hQ9, l9, y9, z9⟩, st9⟩ := X1.virtualBack hx (y := (⟨"java/lang/String", "length", "()I"⟩ : MethodName)) (z := (⟨"java/lang/String", "length", "()I"⟩ : MethodName)) hown (mvT hZ (hw _ (List.mem_of_getElem? (i := 109) rfl))) (mvT hZ (hw _ (List.mem_of_getElem? (i := 110) rfl))) (notFace_of_selects (args := #[]) (mvT hZ (hw _ (List.mem_of_getElem? (i := 112) rfl)))) (mvT hZ (hw _ (List.mem_of_getElem? (i := 112) rfl))) (mvT hZ (hw _ (List.mem_of_getElem? (i := 111) rfl))) (by decide) (backOf (W := 0) (rm_lenF l Z a0 hw [] sb_1 bb_1 (wrL ((x11 <<< ((16 : Int32) &&& 0x3f).toInt64) ||| x13) p3 cs fo) cs T1.heap n0 Z1 pf1_0 pf1_1 pf1_2 pf1_3 G2 hcs) hZ (hw _ (List.mem_of_getElem? (i := 113) rfl)) (hw _ (List.mem_of_getElem? (i := 58) rfl)) (by decide) (by decide)) q9a q9c (g := (mkF m 241 #[.val (.long p1), .second, .val (.long p2), .second, .val (.long p3), .second, .val (.long p4), .second, .val (.long p5), .second, .val (.int p6), .val (.long x11), .second, .val (.long x13), .second, .val (.long x15), .second, .val (.long x17), .second, .val (.long x19), .second, .val (.ref b_7), .val (.ref b_10), .val (.int x23), .val (.int (1 : Int32)), .val (.ref sb_1), .unset] [(.ref sb_1)])) rfl (by rw [hml]; rfl) (Steps.refl _) (argsL := []) (rest := []) (lenOf pd_19 rfl) rfl (by show 2 * 0 + _ ≤ _; exact Nat.le_of_eq rfl) (hb hby at_241) (fun _ _ => ⟨rfl, rfl, (Nat.le_trans (Nat.add_le_add_right (Nat.add_le_add_right hcl 5) 0) (by decide)), (Nat.le_trans (Nat.add_le_add_right (Nat.add_le_add_right hsl 188) 0) (by decide))⟩)
    dsimp only [Pt.U, Pt.locs, Pt.cells, Pt.slots] at X9 l9 y9 z9 st9 hQ9
    subst l9 y9 z9
    obtain ⟨rfl, N9q, e9⟩ := hQ9
    have N9 := Fr.app N1 N9q
    refine GoC.step (T' := T9) (f' := (mkF m 246 #[.val (.long p1), .second, .val (.long p2), .second, .val (.long p3), .second, .val (.long p4), .second, .val (.long p5), .second, .val (.int p6), .val (.long x11), .second, .val (.long x13), .second, .val (.long x15), .second, .val (.long x17), .second, .val (.long x19), .second, .val (.ref b_7), .val (.ref b_10), .val (.int x23), .val (.int (1 : Int32)), .val (.ref sb_1), .unset] [(.int (26 : Int32)), (.int (lenF (wrL ((x11 <<< ((16 : Int32) &&& 0x3f).toInt64) ||| x13) p3 cs fo) cs))])) (fun t kt => ?_) ?_
    · show Steps p.tables e below (T.setTop (mkF m 232 #[.val (.long p1), .second, .val (.long p2), .second, .val (.long p3), .second, .val (.long p4), .second, .val (.long p5), .second, .val (.int p6), .val (.long x11), .second, .val (.long x13), .second, .val (.long x15), .second, .val (.long x17), .second, .val (.long x19), .second, .val (.ref b_7), .val (.ref b_10), .val (.int x23), .val (.int (1 : Int32)), .unset, .unset] [])) _
      refine XS.aload X.here hx rfl (hb hby at_232) rfl rfl ?_
      show Steps p.tables e below (T.setTop (mkF m 234 #[.val (.long p1), .second, .val (.long p2), .second, .val (.long p3), .second, .val (.long p4), .second, .val (.long p5), .second, .val (.int p6), .val (.long x11), .second, .val (.long x13), .second, .val (.long x15), .second, .val (.long x17), .second, .val (.long x19), .second, .val (.ref b_7), .val (.ref b_10), .val (.int x23), .val (.int (1 : Int32)), .unset, .unset] [(.ref b_7)])) _
      refine st1.trans ?_
      show Steps p.tables e below (T1.setTop (mkF m 237 #[.val (.long p1), .second, .val (.long p2), .second, .val (.long p3), .second, .val (.long p4), .second, .val (.long p5), .second, .val (.int p6), .val (.long x11), .second, .val (.long x13), .second, .val (.long x15), .second, .val (.long x17), .second, .val (.long x19), .second, .val (.ref b_7), .val (.ref b_10), .val (.int x23), .val (.int (1 : Int32)), .unset, .unset] [(.ref sb_1)])) _
      refine XS.astore X1.here hx rfl (hb hby at_237) rfl rfl (l' := #[.val (.long p1), .second, .val (.long p2), .second, .val (.long p3), .second, .val (.long p4), .second, .val (.long p5), .second, .val (.int p6), .val (.long x11), .second, .val (.long x13), .second, .val (.long x15), .second, .val (.long x17), .second, .val (.long x19), .second, .val (.ref b_7), .val (.ref b_10), .val (.int x23), .val (.int (1 : Int32)), .val (.ref sb_1), .unset]) rfl ?_
      show Steps p.tables e below (T1.setTop (mkF m 239 #[.val (.long p1), .second, .val (.long p2), .second, .val (.long p3), .second, .val (.long p4), .second, .val (.long p5), .second, .val (.int p6), .val (.long x11), .second, .val (.long x13), .second, .val (.long x15), .second, .val (.long x17), .second, .val (.long x19), .second, .val (.ref b_7), .val (.ref b_10), .val (.int x23), .val (.int (1 : Int32)), .val (.ref sb_1), .unset] [])) _
      refine XS.aload X1.here hx rfl (hb hby at_239) rfl rfl ?_
      show Steps p.tables e below (T1.setTop (mkF m 241 #[.val (.long p1), .second, .val (.long p2), .second, .val (.long p3), .second, .val (.long p4), .second, .val (.long p5), .second, .val (.int p6), .val (.long x11), .second, .val (.long x13), .second, .val (.long x15), .second, .val (.long x17), .second, .val (.long x19), .second, .val (.ref b_7), .val (.ref b_10), .val (.int x23), .val (.int (1 : Int32)), .val (.ref sb_1), .unset] [(.ref sb_1)])) _
      refine st9.trans ?_
      show Steps p.tables e below (T9.setTop (mkF m 244 #[.val (.long p1), .second, .val (.long p2), .second, .val (.long p3), .second, .val (.long p4), .second, .val (.long p5), .second, .val (.int p6), .val (.long x11), .second, .val (.long x13), .second, .val (.long x15), .second, .val (.long x17), .second, .val (.long x19), .second, .val (.ref b_7), .val (.ref b_10), .val (.int x23), .val (.int (1 : Int32)), .val (.ref sb_1), .unset] [(.int (lenF (wrL ((x11 <<< ((16 : Int32) &&& 0x3f).toInt64) ||| x13) p3 cs fo) cs))])) _
      refine XS.bipush X9.here hx rfl (hb hby at_244) ?_
      exact kt
    have hd10 : (lenF (wrL ((x11 <<< ((16 : Int32) &&& 0x3f).toInt64) ||| x13) p3 cs fo) cs) = (26 : Int32) := rfl
    obtain ⟨cq11, kq11, q11a, q11b, q11c⟩ := isOf hZ e9 (pf1_0 : Exa Z T1.heap sb_1 "java/lang/String")
    obtain ⟨_, _, ⟨T11, L11, k11, n11⟩, -, X11, ⟨Lc11, hQ11, l11, y11, z11⟩, st11⟩ := X9.virtualBack hx (y := (⟨"java/lang/String", "charAt", "(I)C"⟩ : MethodName)) (z := (⟨"java/lang/String", "charAt", "(I)C"⟩ : MethodName)) hown (mvT hZ (hw _ (List.mem_of_getElem? (i := 119) rfl))) (mvT hZ (hw _ (List.mem_of_getElem? (i := 66) rfl))) (notFace_of_selects (args := #[]) (mvT hZ (hw _ (List.mem_of_getElem? (i := 68) rfl)))) (mvT hZ (hw _ (List.mem_of_getElem? (i := 68) rfl))) (mvT hZ (hw _ (List.mem_of_getElem? (i := 67) rfl))) (by decide) (backOf (W := 0) (rm_chF l Z a0 hw [] sb_1 (0 : Int32) bb_1 (wrL ((x11 <<< ((16 : Int32) &&& 0x3f).toInt64) ||| x13) p3 cs fo) cs fo T1.heap n0 Z1 pf1_0 pf1_1 pf1_2 pf1_3 G2 G3 hcs hfo (own_w26 (hi := ((x11 <<< ((16 : Int32) &&& 0x3f).toInt64) ||| x13)) (lo := p3) (cs := cs) (fo := fo) (by decide)).1 (own_w26 (hi := ((x11 <<< ((16 : Int32) &&& 0x3f).toInt64) ||| x13)) (lo := p3) (cs := cs) (fo := fo) (by decide)).2.1 (own_w26 (hi := ((x11 <<< ((16 : Int32) &&& 0x3f).toInt64) ||| x13)) (lo := p3) (cs := cs) (fo := fo) (by decide)).2.2) hZ (hw _ (List.mem_of_getElem? (i := 69) rfl)) (hw _ (List.mem_of_getElem? (i := 58) rfl)) (by decide) (by decide)) q11a q11c (g := (mkF m 252 #[.val (.long p1), .second, .val (.long p2), .second, .val (.long p3), .second, .val (.long p4), .second, .val (.long p5), .second, .val (.int p6), .val (.long x11), .second, .val (.long x13), .second, .val (.long x15), .second, .val (.long x17), .second, .val (.long x19), .second, .val (.ref b_7), .val (.ref b_10), .val (.int x23), .val (.int (1 : Int32)), .val (.ref sb_1), .unset] [(.int (0 : Int32)), (.ref sb_1)])) rfl (by rw [hml]; rfl) (Steps.refl _) (argsL := [(.int (0 : Int32))]) (rest := []) (lenOf pd_11 rfl) rfl (by show 2 * 0 + _ ≤ _; exact Nat.le_of_eq rfl) (hb hby at_252) (fun _ _ => ⟨rfl, e9, (Nat.le_trans (Nat.add_le_add_right (Nat.add_le_add_right (Nat.add_le_add_right hcl 5) 0) 0) (by decide)), (Nat.le_trans (Nat.add_le_add_right (Nat.add_le_add_right (Nat.add_le_add_right hsl 188) 0) 0) (by decide))⟩)
    dsimp only [Pt.U, Pt.locs, Pt.cells, Pt.slots] at X11 l11 y11 z11 st11 hQ11
    subst l11 y11 z11
    obtain ⟨rfl, N11q, e11⟩ := hQ11
    have N11 := Fr.app N9 N11q
    obtain ⟨_, _, ⟨T12, L12, k12, n12⟩, -, X12, hT12, hg12, ⟨Lc12, hQ12, l12, y12, z12, hR12⟩, st12⟩ := callSS X11 hx (y := (⟨"com/example/lane4/lane4/model/JobIdOfPinLaw", "digit", "(J)C"⟩ : MethodName)) hown (mvT hZ (hw _ (List.mem_of_getElem? (i := 120) rfl))) (mvT hZ (hw _ (List.mem_of_getElem? (i := 121) rfl))) (mvT hZ (hw _ (List.mem_of_getElem? (i := 20) rfl))) (mvT hZ (hw _ (List.mem_of_getElem? (i := 122) rfl))) (by decide) (backOfSH (W := 1) (rm_digF l Z a0 hw [] ((x11.toUInt64 >>> ((45 : Int32) &&& 0x3f).toInt64.toUInt64).toInt64) cs fo T1.heap n0 Z1 G2 G3 hcs hfo) hZ (hw _ (List.mem_of_getElem? (i := 122) rfl)) (hw _ (List.mem_of_getElem? (i := 20) rfl)) (by decide) (by decide) hEL HC1.1) (g := (mkF m 260 #[.val (.long p1), .second, .val (.long p2), .second, .val (.long p3), .second, .val (.long p4), .second, .val (.long p5), .second, .val (.int p6), .val (.long x11), .second, .val (.long x13), .second, .val (.long x15), .second, .val (.long x17), .second, .val (.long x19), .second, .val (.ref b_7), .val (.ref b_10), .val (.int x23), .val (.int (1 : Int32)), .val (.ref sb_1), .unset] [(.long ((x11.toUInt64 >>> ((45 : Int32) &&& 0x3f).toInt64.toUInt64).toInt64)), (.int (chF (0 : Int32) (wrL ((x11 <<< ((16 : Int32) &&& 0x3f).toInt64) ||| x13) p3 cs fo) cs fo))])) rfl (by rw [hml]; rfl) (argsL := [(.long ((x11.toUInt64 >>> ((45 : Int32) &&& 0x3f).toInt64.toUInt64).toInt64))]) (rest := [(.int (chF (0 : Int32) (wrL ((x11 <<< ((16 : Int32) &&& 0x3f).toInt64) ||| x13) p3 cs fo) cs fo))]) (lenOf pd_20 rfl) rfl (by show 2 * 0 + _ ≤ _; exact Nat.le_of_eq rfl) (hb hby at_260) (fun _ _ => ⟨rfl, e11, (Nat.le_trans (Nat.add_le_add_right (Nat.add_le_add_right (Nat.add_le_add_right (Nat.add_le_add_right hcl 5) 0) 0) 2) (by decide)), (Nat.le_trans (Nat.add_le_add_right (Nat.add_le_add_right (Nat.add_le_add_right (Nat.add_le_add_right hsl 188) 0) 0) 132) (by decide))⟩)
    dsimp only [Pt.U, Pt.locs, Pt.cells, Pt.slots] at X12 l12 y12 z12 st12 hQ12 hT12 hg12 hR12
    subst l12 y12 z12
    obtain ⟨X12, hS12, hZ, hown⟩ := rebS hS1 (by rw [e11]; exact hk1 : _ ≤ T11.heap.size) X12 hT12 hg12 hZ hown
    have HC12 := HC1.trans hR12
    have hk12 : T12.heap.size ≤ T12.heap.size := Nat.le_refl _
    obtain ⟨rfl, N12q, Kq12⟩ := hQ12
    have G13 : Sta Z T12.heap "java/lang/String" "COMPACT_STRINGS" "Z" (.int cs) := G2.keep0 Kq12
    have G14 : Sta Z T12.heap "jdk/internal/util/Preconditions" "SIOOBE_FORMATTER" "Ljava/util/function/BiFunction;" fo := G3.keep0 Kq12
    have G15 : Exa Z T12.heap b_7 "com/example/lane4/lane4/model/JobId" := Exa.keep G4 Kq12
    have G16 : Fld Z T12.heap b_7 "com/example/lane4/lane4/model/JobId" "high" "J" (.long ((x11 <<< ((16 : Int32) &&& 0x3f).toInt64) ||| x13)) := pf1_4.keep Kq12 nin0
    have G17 : Fld Z T12.heap b_7 "com/example/lane4/lane4/model/JobId" "low" "J" (.long p3) := pf1_5.keep Kq12 nin0
    have G18 : Exa Z T12.heap b_10 "com/example/lane4/lane4/model/JobId" := Exa.keep G5 Kq12
    have G19 : Fld Z T12.heap b_10 "com/example/lane4/lane4/model/JobId" "high" "J" (.long ((x15 <<< ((16 : Int32) &&& 0x3f).toInt64) ||| x17)) := G6.keep Kq12 nin0
    have G20 : Fld Z T12.heap b_10 "com/example/lane4/lane4/model/JobId" "low" "J" (.long x19) := G7.keep Kq12 nin0
    have G21 : Fld Z T12.heap b_10 "com/example/lane4/lane4/model/JobId" "text" "Ljava/lang/String;" .null := G8.keep Kq12 nin0
    have G22 : Exa Z T12.heap sb_1 "java/lang/String" := Exa.keep pf1_0 Kq12
    have G23 : Fld Z T12.heap sb_1 "java/lang/String" "value" "[B" (.ref bb_1) := pf1_1.keep Kq12 nin0
    have G24 : Fld Z T12.heap sb_1 "java/lang/String" "coder" "B" (.int (0 : Int32)) := pf1_2.keep Kq12 nin0
    have G25 : VA Z T12.heap bb_1 .byte ((wrL ((x11 <<< ((16 : Int32) &&& 0x3f).toInt64) ||| x13) p3 cs fo).map Value.int) := pf1_3.keep Kq12 nin0
    have K12 : Keep h0 T12.heap [] := Keep.trans K1 Kq12 all0
    have Z12 : n0 ≤ T12.heap.size := Nat.le_trans Z0 K12.1
    have N12 := Fr.app N11 N12q
    refine GoC.step (T' := T12) (f' := (mkF m 263 #[.val (.long p1), .second, .val (.long p2), .second, .val (.long p3), .second, .val (.long p4), .second, .val (.long p5), .second, .val (.int p6), .val (.long x11), .second, .val (.long x13), .second, .val (.long x15), .second, .val (.long x17), .second, .val (.long x19), .second, .val (.ref b_7), .val (.ref b_10), .val (.int x23), .val (.int (1 : Int32)), .val (.ref sb_1), .unset] [(.int (digF ((x11.toUInt64 >>> ((45 : Int32) &&& 0x3f).toInt64.toUInt64).toInt64) cs fo)), (.int (chF (0 : Int32) (wrL ((x11 <<< ((16 : Int32) &&& 0x3f).toInt64) ||| x13) p3 cs fo) cs fo))])) (fun t kt => ?_) ?_
    · show Steps p.tables e below (T9.setTop (mkF m 246 #[.val (.long p1), .second, .val (.long p2), .second, .val (.long p3), .second, .val (.long p4), .second, .val (.long p5), .second, .val (.int p6), .val (.long x11), .second, .val (.long x13), .second, .val (.long x15), .second, .val (.long x17), .second, .val (.long x19), .second, .val (.ref b_7), .val (.ref b_10), .val (.int x23), .val (.int (1 : Int32)), .val (.ref sb_1), .unset] [(.int (26 : Int32)), (.int (lenF (wrL ((x11 <<< ((16 : Int32) &&& 0x3f).toInt64) ||| x13) p3 cs fo) cs))])) _
      refine XS.icmpNo X9.here hx rfl (hb hby at_246) rfl (teq hd10).2 ?_
      show Steps p.tables e below (T9.setTop (mkF m 249 #[.val (.long p1), .second, .val (.long p2), .second, .val (.long p3), .second, .val (.long p4), .second, .val (.long p5), .second, .val (.int p6), .val (.long x11), .second, .val (.long x13), .second, .val (.long x15), .second, .val (.long x17), .second, .val (.long x19), .second, .val (.ref b_7), .val (.ref b_10), .val (.int x23), .val (.int (1 : Int32)), .val (.ref sb_1), .unset] [])) _
      refine XS.aload X9.here hx rfl (hb hby at_249) rfl rfl ?_
      show Steps p.tables e below (T9.setTop (mkF m 251 #[.val (.long p1), .second, .val (.long p2), .second, .val (.long p3), .second, .val (.long p4), .second, .val (.long p5), .second, .val (.int p6), .val (.long x11), .second, .val (.long x13), .second, .val (.long x15), .second, .val (.long x17), .second, .val (.long x19), .second, .val (.ref b_7), .val (.ref b_10), .val (.int x23), .val (.int (1 : Int32)), .val (.ref sb_1), .unset] [(.ref sb_1)])) _
      refine XS.iconst X9.here hx rfl (hb hby at_251) ?_
      show Steps p.tables e below (T9.setTop (mkF m 252 #[.val (.long p1), .second, .val (.long p2), .second, .val (.long p3), .second, .val (.long p4), .second, .val (.long p5), .second, .val (.int p6), .val (.long x11), .second, .val (.long x13), .second, .val (.long x15), .second, .val (.long x17), .second, .val (.long x19), .second, .val (.ref b_7), .val (.ref b_10), .val (.int x23), .val (.int (1 : Int32)), .val (.ref sb_1), .unset] [(.int (0 : Int32)), (.ref sb_1)])) _
      refine st11.trans ?_
      show Steps p.tables e below (T11.setTop (mkF m 255 #[.val (.long p1), .second, .val (.long p2), .second, .val (.long p3), .second, .val (.long p4), .second, .val (.long p5), .second, .val (.int p6), .val (.long x11), .second, .val (.long x13), .second, .val (.long x15), .second, .val (.long x17), .second, .val (.long x19), .second, .val (.ref b_7), .val (.ref b_10), .val (.int x23), .val (.int (1 : Int32)), .val (.ref sb_1), .unset] [(.int (chF (0 : Int32) (wrL ((x11 <<< ((16 : Int32) &&& 0x3f).toInt64) ||| x13) p3 cs fo) cs fo))])) _
      refine XS.lload X11.here hx rfl (hb hby at_255) rfl ?_
      show Steps p.tables e below (T11.setTop (mkF m 257 #[.val (.long p1), .second, .val (.long p2), .second, .val (.long p3), .second, .val (.long p4), .second, .val (.long p5), .second, .val (.int p6), .val (.long x11), .second, .val (.long x13), .second, .val (.long x15), .second, .val (.long x17), .second, .val (.long x19), .second, .val (.ref b_7), .val (.ref b_10), .val (.int x23), .val (.int (1 : Int32)), .val (.ref sb_1), .unset] [(.long x11), (.int (chF (0 : Int32) (wrL ((x11 <<< ((16 : Int32) &&& 0x3f).toInt64) ||| x13) p3 cs fo) cs fo))])) _
      refine XS.bipush X11.here hx rfl (hb hby at_257) ?_
      show Steps p.tables e below (T11.setTop (mkF m 259 #[.val (.long p1), .second, .val (.long p2), .second, .val (.long p3), .second, .val (.long p4), .second, .val (.long p5), .second, .val (.int p6), .val (.long x11), .second, .val (.long x13), .second, .val (.long x15), .second, .val (.long x17), .second, .val (.long x19), .second, .val (.ref b_7), .val (.ref b_10), .val (.int x23), .val (.int (1 : Int32)), .val (.ref sb_1), .unset] [(.int (45 : Int32)), (.long x11), (.int (chF (0 : Int32) (wrL ((x11 <<< ((16 : Int32) &&& 0x3f).toInt64) ||| x13) p3 cs fo) cs fo))])) _
      refine XS.lushr X11.here hx rfl (hb hby at_259) rfl ?_
      show Steps p.tables e below (T11.setTop (mkF m 260 #[.val (.long p1), .second, .val (.long p2), .second, .val (.long p3), .second, .val (.long p4), .second, .val (.long p5), .second, .val (.int p6), .val (.long x11), .second, .val (.long x13), .second, .val (.long x15), .second, .val (.long x17), .second, .val (.long x19), .second, .val (.ref b_7), .val (.ref b_10), .val (.int x23), .val (.int (1 : Int32)), .val (.ref sb_1), .unset] [(.long ((x11.toUInt64 >>> ((45 : Int32) &&& 0x3f).toInt64.toUInt64).toInt64)), (.int (chF (0 : Int32) (wrL ((x11 <<< ((16 : Int32) &&& 0x3f).toInt64) ||| x13) p3 cs fo) cs fo))])) _
      refine st12.trans ?_
      exact kt
    have hd26 : (chF (0 : Int32) (wrL ((x11 <<< ((16 : Int32) &&& 0x3f).toInt64) ||| x13) p3 cs fo) cs fo) = (digF ((x11.toUInt64 >>> ((45 : Int32) &&& 0x3f).toInt64.toUInt64).toInt64) cs fo) := own_cc (idx := ((((((x11 <<< ((16 : Int32) &&& 0x3f).toInt64) ||| x13).toUInt64 >>> ((61 : Int32) &&& 0x3f).toInt64.toUInt64).toInt64).toInt32) &&& (31 : Int32))) own_wL0 (own_m31 _) (own_x0 (p3 := p3) h11 h13)
    obtain ⟨cq27, kq27, q27a, q27b, q27c⟩ := isOf hZ rfl (G22 : Exa Z T12.heap sb_1 "java/lang/String")
    obtain ⟨_, _, ⟨T27, L27, k27, n27⟩, -, X27, ⟨Lc27, hQ27, l27, y27, z27⟩, st27⟩ := X12.virtualBack hx (y := (⟨"java/lang/String", "charAt", "(I)C"⟩ : MethodName)) (z := (⟨"java/lang/String", "charAt", "(I)C"⟩ : MethodName)) hown (mvT hZ (hw _ (List.mem_of_getElem? (i := 119) rfl))) (mvT hZ (hw _ (List.mem_of_getElem? (i := 66) rfl))) (notFace_of_selects (args := #[]) (mvT hZ (hw _ (List.mem_of_getElem? (i := 68) rfl)))) (mvT hZ (hw _ (List.mem_of_getElem? (i := 68) rfl))) (mvT hZ (hw _ (List.mem_of_getElem? (i := 67) rfl))) (by decide) (backOf (W := 0) (rm_chF l Z a0 hw [] sb_1 (9 : Int32) bb_1 (wrL ((x11 <<< ((16 : Int32) &&& 0x3f).toInt64) ||| x13) p3 cs fo) cs fo T12.heap n0 Z12 G22 G23 G24 G25 G13 G14 hcs hfo (own_w26 (hi := ((x11 <<< ((16 : Int32) &&& 0x3f).toInt64) ||| x13)) (lo := p3) (cs := cs) (fo := fo) (by decide)).1 (own_w26 (hi := ((x11 <<< ((16 : Int32) &&& 0x3f).toInt64) ||| x13)) (lo := p3) (cs := cs) (fo := fo) (by decide)).2.1 (own_w26 (hi := ((x11 <<< ((16 : Int32) &&& 0x3f).toInt64) ||| x13)) (lo := p3) (cs := cs) (fo := fo) (by decide)).2.2) hZ (hw _ (List.mem_of_getElem? (i := 69) rfl)) (hw _ (List.mem_of_getElem? (i := 58) rfl)) (by decide) (by decide)) q27a q27c (g := (mkF m 270 #[.val (.long p1), .second, .val (.long p2), .second, .val (.long p3), .second, .val (.long p4), .second, .val (.long p5), .second, .val (.int p6), .val (.long x11), .second, .val (.long x13), .second, .val (.long x15), .second, .val (.long x17), .second, .val (.long x19), .second, .val (.ref b_7), .val (.ref b_10), .val (.int x23), .val (.int (1 : Int32)), .val (.ref sb_1), .unset] [(.int (9 : Int32)), (.ref sb_1)])) rfl (by rw [hml]; rfl) (Steps.refl _) (argsL := [(.int (9 : Int32))]) (rest := []) (lenOf pd_11 rfl) rfl (by show 2 * 0 + _ ≤ _; exact Nat.le_of_eq rfl) (hb hby at_270) (fun _ _ => ⟨rfl, rfl, (Nat.le_trans (Nat.add_le_add_right (Nat.add_le_add_right (Nat.add_le_add_right (Nat.add_le_add_right (Nat.add_le_add_right hcl 5) 0) 0) 2) 0) (by decide)), (Nat.le_trans (Nat.add_le_add_right (Nat.add_le_add_right (Nat.add_le_add_right (Nat.add_le_add_right (Nat.add_le_add_right hsl 188) 0) 0) 132) 0) (by decide))⟩)
    dsimp only [Pt.U, Pt.locs, Pt.cells, Pt.slots] at X27 l27 y27 z27 st27 hQ27
    subst l27 y27 z27
    obtain ⟨rfl, N27q, e27⟩ := hQ27
    have N27 := Fr.app N12 N27q
    have hZ28 := hZ
    have hown28 := hown
    obtain ⟨_, _, ⟨T29, L29, k29, n29⟩, -, X29, hT29, hg29, ⟨Lc29, hQ29, l29, y29, z29, hR29⟩, st29⟩ := callSS X27 hx (y := (⟨"com/example/lane4/lane4/model/JobIdOfPinLaw", "digit", "(J)C"⟩ : MethodName)) hown (mvT hZ (hw _ (List.mem_of_getElem? (i := 120) rfl))) (mvT hZ (hw _ (List.mem_of_getElem? (i := 121) rfl))) (mvT hZ (hw _ (List.mem_of_getElem? (i := 20) rfl))) (mvT hZ (hw _ (List.mem_of_getElem? (i := 122) rfl))) (by decide) (backOfSH (W := 1) (rm_digF l Z a0 hw [] (x11 &&& (31 : Int64)) cs fo T12.heap n0 Z12 G13 G14 hcs hfo) hZ (hw _ (List.mem_of_getElem? (i := 122) rfl)) (hw _ (List.mem_of_getElem? (i := 20) rfl)) (by decide) (by decide) hEL HC12.1) (g := (mkF m 279 #[.val (.long p1), .second, .val (.long p2), .second, .val (.long p3), .second, .val (.long p4), .second, .val (.long p5), .second, .val (.int p6), .val (.long x11), .second, .val (.long x13), .second, .val (.long x15), .second, .val (.long x17), .second, .val (.long x19), .second, .val (.ref b_7), .val (.ref b_10), .val (.int x23), .val (.int (1 : Int32)), .val (.ref sb_1), .unset] [(.long (x11 &&& (31 : Int64))), (.int (chF (9 : Int32) (wrL ((x11 <<< ((16 : Int32) &&& 0x3f).toInt64) ||| x13) p3 cs fo) cs fo))])) rfl (by rw [hml]; rfl) (argsL := [(.long (x11 &&& (31 : Int64)))]) (rest := [(.int (chF (9 : Int32) (wrL ((x11 <<< ((16 : Int32) &&& 0x3f).toInt64) ||| x13) p3 cs fo) cs fo))]) (lenOf pd_20 rfl) rfl (by show 2 * 0 + _ ≤ _; exact Nat.le_of_eq rfl) (hb hby at_279) (fun _ _ => ⟨rfl, e27, (Nat.le_trans (Nat.add_le_add_right (Nat.add_le_add_right (Nat.add_le_add_right (Nat.add_le_add_right (Nat.add_le_add_right (Nat.add_le_add_right hcl 5) 0) 0) 2) 0) 2) (by decide)), (Nat.le_trans (Nat.add_le_add_right (Nat.add_le_add_right (Nat.add_le_add_right (Nat.add_le_add_right (Nat.add_le_add_right (Nat.add_le_add_right hsl 188) 0) 0) 132) 0) 132) (by decide))⟩)
    dsimp only [Pt.U, Pt.locs, Pt.cells, Pt.slots] at X29 l29 y29 z29 st29 hQ29 hT29 hg29 hR29
    subst l29 y29 z29
    obtain ⟨X29, hS29, hZ, hown⟩ := rebS hS12 (by rw [e27]; exact hk12 : _ ≤ T27.heap.size) X29 hT29 hg29 hZ hown
    have HC29 := HC12.trans hR29
    have hk29 : T29.heap.size ≤ T29.heap.size := Nat.le_refl _
    obtain ⟨rfl, N29q, Kq29⟩ := hQ29
    have G30 : Sta Z T29.heap "java/lang/String" "COMPACT_STRINGS" "Z" (.int cs) := G13.keep0 Kq29
    have G31 : Sta Z T29.heap "jdk/internal/util/Preconditions" "SIOOBE_FORMATTER" "Ljava/util/function/BiFunction;" fo := G14.keep0 Kq29
    have G32 : Exa Z T29.heap b_7 "com/example/lane4/lane4/model/JobId" := Exa.keep G15 Kq29
    have G33 : Fld Z T29.heap b_7 "com/example/lane4/lane4/model/JobId" "high" "J" (.long ((x11 <<< ((16 : Int32) &&& 0x3f).toInt64) ||| x13)) := G16.keep Kq29 nin0
    have G34 : Fld Z T29.heap b_7 "com/example/lane4/lane4/model/JobId" "low" "J" (.long p3) := G17.keep Kq29 nin0
    have G35 : Exa Z T29.heap b_10 "com/example/lane4/lane4/model/JobId" := Exa.keep G18 Kq29
    have G36 : Fld Z T29.heap b_10 "com/example/lane4/lane4/model/JobId" "high" "J" (.long ((x15 <<< ((16 : Int32) &&& 0x3f).toInt64) ||| x17)) := G19.keep Kq29 nin0
    have G37 : Fld Z T29.heap b_10 "com/example/lane4/lane4/model/JobId" "low" "J" (.long x19) := G20.keep Kq29 nin0
    have G38 : Fld Z T29.heap b_10 "com/example/lane4/lane4/model/JobId" "text" "Ljava/lang/String;" .null := G21.keep Kq29 nin0
    have G39 : Exa Z T29.heap sb_1 "java/lang/String" := Exa.keep G22 Kq29
    have G40 : Fld Z T29.heap sb_1 "java/lang/String" "value" "[B" (.ref bb_1) := G23.keep Kq29 nin0
    have G41 : Fld Z T29.heap sb_1 "java/lang/String" "coder" "B" (.int (0 : Int32)) := G24.keep Kq29 nin0
    have G42 : VA Z T29.heap bb_1 .byte ((wrL ((x11 <<< ((16 : Int32) &&& 0x3f).toInt64) ||| x13) p3 cs fo).map Value.int) := G25.keep Kq29 nin0
    have K29 : Keep h0 T29.heap [] := Keep.trans K12 Kq29 all0
    have Z29 : n0 ≤ T29.heap.size := Nat.le_trans Z0 K29.1
    have N29 := Fr.app N27 N29q
    refine GoC.step (T' := T29) (f' := (mkF m 282 #[.val (.long p1), .second, .val (.long p2), .second, .val (.long p3), .second, .val (.long p4), .second, .val (.long p5), .second, .val (.int p6), .val (.long x11), .second, .val (.long x13), .second, .val (.long x15), .second, .val (.long x17), .second, .val (.long x19), .second, .val (.ref b_7), .val (.ref b_10), .val (.int x23), .val (.int (1 : Int32)), .val (.ref sb_1), .unset] [(.int (digF (x11 &&& (31 : Int64)) cs fo)), (.int (chF (9 : Int32) (wrL ((x11 <<< ((16 : Int32) &&& 0x3f).toInt64) ||| x13) p3 cs fo) cs fo))])) (fun t kt => ?_) ?_
    · show Steps p.tables e below (T12.setTop (mkF m 263 #[.val (.long p1), .second, .val (.long p2), .second, .val (.long p3), .second, .val (.long p4), .second, .val (.long p5), .second, .val (.int p6), .val (.long x11), .second, .val (.long x13), .second, .val (.long x15), .second, .val (.long x17), .second, .val (.long x19), .second, .val (.ref b_7), .val (.ref b_10), .val (.int x23), .val (.int (1 : Int32)), .val (.ref sb_1), .unset] [(.int (digF ((x11.toUInt64 >>> ((45 : Int32) &&& 0x3f).toInt64.toUInt64).toInt64) cs fo)), (.int (chF (0 : Int32) (wrL ((x11 <<< ((16 : Int32) &&& 0x3f).toInt64) ||| x13) p3 cs fo) cs fo))])) _
      refine XS.icmpNo X12.here hx rfl (hb hby at_263) rfl (teq hd26).2 ?_
      show Steps p.tables e below (T12.setTop (mkF m 266 #[.val (.long p1), .second, .val (.long p2), .second, .val (.long p3), .second, .val (.long p4), .second, .val (.long p5), .second, .val (.int p6), .val (.long x11), .second, .val (.long x13), .second, .val (.long x15), .second, .val (.long x17), .second, .val (.long x19), .second, .val (.ref b_7), .val (.ref b_10), .val (.int x23), .val (.int (1 : Int32)), .val (.ref sb_1), .unset] [])) _
      refine XS.aload X12.here hx rfl (hb hby at_266) rfl rfl ?_
      show Steps p.tables e below (T12.setTop (mkF m 268 #[.val (.long p1), .second, .val (.long p2), .second, .val (.long p3), .second, .val (.long p4), .second, .val (.long p5), .second, .val (.int p6), .val (.long x11), .second, .val (.long x13), .second, .val (.long x15), .second, .val (.long x17), .second, .val (.long x19), .second, .val (.ref b_7), .val (.ref b_10), .val (.int x23), .val (.int (1 : Int32)), .val (.ref sb_1), .unset] [(.ref sb_1)])) _
      refine XS.bipush X12.here hx rfl (hb hby at_268) ?_
      show Steps p.tables e below (T12.setTop (mkF m 270 #[.val (.long p1), .second, .val (.long p2), .second, .val (.long p3), .second, .val (.long p4), .second, .val (.long p5), .second, .val (.int p6), .val (.long x11), .second, .val (.long x13), .second, .val (.long x15), .second, .val (.long x17), .second, .val (.long x19), .second, .val (.ref b_7), .val (.ref b_10), .val (.int x23), .val (.int (1 : Int32)), .val (.ref sb_1), .unset] [(.int (9 : Int32)), (.ref sb_1)])) _
      refine st27.trans ?_
      show Steps p.tables e below (T27.setTop (mkF m 273 #[.val (.long p1), .second, .val (.long p2), .second, .val (.long p3), .second, .val (.long p4), .second, .val (.long p5), .second, .val (.int p6), .val (.long x11), .second, .val (.long x13), .second, .val (.long x15), .second, .val (.long x17), .second, .val (.long x19), .second, .val (.ref b_7), .val (.ref b_10), .val (.int x23), .val (.int (1 : Int32)), .val (.ref sb_1), .unset] [(.int (chF (9 : Int32) (wrL ((x11 <<< ((16 : Int32) &&& 0x3f).toInt64) ||| x13) p3 cs fo) cs fo))])) _
      refine XS.lload X27.here hx rfl (hb hby at_273) rfl ?_
      show Steps p.tables e below (T27.setTop (mkF m 275 #[.val (.long p1), .second, .val (.long p2), .second, .val (.long p3), .second, .val (.long p4), .second, .val (.long p5), .second, .val (.int p6), .val (.long x11), .second, .val (.long x13), .second, .val (.long x15), .second, .val (.long x17), .second, .val (.long x19), .second, .val (.ref b_7), .val (.ref b_10), .val (.int x23), .val (.int (1 : Int32)), .val (.ref sb_1), .unset] [(.long x11), (.int (chF (9 : Int32) (wrL ((x11 <<< ((16 : Int32) &&& 0x3f).toInt64) ||| x13) p3 cs fo) cs fo))])) _
      refine X27.ldc2Long hx hown28 (mvT hZ28 (hw _ (List.mem_of_getElem? (i := 124) rfl))) (g := (mkF m 275 #[.val (.long p1), .second, .val (.long p2), .second, .val (.long p3), .second, .val (.long p4), .second, .val (.long p5), .second, .val (.int p6), .val (.long x11), .second, .val (.long x13), .second, .val (.long x15), .second, .val (.long x17), .second, .val (.long x19), .second, .val (.ref b_7), .val (.ref b_10), .val (.int x23), .val (.int (1 : Int32)), .val (.ref sb_1), .unset] [(.long x11), (.int (chF (9 : Int32) (wrL ((x11 <<< ((16 : Int32) &&& 0x3f).toInt64) ||| x13) p3 cs fo) cs fo))])) rfl (hb hby at_275) _ ?_
      show Steps p.tables e below (T27.setTop (mkF m 278 #[.val (.long p1), .second, .val (.long p2), .second, .val (.long p3), .second, .val (.long p4), .second, .val (.long p5), .second, .val (.int p6), .val (.long x11), .second, .val (.long x13), .second, .val (.long x15), .second, .val (.long x17), .second, .val (.long x19), .second, .val (.ref b_7), .val (.ref b_10), .val (.int x23), .val (.int (1 : Int32)), .val (.ref sb_1), .unset] [(.long (31 : Int64)), (.long x11), (.int (chF (9 : Int32) (wrL ((x11 <<< ((16 : Int32) &&& 0x3f).toInt64) ||| x13) p3 cs fo) cs fo))])) _
      refine XS.land X27.here hx rfl (hb hby at_278) rfl ?_
      show Steps p.tables e below (T27.setTop (mkF m 279 #[.val (.long p1), .second, .val (.long p2), .second, .val (.long p3), .second, .val (.long p4), .second, .val (.long p5), .second, .val (.int p6), .val (.long x11), .second, .val (.long x13), .second, .val (.long x15), .second, .val (.long x17), .second, .val (.long x19), .second, .val (.ref b_7), .val (.ref b_10), .val (.int x23), .val (.int (1 : Int32)), .val (.ref sb_1), .unset] [(.long (x11 &&& (31 : Int64))), (.int (chF (9 : Int32) (wrL ((x11 <<< ((16 : Int32) &&& 0x3f).toInt64) ||| x13) p3 cs fo) cs fo))])) _
      refine st29.trans ?_
      exact kt
    have hd43 : (chF (9 : Int32) (wrL ((x11 <<< ((16 : Int32) &&& 0x3f).toInt64) ||| x13) p3 cs fo) cs fo) = (digF (x11 &&& (31 : Int64)) cs fo) := own_cc (idx := ((((((x11 <<< ((16 : Int32) &&& 0x3f).toInt64) ||| x13).toUInt64 >>> ((16 : Int32) &&& 0x3f).toInt64.toUInt64).toInt64).toInt32) &&& (31 : Int32))) own_wL9 (own_m31 _) (own_x9 (p3 := p3) h11 h13)
    obtain ⟨cq44, kq44, q44a, q44b, q44c⟩ := isOf hZ rfl (G39 : Exa Z T29.heap sb_1 "java/lang/String")
    obtain ⟨_, _, ⟨T44, L44, k44, n44⟩, -, X44, ⟨Lc44, hQ44, l44, y44, z44⟩, st44⟩ := X29.virtualBack hx (y := (⟨"java/lang/String", "charAt", "(I)C"⟩ : MethodName)) (z := (⟨"java/lang/String", "charAt", "(I)C"⟩ : MethodName)) hown (mvT hZ (hw _ (List.mem_of_getElem? (i := 119) rfl))) (mvT hZ (hw _ (List.mem_of_getElem? (i := 66) rfl))) (notFace_of_selects (args := #[]) (mvT hZ (hw _ (List.mem_of_getElem? (i := 68) rfl)))) (mvT hZ (hw _ (List.mem_of_getElem? (i := 68) rfl))) (mvT hZ (hw _ (List.mem_of_getElem? (i := 67) rfl))) (by decide) (backOf (W := 0) (rm_chF l Z a0 hw [] sb_1 (10 : Int32) bb_1 (wrL ((x11 <<< ((16 : Int32) &&& 0x3f).toInt64) ||| x13) p3 cs fo) cs fo T29.heap n0 Z29 G39 G40 G41 G42 G30 G31 hcs hfo (own_w26 (hi := ((x11 <<< ((16 : Int32) &&& 0x3f).toInt64) ||| x13)) (lo := p3) (cs := cs) (fo := fo) (by decide)).1 (own_w26 (hi := ((x11 <<< ((16 : Int32) &&& 0x3f).toInt64) ||| x13)) (lo := p3) (cs := cs) (fo := fo) (by decide)).2.1 (own_w26 (hi := ((x11 <<< ((16 : Int32) &&& 0x3f).toInt64) ||| x13)) (lo := p3) (cs := cs) (fo := fo) (by decide)).2.2) hZ (hw _ (List.mem_of_getElem? (i := 69) rfl)) (hw _ (List.mem_of_getElem? (i := 58) rfl)) (by decide) (by decide)) q44a q44c (g := (mkF m 289 #[.val (.long p1), .second, .val (.long p2), .second, .val (.long p3), .second, .val (.long p4), .second, .val (.long p5), .second, .val (.int p6), .val (.long x11), .second, .val (.long x13), .second, .val (.long x15), .second, .val (.long x17), .second, .val (.long x19), .second, .val (.ref b_7), .val (.ref b_10), .val (.int x23), .val (.int (1 : Int32)), .val (.ref sb_1), .unset] [(.int (10 : Int32)), (.ref sb_1)])) rfl (by rw [hml]; rfl) (Steps.refl _) (argsL := [(.int (10 : Int32))]) (rest := []) (lenOf pd_11 rfl) rfl (by show 2 * 0 + _ ≤ _; exact Nat.le_of_eq rfl) (hb hby at_289) (fun _ _ => ⟨rfl, rfl, (Nat.le_trans (Nat.add_le_add_right (Nat.add_le_add_right (Nat.add_le_add_right (Nat.add_le_add_right (Nat.add_le_add_right (Nat.add_le_add_right (Nat.add_le_add_right hcl 5) 0) 0) 2) 0) 2) 0) (by decide)), (Nat.le_trans (Nat.add_le_add_right (Nat.add_le_add_right (Nat.add_le_add_right (Nat.add_le_add_right (Nat.add_le_add_right (Nat.add_le_add_right (Nat.add_le_add_right hsl 188) 0) 0) 132) 0) 132) 0) (by decide))⟩)
    dsimp only [Pt.U, Pt.locs, Pt.cells, Pt.slots] at X44 l44 y44 z44 st44 hQ44
    subst l44 y44 z44
    obtain ⟨rfl, N44q, e44⟩ := hQ44
    have N44 := Fr.app N29 N44q
    obtain ⟨_, _, ⟨T45, L45, k45, n45⟩, -, X45, hT45, hg45, ⟨Lc45, hQ45, l45, y45, z45, hR45⟩, st45⟩ := callSS X44 hx (y := (⟨"com/example/lane4/lane4/model/JobIdOfPinLaw", "digit", "(J)C"⟩ : MethodName)) hown (mvT hZ (hw _ (List.mem_of_getElem? (i := 120) rfl))) (mvT hZ (hw _ (List.mem_of_getElem? (i := 121) rfl))) (mvT hZ (hw _ (List.mem_of_getElem? (i := 20) rfl))) (mvT hZ (hw _ (List.mem_of_getElem? (i := 122) rfl))) (by decide) (backOfSH (W := 1) (rm_digF l Z a0 hw [] ((x13.toUInt64 >>> ((11 : Int32) &&& 0x3f).toInt64.toUInt64).toInt64) cs fo T29.heap n0 Z29 G30 G31 hcs hfo) hZ (hw _ (List.mem_of_getElem? (i := 122) rfl)) (hw _ (List.mem_of_getElem? (i := 20) rfl)) (by decide) (by decide) hEL HC29.1) (g := (mkF m 297 #[.val (.long p1), .second, .val (.long p2), .second, .val (.long p3), .second, .val (.long p4), .second, .val (.long p5), .second, .val (.int p6), .val (.long x11), .second, .val (.long x13), .second, .val (.long x15), .second, .val (.long x17), .second, .val (.long x19), .second, .val (.ref b_7), .val (.ref b_10), .val (.int x23), .val (.int (1 : Int32)), .val (.ref sb_1), .unset] [(.long ((x13.toUInt64 >>> ((11 : Int32) &&& 0x3f).toInt64.toUInt64).toInt64)), (.int (chF (10 : Int32) (wrL ((x11 <<< ((16 : Int32) &&& 0x3f).toInt64) ||| x13) p3 cs fo) cs fo))])) rfl (by rw [hml]; rfl) (argsL := [(.long ((x13.toUInt64 >>> ((11 : Int32) &&& 0x3f).toInt64.toUInt64).toInt64))]) (rest := [(.int (chF (10 : Int32) (wrL ((x11 <<< ((16 : Int32) &&& 0x3f).toInt64) ||| x13) p3 cs fo) cs fo))]) (lenOf pd_20 rfl) rfl (by show 2 * 0 + _ ≤ _; exact Nat.le_of_eq rfl) (hb hby at_297) (fun _ _ => ⟨rfl, e44, (Nat.le_trans (Nat.add_le_add_right (Nat.add_le_add_right (Nat.add_le_add_right (Nat.add_le_add_right (Nat.add_le_add_right (Nat.add_le_add_right (Nat.add_le_add_right (Nat.add_le_add_right hcl 5) 0) 0) 2) 0) 2) 0) 2) (by decide)), (Nat.le_trans (Nat.add_le_add_right (Nat.add_le_add_right (Nat.add_le_add_right (Nat.add_le_add_right (Nat.add_le_add_right (Nat.add_le_add_right (Nat.add_le_add_right (Nat.add_le_add_right hsl 188) 0) 0) 132) 0) 132) 0) 132) (by decide))⟩)
    dsimp only [Pt.U, Pt.locs, Pt.cells, Pt.slots] at X45 l45 y45 z45 st45 hQ45 hT45 hg45 hR45
    subst l45 y45 z45
    obtain ⟨X45, hS45, hZ, hown⟩ := rebS hS29 (by rw [e44]; exact hk29 : _ ≤ T44.heap.size) X45 hT45 hg45 hZ hown
    have HC45 := HC29.trans hR45
    have hk45 : T45.heap.size ≤ T45.heap.size := Nat.le_refl _
    obtain ⟨rfl, N45q, Kq45⟩ := hQ45
    have G46 : Sta Z T45.heap "java/lang/String" "COMPACT_STRINGS" "Z" (.int cs) := G30.keep0 Kq45
    have G47 : Sta Z T45.heap "jdk/internal/util/Preconditions" "SIOOBE_FORMATTER" "Ljava/util/function/BiFunction;" fo := G31.keep0 Kq45
    have G48 : Exa Z T45.heap b_7 "com/example/lane4/lane4/model/JobId" := Exa.keep G32 Kq45
    have G49 : Fld Z T45.heap b_7 "com/example/lane4/lane4/model/JobId" "high" "J" (.long ((x11 <<< ((16 : Int32) &&& 0x3f).toInt64) ||| x13)) := G33.keep Kq45 nin0
    have G50 : Fld Z T45.heap b_7 "com/example/lane4/lane4/model/JobId" "low" "J" (.long p3) := G34.keep Kq45 nin0
    have G51 : Exa Z T45.heap b_10 "com/example/lane4/lane4/model/JobId" := Exa.keep G35 Kq45
    have G52 : Fld Z T45.heap b_10 "com/example/lane4/lane4/model/JobId" "high" "J" (.long ((x15 <<< ((16 : Int32) &&& 0x3f).toInt64) ||| x17)) := G36.keep Kq45 nin0
    have G53 : Fld Z T45.heap b_10 "com/example/lane4/lane4/model/JobId" "low" "J" (.long x19) := G37.keep Kq45 nin0
    have G54 : Fld Z T45.heap b_10 "com/example/lane4/lane4/model/JobId" "text" "Ljava/lang/String;" .null := G38.keep Kq45 nin0
    have G55 : Exa Z T45.heap sb_1 "java/lang/String" := Exa.keep G39 Kq45
    have G56 : Fld Z T45.heap sb_1 "java/lang/String" "value" "[B" (.ref bb_1) := G40.keep Kq45 nin0
    have G57 : Fld Z T45.heap sb_1 "java/lang/String" "coder" "B" (.int (0 : Int32)) := G41.keep Kq45 nin0
    have G58 : VA Z T45.heap bb_1 .byte ((wrL ((x11 <<< ((16 : Int32) &&& 0x3f).toInt64) ||| x13) p3 cs fo).map Value.int) := G42.keep Kq45 nin0
    have K45 : Keep h0 T45.heap [] := Keep.trans K29 Kq45 all0
    have Z45 : n0 ≤ T45.heap.size := Nat.le_trans Z0 K45.1
    have N45 := Fr.app N44 N45q
    refine GoC.step (T' := T45) (f' := (mkF m 300 #[.val (.long p1), .second, .val (.long p2), .second, .val (.long p3), .second, .val (.long p4), .second, .val (.long p5), .second, .val (.int p6), .val (.long x11), .second, .val (.long x13), .second, .val (.long x15), .second, .val (.long x17), .second, .val (.long x19), .second, .val (.ref b_7), .val (.ref b_10), .val (.int x23), .val (.int (1 : Int32)), .val (.ref sb_1), .unset] [(.int (digF ((x13.toUInt64 >>> ((11 : Int32) &&& 0x3f).toInt64.toUInt64).toInt64) cs fo)), (.int (chF (10 : Int32) (wrL ((x11 <<< ((16 : Int32) &&& 0x3f).toInt64) ||| x13) p3 cs fo) cs fo))])) (fun t kt => ?_) ?_
    · show Steps p.tables e below (T29.setTop (mkF m 282 #[.val (.long p1), .second, .val (.long p2), .second, .val (.long p3), .second, .val (.long p4), .second, .val (.long p5), .second, .val (.int p6), .val (.long x11), .second, .val (.long x13), .second, .val (.long x15), .second, .val (.long x17), .second, .val (.long x19), .second, .val (.ref b_7), .val (.ref b_10), .val (.int x23), .val (.int (1 : Int32)), .val (.ref sb_1), .unset] [(.int (digF (x11 &&& (31 : Int64)) cs fo)), (.int (chF (9 : Int32) (wrL ((x11 <<< ((16 : Int32) &&& 0x3f).toInt64) ||| x13) p3 cs fo) cs fo))])) _
      refine XS.icmpNo X29.here hx rfl (hb hby at_282) rfl (teq hd43).2 ?_
      show Steps p.tables e below (T29.setTop (mkF m 285 #[.val (.long p1), .second, .val (.long p2), .second, .val (.long p3), .second, .val (.long p4), .second, .val (.long p5), .second, .val (.int p6), .val (.long x11), .second, .val (.long x13), .second, .val (.long x15), .second, .val (.long x17), .second, .val (.long x19), .second, .val (.ref b_7), .val (.ref b_10), .val (.int x23), .val (.int (1 : Int32)), .val (.ref sb_1), .unset] [])) _
      refine XS.aload X29.here hx rfl (hb hby at_285) rfl rfl ?_
      show Steps p.tables e below (T29.setTop (mkF m 287 #[.val (.long p1), .second, .val (.long p2), .second, .val (.long p3), .second, .val (.long p4), .second, .val (.long p5), .second, .val (.int p6), .val (.long x11), .second, .val (.long x13), .second, .val (.long x15), .second, .val (.long x17), .second, .val (.long x19), .second, .val (.ref b_7), .val (.ref b_10), .val (.int x23), .val (.int (1 : Int32)), .val (.ref sb_1), .unset] [(.ref sb_1)])) _
      refine XS.bipush X29.here hx rfl (hb hby at_287) ?_
      show Steps p.tables e below (T29.setTop (mkF m 289 #[.val (.long p1), .second, .val (.long p2), .second, .val (.long p3), .second, .val (.long p4), .second, .val (.long p5), .second, .val (.int p6), .val (.long x11), .second, .val (.long x13), .second, .val (.long x15), .second, .val (.long x17), .second, .val (.long x19), .second, .val (.ref b_7), .val (.ref b_10), .val (.int x23), .val (.int (1 : Int32)), .val (.ref sb_1), .unset] [(.int (10 : Int32)), (.ref sb_1)])) _
      refine st44.trans ?_
      show Steps p.tables e below (T44.setTop (mkF m 292 #[.val (.long p1), .second, .val (.long p2), .second, .val (.long p3), .second, .val (.long p4), .second, .val (.long p5), .second, .val (.int p6), .val (.long x11), .second, .val (.long x13), .second, .val (.long x15), .second, .val (.long x17), .second, .val (.long x19), .second, .val (.ref b_7), .val (.ref b_10), .val (.int x23), .val (.int (1 : Int32)), .val (.ref sb_1), .unset] [(.int (chF (10 : Int32) (wrL ((x11 <<< ((16 : Int32) &&& 0x3f).toInt64) ||| x13) p3 cs fo) cs fo))])) _
      refine XS.lload X44.here hx rfl (hb hby at_292) rfl ?_
      show Steps p.tables e below (T44.setTop (mkF m 294 #[.val (.long p1), .second, .val (.long p2), .second, .val (.long p3), .second, .val (.long p4), .second, .val (.long p5), .second, .val (.int p6), .val (.long x11), .second, .val (.long x13), .second, .val (.long x15), .second, .val (.long x17), .second, .val (.long x19), .second, .val (.ref b_7), .val (.ref b_10), .val (.int x23), .val (.int (1 : Int32)), .val (.ref sb_1), .unset] [(.long x13), (.int (chF (10 : Int32) (wrL ((x11 <<< ((16 : Int32) &&& 0x3f).toInt64) ||| x13) p3 cs fo) cs fo))])) _
      refine XS.bipush X44.here hx rfl (hb hby at_294) ?_
      show Steps p.tables e below (T44.setTop (mkF m 296 #[.val (.long p1), .second, .val (.long p2), .second, .val (.long p3), .second, .val (.long p4), .second, .val (.long p5), .second, .val (.int p6), .val (.long x11), .second, .val (.long x13), .second, .val (.long x15), .second, .val (.long x17), .second, .val (.long x19), .second, .val (.ref b_7), .val (.ref b_10), .val (.int x23), .val (.int (1 : Int32)), .val (.ref sb_1), .unset] [(.int (11 : Int32)), (.long x13), (.int (chF (10 : Int32) (wrL ((x11 <<< ((16 : Int32) &&& 0x3f).toInt64) ||| x13) p3 cs fo) cs fo))])) _
      refine XS.lushr X44.here hx rfl (hb hby at_296) rfl ?_
      show Steps p.tables e below (T44.setTop (mkF m 297 #[.val (.long p1), .second, .val (.long p2), .second, .val (.long p3), .second, .val (.long p4), .second, .val (.long p5), .second, .val (.int p6), .val (.long x11), .second, .val (.long x13), .second, .val (.long x15), .second, .val (.long x17), .second, .val (.long x19), .second, .val (.ref b_7), .val (.ref b_10), .val (.int x23), .val (.int (1 : Int32)), .val (.ref sb_1), .unset] [(.long ((x13.toUInt64 >>> ((11 : Int32) &&& 0x3f).toInt64.toUInt64).toInt64)), (.int (chF (10 : Int32) (wrL ((x11 <<< ((16 : Int32) &&& 0x3f).toInt64) ||| x13) p3 cs fo) cs fo))])) _
      refine st45.trans ?_
      exact kt
    have hd59 : (chF (10 : Int32) (wrL ((x11 <<< ((16 : Int32) &&& 0x3f).toInt64) ||| x13) p3 cs fo) cs fo) = (digF ((x13.toUInt64 >>> ((11 : Int32) &&& 0x3f).toInt64.toUInt64).toInt64) cs fo) := own_cc (idx := ((((((x11 <<< ((16 : Int32) &&& 0x3f).toInt64) ||| x13).toUInt64 >>> ((11 : Int32) &&& 0x3f).toInt64.toUInt64).toInt64).toInt32) &&& (31 : Int32))) own_wL10 (own_m31 _) (own_x10 (p3 := p3) h11 h13)
    obtain ⟨cq60, kq60, q60a, q60b, q60c⟩ := isOf hZ rfl (G55 : Exa Z T45.heap sb_1 "java/lang/String")
    obtain ⟨_, _, ⟨T60, L60, k60, n60⟩, -, X60, ⟨Lc60, hQ60, l60, y60, z60⟩, st60⟩ := X45.virtualBack hx (y := (⟨"java/lang/String", "charAt", "(I)C"⟩ : MethodName)) (z := (⟨"java/lang/String", "charAt", "(I)C"⟩ : MethodName)) hown (mvT hZ (hw _ (List.mem_of_getElem? (i := 119) rfl))) (mvT hZ (hw _ (List.mem_of_getElem? (i := 66) rfl))) (notFace_of_selects (args := #[]) (mvT hZ (hw _ (List.mem_of_getElem? (i := 68) rfl)))) (mvT hZ (hw _ (List.mem_of_getElem? (i := 68) rfl))) (mvT hZ (hw _ (List.mem_of_getElem? (i := 67) rfl))) (by decide) (backOf (W := 0) (rm_chF l Z a0 hw [] sb_1 (12 : Int32) bb_1 (wrL ((x11 <<< ((16 : Int32) &&& 0x3f).toInt64) ||| x13) p3 cs fo) cs fo T45.heap n0 Z45 G55 G56 G57 G58 G46 G47 hcs hfo (own_w26 (hi := ((x11 <<< ((16 : Int32) &&& 0x3f).toInt64) ||| x13)) (lo := p3) (cs := cs) (fo := fo) (by decide)).1 (own_w26 (hi := ((x11 <<< ((16 : Int32) &&& 0x3f).toInt64) ||| x13)) (lo := p3) (cs := cs) (fo := fo) (by decide)).2.1 (own_w26 (hi := ((x11 <<< ((16 : Int32) &&& 0x3f).toInt64) ||| x13)) (lo := p3) (cs := cs) (fo := fo) (by decide)).2.2) hZ (hw _ (List.mem_of_getElem? (i := 69) rfl)) (hw _ (List.mem_of_getElem? (i := 58) rfl)) (by decide) (by decide)) q60a q60c (g := (mkF m 307 #[.val (.long p1), .second, .val (.long p2), .second, .val (.long p3), .second, .val (.long p4), .second, .val (.long p5), .second, .val (.int p6), .val (.long x11), .second, .val (.long x13), .second, .val (.long x15), .second, .val (.long x17), .second, .val (.long x19), .second, .val (.ref b_7), .val (.ref b_10), .val (.int x23), .val (.int (1 : Int32)), .val (.ref sb_1), .unset] [(.int (12 : Int32)), (.ref sb_1)])) rfl (by rw [hml]; rfl) (Steps.refl _) (argsL := [(.int (12 : Int32))]) (rest := []) (lenOf pd_11 rfl) rfl (by show 2 * 0 + _ ≤ _; exact Nat.le_of_eq rfl) (hb hby at_307) (fun _ _ => ⟨rfl, rfl, (Nat.le_trans (Nat.add_le_add_right (Nat.add_le_add_right (Nat.add_le_add_right (Nat.add_le_add_right (Nat.add_le_add_right (Nat.add_le_add_right (Nat.add_le_add_right (Nat.add_le_add_right (Nat.add_le_add_right hcl 5) 0) 0) 2) 0) 2) 0) 2) 0) (by decide)), (Nat.le_trans (Nat.add_le_add_right (Nat.add_le_add_right (Nat.add_le_add_right (Nat.add_le_add_right (Nat.add_le_add_right (Nat.add_le_add_right (Nat.add_le_add_right (Nat.add_le_add_right (Nat.add_le_add_right hsl 188) 0) 0) 132) 0) 132) 0) 132) 0) (by decide))⟩)
    dsimp only [Pt.U, Pt.locs, Pt.cells, Pt.slots] at X60 l60 y60 z60 st60 hQ60
    subst l60 y60 z60
    obtain ⟨rfl, N60q, e60⟩ := hQ60
    have N60 := Fr.app N45 N60q
    have hZ61 := hZ
    have hown61 := hown
    obtain ⟨_, _, ⟨T62, L62, k62, n62⟩, -, X62, hT62, hg62, ⟨Lc62, hQ62, l62, y62, z62, hR62⟩, st62⟩ := callSS X60 hx (y := (⟨"com/example/lane4/lane4/model/JobIdOfPinLaw", "digit", "(J)C"⟩ : MethodName)) hown (mvT hZ (hw _ (List.mem_of_getElem? (i := 120) rfl))) (mvT hZ (hw _ (List.mem_of_getElem? (i := 121) rfl))) (mvT hZ (hw _ (List.mem_of_getElem? (i := 20) rfl))) (mvT hZ (hw _ (List.mem_of_getElem? (i := 122) rfl))) (by decide) (backOfSH (W := 1) (rm_digF l Z a0 hw [] (((x13.toUInt64 >>> ((1 : Int32) &&& 0x3f).toInt64.toUInt64).toInt64) &&& (31 : Int64)) cs fo T45.heap n0 Z45 G46 G47 hcs hfo) hZ (hw _ (List.mem_of_getElem? (i := 122) rfl)) (hw _ (List.mem_of_getElem? (i := 20) rfl)) (by decide) (by decide) hEL HC45.1) (g := (mkF m 318 #[.val (.long p1), .second, .val (.long p2), .second, .val (.long p3), .second, .val (.long p4), .second, .val (.long p5), .second, .val (.int p6), .val (.long x11), .second, .val (.long x13), .second, .val (.long x15), .second, .val (.long x17), .second, .val (.long x19), .second, .val (.ref b_7), .val (.ref b_10), .val (.int x23), .val (.int (1 : Int32)), .val (.ref sb_1), .unset] [(.long (((x13.toUInt64 >>> ((1 : Int32) &&& 0x3f).toInt64.toUInt64).toInt64) &&& (31 : Int64))), (.int (chF (12 : Int32) (wrL ((x11 <<< ((16 : Int32) &&& 0x3f).toInt64) ||| x13) p3 cs fo) cs fo))])) rfl (by rw [hml]; rfl) (argsL := [(.long (((x13.toUInt64 >>> ((1 : Int32) &&& 0x3f).toInt64.toUInt64).toInt64) &&& (31 : Int64)))]) (rest := [(.int (chF (12 : Int32) (wrL ((x11 <<< ((16 : Int32) &&& 0x3f).toInt64) ||| x13) p3 cs fo) cs fo))]) (lenOf pd_20 rfl) rfl (by show 2 * 0 + _ ≤ _; exact Nat.le_of_eq rfl) (hb hby at_318) (fun _ _ => ⟨rfl, e60, (Nat.le_trans (Nat.add_le_add_right (Nat.add_le_add_right (Nat.add_le_add_right (Nat.add_le_add_right (Nat.add_le_add_right (Nat.add_le_add_right (Nat.add_le_add_right (Nat.add_le_add_right (Nat.add_le_add_right (Nat.add_le_add_right hcl 5) 0) 0) 2) 0) 2) 0) 2) 0) 2) (by decide)), (Nat.le_trans (Nat.add_le_add_right (Nat.add_le_add_right (Nat.add_le_add_right (Nat.add_le_add_right (Nat.add_le_add_right (Nat.add_le_add_right (Nat.add_le_add_right (Nat.add_le_add_right (Nat.add_le_add_right (Nat.add_le_add_right hsl 188) 0) 0) 132) 0) 132) 0) 132) 0) 132) (by decide))⟩)
    dsimp only [Pt.U, Pt.locs, Pt.cells, Pt.slots] at X62 l62 y62 z62 st62 hQ62 hT62 hg62 hR62
    subst l62 y62 z62
    obtain ⟨X62, hS62, hZ, hown⟩ := rebS hS45 (by rw [e60]; exact hk45 : _ ≤ T60.heap.size) X62 hT62 hg62 hZ hown
    have HC62 := HC45.trans hR62
    have hk62 : T62.heap.size ≤ T62.heap.size := Nat.le_refl _
    obtain ⟨rfl, N62q, Kq62⟩ := hQ62
    have G63 : Sta Z T62.heap "java/lang/String" "COMPACT_STRINGS" "Z" (.int cs) := G46.keep0 Kq62
    have G64 : Sta Z T62.heap "jdk/internal/util/Preconditions" "SIOOBE_FORMATTER" "Ljava/util/function/BiFunction;" fo := G47.keep0 Kq62
    have G65 : Exa Z T62.heap b_7 "com/example/lane4/lane4/model/JobId" := Exa.keep G48 Kq62
    have G66 : Fld Z T62.heap b_7 "com/example/lane4/lane4/model/JobId" "high" "J" (.long ((x11 <<< ((16 : Int32) &&& 0x3f).toInt64) ||| x13)) := G49.keep Kq62 nin0
    have G67 : Fld Z T62.heap b_7 "com/example/lane4/lane4/model/JobId" "low" "J" (.long p3) := G50.keep Kq62 nin0
    have G68 : Exa Z T62.heap b_10 "com/example/lane4/lane4/model/JobId" := Exa.keep G51 Kq62
    have G69 : Fld Z T62.heap b_10 "com/example/lane4/lane4/model/JobId" "high" "J" (.long ((x15 <<< ((16 : Int32) &&& 0x3f).toInt64) ||| x17)) := G52.keep Kq62 nin0
    have G70 : Fld Z T62.heap b_10 "com/example/lane4/lane4/model/JobId" "low" "J" (.long x19) := G53.keep Kq62 nin0
    have G71 : Fld Z T62.heap b_10 "com/example/lane4/lane4/model/JobId" "text" "Ljava/lang/String;" .null := G54.keep Kq62 nin0
    have G72 : Exa Z T62.heap sb_1 "java/lang/String" := Exa.keep G55 Kq62
    have G73 : Fld Z T62.heap sb_1 "java/lang/String" "value" "[B" (.ref bb_1) := G56.keep Kq62 nin0
    have G74 : Fld Z T62.heap sb_1 "java/lang/String" "coder" "B" (.int (0 : Int32)) := G57.keep Kq62 nin0
    have G75 : VA Z T62.heap bb_1 .byte ((wrL ((x11 <<< ((16 : Int32) &&& 0x3f).toInt64) ||| x13) p3 cs fo).map Value.int) := G58.keep Kq62 nin0
    have K62 : Keep h0 T62.heap [] := Keep.trans K45 Kq62 all0
    have Z62 : n0 ≤ T62.heap.size := Nat.le_trans Z0 K62.1
    have N62 := Fr.app N60 N62q
    refine GoC.step (T' := T62) (f' := (mkF m 321 #[.val (.long p1), .second, .val (.long p2), .second, .val (.long p3), .second, .val (.long p4), .second, .val (.long p5), .second, .val (.int p6), .val (.long x11), .second, .val (.long x13), .second, .val (.long x15), .second, .val (.long x17), .second, .val (.long x19), .second, .val (.ref b_7), .val (.ref b_10), .val (.int x23), .val (.int (1 : Int32)), .val (.ref sb_1), .unset] [(.int (digF (((x13.toUInt64 >>> ((1 : Int32) &&& 0x3f).toInt64.toUInt64).toInt64) &&& (31 : Int64)) cs fo)), (.int (chF (12 : Int32) (wrL ((x11 <<< ((16 : Int32) &&& 0x3f).toInt64) ||| x13) p3 cs fo) cs fo))])) (fun t kt => ?_) ?_
    · show Steps p.tables e below (T45.setTop (mkF m 300 #[.val (.long p1), .second, .val (.long p2), .second, .val (.long p3), .second, .val (.long p4), .second, .val (.long p5), .second, .val (.int p6), .val (.long x11), .second, .val (.long x13), .second, .val (.long x15), .second, .val (.long x17), .second, .val (.long x19), .second, .val (.ref b_7), .val (.ref b_10), .val (.int x23), .val (.int (1 : Int32)), .val (.ref sb_1), .unset] [(.int (digF ((x13.toUInt64 >>> ((11 : Int32) &&& 0x3f).toInt64.toUInt64).toInt64) cs fo)), (.int (chF (10 : Int32) (wrL ((x11 <<< ((16 : Int32) &&& 0x3f).toInt64) ||| x13) p3 cs fo) cs fo))])) _
      refine XS.icmpNo X45.here hx rfl (hb hby at_300) rfl (teq hd59).2 ?_
      show Steps p.tables e below (T45.setTop (mkF m 303 #[.val (.long p1), .second, .val (.long p2), .second, .val (.long p3), .second, .val (.long p4), .second, .val (.long p5), .second, .val (.int p6), .val (.long x11), .second, .val (.long x13), .second, .val (.long x15), .second, .val (.long x17), .second, .val (.long x19), .second, .val (.ref b_7), .val (.ref b_10), .val (.int x23), .val (.int (1 : Int32)), .val (.ref sb_1), .unset] [])) _
      refine XS.aload X45.here hx rfl (hb hby at_303) rfl rfl ?_
      show Steps p.tables e below (T45.setTop (mkF m 305 #[.val (.long p1), .second, .val (.long p2), .second, .val (.long p3), .second, .val (.long p4), .second, .val (.long p5), .second, .val (.int p6), .val (.long x11), .second, .val (.long x13), .second, .val (.long x15), .second, .val (.long x17), .second, .val (.long x19), .second, .val (.ref b_7), .val (.ref b_10), .val (.int x23), .val (.int (1 : Int32)), .val (.ref sb_1), .unset] [(.ref sb_1)])) _
      refine XS.bipush X45.here hx rfl (hb hby at_305) ?_
      show Steps p.tables e below (T45.setTop (mkF m 307 #[.val (.long p1), .second, .val (.long p2), .second, .val (.long p3), .second, .val (.long p4), .second, .val (.long p5), .second, .val (.int p6), .val (.long x11), .second, .val (.long x13), .second, .val (.long x15), .second, .val (.long x17), .second, .val (.long x19), .second, .val (.ref b_7), .val (.ref b_10), .val (.int x23), .val (.int (1 : Int32)), .val (.ref sb_1), .unset] [(.int (12 : Int32)), (.ref sb_1)])) _
      refine st60.trans ?_
      show Steps p.tables e below (T60.setTop (mkF m 310 #[.val (.long p1), .second, .val (.long p2), .second, .val (.long p3), .second, .val (.long p4), .second, .val (.long p5), .second, .val (.int p6), .val (.long x11), .second, .val (.long x13), .second, .val (.long x15), .second, .val (.long x17), .second, .val (.long x19), .second, .val (.ref b_7), .val (.ref b_10), .val (.int x23), .val (.int (1 : Int32)), .val (.ref sb_1), .unset] [(.int (chF (12 : Int32) (wrL ((x11 <<< ((16 : Int32) &&& 0x3f).toInt64) ||| x13) p3 cs fo) cs fo))])) _
      refine XS.lload X60.here hx rfl (hb hby at_310) rfl ?_
      show Steps p.tables e below (T60.setTop (mkF m 312 #[.val (.long p1), .second, .val (.long p2), .second, .val (.long p3), .second, .val (.long p4), .second, .val (.long p5), .second, .val (.int p6), .val (.long x11), .second, .val (.long x13), .second, .val (.long x15), .second, .val (.long x17), .second, .val (.long x19), .second, .val (.ref b_7), .val (.ref b_10), .val (.int x23), .val (.int (1 : Int32)), .val (.ref sb_1), .unset] [(.long x13), (.int (chF (12 : Int32) (wrL ((x11 <<< ((16 : Int32) &&& 0x3f).toInt64) ||| x13) p3 cs fo) cs fo))])) _
      refine XS.iconst X60.here hx rfl (hb hby at_312) ?_
      show Steps p.tables e below (T60.setTop (mkF m 313 #[.val (.long p1), .second, .val (.long p2), .second, .val (.long p3), .second, .val (.long p4), .second, .val (.long p5), .second, .val (.int p6), .val (.long x11), .second, .val (.long x13), .second, .val (.long x15), .second, .val (.long x17), .second, .val (.long x19), .second, .val (.ref b_7), .val (.ref b_10), .val (.int x23), .val (.int (1 : Int32)), .val (.ref sb_1), .unset] [(.int (1 : Int32)), (.long x13), (.int (chF (12 : Int32) (wrL ((x11 <<< ((16 : Int32) &&& 0x3f).toInt64) ||| x13) p3 cs fo) cs fo))])) _
      refine XS.lushr X60.here hx rfl (hb hby at_313) rfl ?_
      show Steps p.tables e below (T60.setTop (mkF m 314 #[.val (.long p1), .second, .val (.long p2), .second, .val (.long p3), .second, .val (.long p4), .second, .val (.long p5), .second, .val (.int p6), .val (.long x11), .second, .val (.long x13), .second, .val (.long x15), .second, .val (.long x17), .second, .val (.long x19), .second, .val (.ref b_7), .val (.ref b_10), .val (.int x23), .val (.int (1 : Int32)), .val (.ref sb_1), .unset] [(.long ((x13.toUInt64 >>> ((1 : Int32) &&& 0x3f).toInt64.toUInt64).toInt64)), (.int (chF (12 : Int32) (wrL ((x11 <<< ((16 : Int32) &&& 0x3f).toInt64) ||| x13) p3 cs fo) cs fo))])) _
      refine X60.ldc2Long hx hown61 (mvT hZ61 (hw _ (List.mem_of_getElem? (i := 124) rfl))) (g := (mkF m 314 #[.val (.long p1), .second, .val (.long p2), .second, .val (.long p3), .second, .val (.long p4), .second, .val (.long p5), .second, .val (.int p6), .val (.long x11), .second, .val (.long x13), .second, .val (.long x15), .second, .val (.long x17), .second, .val (.long x19), .second, .val (.ref b_7), .val (.ref b_10), .val (.int x23), .val (.int (1 : Int32)), .val (.ref sb_1), .unset] [(.long ((x13.toUInt64 >>> ((1 : Int32) &&& 0x3f).toInt64.toUInt64).toInt64)), (.int (chF (12 : Int32) (wrL ((x11 <<< ((16 : Int32) &&& 0x3f).toInt64) ||| x13) p3 cs fo) cs fo))])) rfl (hb hby at_314) _ ?_
      show Steps p.tables e below (T60.setTop (mkF m 317 #[.val (.long p1), .second, .val (.long p2), .second, .val (.long p3), .second, .val (.long p4), .second, .val (.long p5), .second, .val (.int p6), .val (.long x11), .second, .val (.long x13), .second, .val (.long x15), .second, .val (.long x17), .second, .val (.long x19), .second, .val (.ref b_7), .val (.ref b_10), .val (.int x23), .val (.int (1 : Int32)), .val (.ref sb_1), .unset] [(.long (31 : Int64)), (.long ((x13.toUInt64 >>> ((1 : Int32) &&& 0x3f).toInt64.toUInt64).toInt64)), (.int (chF (12 : Int32) (wrL ((x11 <<< ((16 : Int32) &&& 0x3f).toInt64) ||| x13) p3 cs fo) cs fo))])) _
      refine XS.land X60.here hx rfl (hb hby at_317) rfl ?_
      show Steps p.tables e below (T60.setTop (mkF m 318 #[.val (.long p1), .second, .val (.long p2), .second, .val (.long p3), .second, .val (.long p4), .second, .val (.long p5), .second, .val (.int p6), .val (.long x11), .second, .val (.long x13), .second, .val (.long x15), .second, .val (.long x17), .second, .val (.long x19), .second, .val (.ref b_7), .val (.ref b_10), .val (.int x23), .val (.int (1 : Int32)), .val (.ref sb_1), .unset] [(.long (((x13.toUInt64 >>> ((1 : Int32) &&& 0x3f).toInt64.toUInt64).toInt64) &&& (31 : Int64))), (.int (chF (12 : Int32) (wrL ((x11 <<< ((16 : Int32) &&& 0x3f).toInt64) ||| x13) p3 cs fo) cs fo))])) _
      refine st62.trans ?_
      exact kt
    have hd76 : (chF (12 : Int32) (wrL ((x11 <<< ((16 : Int32) &&& 0x3f).toInt64) ||| x13) p3 cs fo) cs fo) = (digF (((x13.toUInt64 >>> ((1 : Int32) &&& 0x3f).toInt64.toUInt64).toInt64) &&& (31 : Int64)) cs fo) := own_cc (idx := ((((((x11 <<< ((16 : Int32) &&& 0x3f).toInt64) ||| x13).toUInt64 >>> ((1 : Int32) &&& 0x3f).toInt64.toUInt64).toInt64).toInt32) &&& (31 : Int32))) own_wL12 (own_m31 _) (own_x12 (p3 := p3) h11 h13)
    obtain ⟨cq77, kq77, q77a, q77b, q77c⟩ := isOf hZ rfl (G72 : Exa Z T62.heap sb_1 "java/lang/String")
    obtain ⟨_, _, ⟨T77, L77, k77, n77⟩, -, X77, ⟨Lc77, hQ77, l77, y77, z77⟩, st77⟩ := X62.virtualBack hx (y := (⟨"java/lang/String", "charAt", "(I)C"⟩ : MethodName)) (z := (⟨"java/lang/String", "charAt", "(I)C"⟩ : MethodName)) hown (mvT hZ (hw _ (List.mem_of_getElem? (i := 119) rfl))) (mvT hZ (hw _ (List.mem_of_getElem? (i := 66) rfl))) (notFace_of_selects (args := #[]) (mvT hZ (hw _ (List.mem_of_getElem? (i := 68) rfl)))) (mvT hZ (hw _ (List.mem_of_getElem? (i := 68) rfl))) (mvT hZ (hw _ (List.mem_of_getElem? (i := 67) rfl))) (by decide) (backOf (W := 0) (rm_chF l Z a0 hw [] sb_1 (13 : Int32) bb_1 (wrL ((x11 <<< ((16 : Int32) &&& 0x3f).toInt64) ||| x13) p3 cs fo) cs fo T62.heap n0 Z62 G72 G73 G74 G75 G63 G64 hcs hfo (own_w26 (hi := ((x11 <<< ((16 : Int32) &&& 0x3f).toInt64) ||| x13)) (lo := p3) (cs := cs) (fo := fo) (by decide)).1 (own_w26 (hi := ((x11 <<< ((16 : Int32) &&& 0x3f).toInt64) ||| x13)) (lo := p3) (cs := cs) (fo := fo) (by decide)).2.1 (own_w26 (hi := ((x11 <<< ((16 : Int32) &&& 0x3f).toInt64) ||| x13)) (lo := p3) (cs := cs) (fo := fo) (by decide)).2.2) hZ (hw _ (List.mem_of_getElem? (i := 69) rfl)) (hw _ (List.mem_of_getElem? (i := 58) rfl)) (by decide) (by decide)) q77a q77c (g := (mkF m 328 #[.val (.long p1), .second, .val (.long p2), .second, .val (.long p3), .second, .val (.long p4), .second, .val (.long p5), .second, .val (.int p6), .val (.long x11), .second, .val (.long x13), .second, .val (.long x15), .second, .val (.long x17), .second, .val (.long x19), .second, .val (.ref b_7), .val (.ref b_10), .val (.int x23), .val (.int (1 : Int32)), .val (.ref sb_1), .unset] [(.int (13 : Int32)), (.ref sb_1)])) rfl (by rw [hml]; rfl) (Steps.refl _) (argsL := [(.int (13 : Int32))]) (rest := []) (lenOf pd_11 rfl) rfl (by show 2 * 0 + _ ≤ _; exact Nat.le_of_eq rfl) (hb hby at_328) (fun _ _ => ⟨rfl, rfl, (Nat.le_trans (Nat.add_le_add_right (Nat.add_le_add_right (Nat.add_le_add_right (Nat.add_le_add_right (Nat.add_le_add_right (Nat.add_le_add_right (Nat.add_le_add_right (Nat.add_le_add_right (Nat.add_le_add_right (Nat.add_le_add_right (Nat.add_le_add_right hcl 5) 0) 0) 2) 0) 2) 0) 2) 0) 2) 0) (by decide)), (Nat.le_trans (Nat.add_le_add_right (Nat.add_le_add_right (Nat.add_le_add_right (Nat.add_le_add_right (Nat.add_le_add_right (Nat.add_le_add_right (Nat.add_le_add_right (Nat.add_le_add_right (Nat.add_le_add_right (Nat.add_le_add_right (Nat.add_le_add_right hsl 188) 0) 0) 132) 0) 132) 0) 132) 0) 132) 0) (by decide))⟩)
    dsimp only [Pt.U, Pt.locs, Pt.cells, Pt.slots] at X77 l77 y77 z77 st77 hQ77
    subst l77 y77 z77
    obtain ⟨rfl, N77q, e77⟩ := hQ77
    have N77 := Fr.app N62 N77q
    obtain ⟨_, _, ⟨T78, L78, k78, n78⟩, -, X78, hT78, hg78, ⟨Lc78, hQ78, l78, y78, z78, hR78⟩, st78⟩ := callSS X77 hx (y := (⟨"com/example/lane4/lane4/model/JobIdOfPinLaw", "digit", "(J)C"⟩ : MethodName)) hown (mvT hZ (hw _ (List.mem_of_getElem? (i := 120) rfl))) (mvT hZ (hw _ (List.mem_of_getElem? (i := 121) rfl))) (mvT hZ (hw _ (List.mem_of_getElem? (i := 20) rfl))) (mvT hZ (hw _ (List.mem_of_getElem? (i := 122) rfl))) (by decide) (backOfSH (W := 1) (rm_digF l Z a0 hw [] (((x13 &&& (1 : Int64)) <<< ((4 : Int32) &&& 0x3f).toInt64) ||| ((p3.toUInt64 >>> ((60 : Int32) &&& 0x3f).toInt64.toUInt64).toInt64)) cs fo T62.heap n0 Z62 G63 G64 hcs hfo) hZ (hw _ (List.mem_of_getElem? (i := 122) rfl)) (hw _ (List.mem_of_getElem? (i := 20) rfl)) (by decide) (by decide) hEL HC62.1) (g := (mkF m 343 #[.val (.long p1), .second, .val (.long p2), .second, .val (.long p3), .second, .val (.long p4), .second, .val (.long p5), .second, .val (.int p6), .val (.long x11), .second, .val (.long x13), .second, .val (.long x15), .second, .val (.long x17), .second, .val (.long x19), .second, .val (.ref b_7), .val (.ref b_10), .val (.int x23), .val (.int (1 : Int32)), .val (.ref sb_1), .unset] [(.long (((x13 &&& (1 : Int64)) <<< ((4 : Int32) &&& 0x3f).toInt64) ||| ((p3.toUInt64 >>> ((60 : Int32) &&& 0x3f).toInt64.toUInt64).toInt64))), (.int (chF (13 : Int32) (wrL ((x11 <<< ((16 : Int32) &&& 0x3f).toInt64) ||| x13) p3 cs fo) cs fo))])) rfl (by rw [hml]; rfl) (argsL := [(.long (((x13 &&& (1 : Int64)) <<< ((4 : Int32) &&& 0x3f).toInt64) ||| ((p3.toUInt64 >>> ((60 : Int32) &&& 0x3f).toInt64.toUInt64).toInt64)))]) (rest := [(.int (chF (13 : Int32) (wrL ((x11 <<< ((16 : Int32) &&& 0x3f).toInt64) ||| x13) p3 cs fo) cs fo))]) (lenOf pd_20 rfl) rfl (by show 2 * 0 + _ ≤ _; exact Nat.le_of_eq rfl) (hb hby at_343) (fun _ _ => ⟨rfl, e77, (Nat.le_trans (Nat.add_le_add_right (Nat.add_le_add_right (Nat.add_le_add_right (Nat.add_le_add_right (Nat.add_le_add_right (Nat.add_le_add_right (Nat.add_le_add_right (Nat.add_le_add_right (Nat.add_le_add_right (Nat.add_le_add_right (Nat.add_le_add_right (Nat.add_le_add_right hcl 5) 0) 0) 2) 0) 2) 0) 2) 0) 2) 0) 2) (by decide)), (Nat.le_trans (Nat.add_le_add_right (Nat.add_le_add_right (Nat.add_le_add_right (Nat.add_le_add_right (Nat.add_le_add_right (Nat.add_le_add_right (Nat.add_le_add_right (Nat.add_le_add_right (Nat.add_le_add_right (Nat.add_le_add_right (Nat.add_le_add_right (Nat.add_le_add_right hsl 188) 0) 0) 132) 0) 132) 0) 132) 0) 132) 0) 132) (by decide))⟩)
    dsimp only [Pt.U, Pt.locs, Pt.cells, Pt.slots] at X78 l78 y78 z78 st78 hQ78 hT78 hg78 hR78
    subst l78 y78 z78
    obtain ⟨X78, hS78, hZ, hown⟩ := rebS hS62 (by rw [e77]; exact hk62 : _ ≤ T77.heap.size) X78 hT78 hg78 hZ hown
    have HC78 := HC62.trans hR78
    have hk78 : T78.heap.size ≤ T78.heap.size := Nat.le_refl _
    obtain ⟨rfl, N78q, Kq78⟩ := hQ78
    have G79 : Sta Z T78.heap "java/lang/String" "COMPACT_STRINGS" "Z" (.int cs) := G63.keep0 Kq78
    have G80 : Sta Z T78.heap "jdk/internal/util/Preconditions" "SIOOBE_FORMATTER" "Ljava/util/function/BiFunction;" fo := G64.keep0 Kq78
    have G81 : Exa Z T78.heap b_7 "com/example/lane4/lane4/model/JobId" := Exa.keep G65 Kq78
    have G82 : Fld Z T78.heap b_7 "com/example/lane4/lane4/model/JobId" "high" "J" (.long ((x11 <<< ((16 : Int32) &&& 0x3f).toInt64) ||| x13)) := G66.keep Kq78 nin0
    have G83 : Fld Z T78.heap b_7 "com/example/lane4/lane4/model/JobId" "low" "J" (.long p3) := G67.keep Kq78 nin0
    have G84 : Exa Z T78.heap b_10 "com/example/lane4/lane4/model/JobId" := Exa.keep G68 Kq78
    have G85 : Fld Z T78.heap b_10 "com/example/lane4/lane4/model/JobId" "high" "J" (.long ((x15 <<< ((16 : Int32) &&& 0x3f).toInt64) ||| x17)) := G69.keep Kq78 nin0
    have G86 : Fld Z T78.heap b_10 "com/example/lane4/lane4/model/JobId" "low" "J" (.long x19) := G70.keep Kq78 nin0
    have G87 : Fld Z T78.heap b_10 "com/example/lane4/lane4/model/JobId" "text" "Ljava/lang/String;" .null := G71.keep Kq78 nin0
    have G88 : Exa Z T78.heap sb_1 "java/lang/String" := Exa.keep G72 Kq78
    have G89 : Fld Z T78.heap sb_1 "java/lang/String" "value" "[B" (.ref bb_1) := G73.keep Kq78 nin0
    have G90 : Fld Z T78.heap sb_1 "java/lang/String" "coder" "B" (.int (0 : Int32)) := G74.keep Kq78 nin0
    have G91 : VA Z T78.heap bb_1 .byte ((wrL ((x11 <<< ((16 : Int32) &&& 0x3f).toInt64) ||| x13) p3 cs fo).map Value.int) := G75.keep Kq78 nin0
    have K78 : Keep h0 T78.heap [] := Keep.trans K62 Kq78 all0
    have Z78 : n0 ≤ T78.heap.size := Nat.le_trans Z0 K78.1
    have N78 := Fr.app N77 N78q
    refine GoC.step (T' := T78) (f' := (mkF m 346 #[.val (.long p1), .second, .val (.long p2), .second, .val (.long p3), .second, .val (.long p4), .second, .val (.long p5), .second, .val (.int p6), .val (.long x11), .second, .val (.long x13), .second, .val (.long x15), .second, .val (.long x17), .second, .val (.long x19), .second, .val (.ref b_7), .val (.ref b_10), .val (.int x23), .val (.int (1 : Int32)), .val (.ref sb_1), .unset] [(.int (digF (((x13 &&& (1 : Int64)) <<< ((4 : Int32) &&& 0x3f).toInt64) ||| ((p3.toUInt64 >>> ((60 : Int32) &&& 0x3f).toInt64.toUInt64).toInt64)) cs fo)), (.int (chF (13 : Int32) (wrL ((x11 <<< ((16 : Int32) &&& 0x3f).toInt64) ||| x13) p3 cs fo) cs fo))])) (fun t kt => ?_) ?_
    · show Steps p.tables e below (T62.setTop (mkF m 321 #[.val (.long p1), .second, .val (.long p2), .second, .val (.long p3), .second, .val (.long p4), .second, .val (.long p5), .second, .val (.int p6), .val (.long x11), .second, .val (.long x13), .second, .val (.long x15), .second, .val (.long x17), .second, .val (.long x19), .second, .val (.ref b_7), .val (.ref b_10), .val (.int x23), .val (.int (1 : Int32)), .val (.ref sb_1), .unset] [(.int (digF (((x13.toUInt64 >>> ((1 : Int32) &&& 0x3f).toInt64.toUInt64).toInt64) &&& (31 : Int64)) cs fo)), (.int (chF (12 : Int32) (wrL ((x11 <<< ((16 : Int32) &&& 0x3f).toInt64) ||| x13) p3 cs fo) cs fo))])) _
      refine XS.icmpNo X62.here hx rfl (hb hby at_321) rfl (teq hd76).2 ?_
      show Steps p.tables e below (T62.setTop (mkF m 324 #[.val (.long p1), .second, .val (.long p2), .second, .val (.long p3), .second, .val (.long p4), .second, .val (.long p5), .second, .val (.int p6), .val (.long x11), .second, .val (.long x13), .second, .val (.long x15), .second, .val (.long x17), .second, .val (.long x19), .second, .val (.ref b_7), .val (.ref b_10), .val (.int x23), .val (.int (1 : Int32)), .val (.ref sb_1), .unset] [])) _
      refine XS.aload X62.here hx rfl (hb hby at_324) rfl rfl ?_
      show Steps p.tables e below (T62.setTop (mkF m 326 #[.val (.long p1), .second, .val (.long p2), .second, .val (.long p3), .second, .val (.long p4), .second, .val (.long p5), .second, .val (.int p6), .val (.long x11), .second, .val (.long x13), .second, .val (.long x15), .second, .val (.long x17), .second, .val (.long x19), .second, .val (.ref b_7), .val (.ref b_10), .val (.int x23), .val (.int (1 : Int32)), .val (.ref sb_1), .unset] [(.ref sb_1)])) _
      refine XS.bipush X62.here hx rfl (hb hby at_326) ?_
      show Steps p.tables e below (T62.setTop (mkF m 328 #[.val (.long p1), .second, .val (.long p2), .second, .val (.long p3), .second, .val (.long p4), .second, .val (.long p5), .second, .val (.int p6), .val (.long x11), .second, .val (.long x13), .second, .val (.long x15), .second, .val (.long x17), .second, .val (.long x19), .second, .val (.ref b_7), .val (.ref b_10), .val (.int x23), .val (.int (1 : Int32)), .val (.ref sb_1), .unset] [(.int (13 : Int32)), (.ref sb_1)])) _
      refine st77.trans ?_
      show Steps p.tables e below (T77.setTop (mkF m 331 #[.val (.long p1), .second, .val (.long p2), .second, .val (.long p3), .second, .val (.long p4), .second, .val (.long p5), .second, .val (.int p6), .val (.long x11), .second, .val (.long x13), .second, .val (.long x15), .second, .val (.long x17), .second, .val (.long x19), .second, .val (.ref b_7), .val (.ref b_10), .val (.int x23), .val (.int (1 : Int32)), .val (.ref sb_1), .unset] [(.int (chF (13 : Int32) (wrL ((x11 <<< ((16 : Int32) &&& 0x3f).toInt64) ||| x13) p3 cs fo) cs fo))])) _
      refine XS.lload X77.here hx rfl (hb hby at_331) rfl ?_
      show Steps p.tables e below (T77.setTop (mkF m 333 #[.val (.long p1), .second, .val (.long p2), .second, .val (.long p3), .second, .val (.long p4), .second, .val (.long p5), .second, .val (.int p6), .val (.long x11), .second, .val (.long x13), .second, .val (.long x15), .second, .val (.long x17), .second, .val (.long x19), .second, .val (.ref b_7), .val (.ref b_10), .val (.int x23), .val (.int (1 : Int32)), .val (.ref sb_1), .unset] [(.long x13), (.int (chF (13 : Int32) (wrL ((x11 <<< ((16 : Int32) &&& 0x3f).toInt64) ||| x13) p3 cs fo) cs fo))])) _
      refine XS.lconst X77.here hx rfl (hb hby at_333) ?_
      show Steps p.tables e below (T77.setTop (mkF m 334 #[.val (.long p1), .second, .val (.long p2), .second, .val (.long p3), .second, .val (.long p4), .second, .val (.long p5), .second, .val (.int p6), .val (.long x11), .second, .val (.long x13), .second, .val (.long x15), .second, .val (.long x17), .second, .val (.long x19), .second, .val (.ref b_7), .val (.ref b_10), .val (.int x23), .val (.int (1 : Int32)), .val (.ref sb_1), .unset] [(.long (1 : Int64)), (.long x13), (.int (chF (13 : Int32) (wrL ((x11 <<< ((16 : Int32) &&& 0x3f).toInt64) ||| x13) p3 cs fo) cs fo))])) _
      refine XS.land X77.here hx rfl (hb hby at_334) rfl ?_
      show Steps p.tables e below (T77.setTop (mkF m 335 #[.val (.long p1), .second, .val (.long p2), .second, .val (.long p3), .second, .val (.long p4), .second, .val (.long p5), .second, .val (.int p6), .val (.long x11), .second, .val (.long x13), .second, .val (.long x15), .second, .val (.long x17), .second, .val (.long x19), .second, .val (.ref b_7), .val (.ref b_10), .val (.int x23), .val (.int (1 : Int32)), .val (.ref sb_1), .unset] [(.long (x13 &&& (1 : Int64))), (.int (chF (13 : Int32) (wrL ((x11 <<< ((16 : Int32) &&& 0x3f).toInt64) ||| x13) p3 cs fo) cs fo))])) _
      refine XS.iconst X77.here hx rfl (hb hby at_335) ?_
      show Steps p.tables e below (T77.setTop (mkF m 336 #[.val (.long p1), .second, .val (.long p2), .second, .val (.long p3), .second, .val (.long p4), .second, .val (.long p5), .second, .val (.int p6), .val (.long x11), .second, .val (.long x13), .second, .val (.long x15), .second, .val (.long x17), .second, .val (.long x19), .second, .val (.ref b_7), .val (.ref b_10), .val (.int x23), .val (.int (1 : Int32)), .val (.ref sb_1), .unset] [(.int (4 : Int32)), (.long (x13 &&& (1 : Int64))), (.int (chF (13 : Int32) (wrL ((x11 <<< ((16 : Int32) &&& 0x3f).toInt64) ||| x13) p3 cs fo) cs fo))])) _
      refine XS.lshl X77.here hx rfl (hb hby at_336) rfl ?_
      show Steps p.tables e below (T77.setTop (mkF m 337 #[.val (.long p1), .second, .val (.long p2), .second, .val (.long p3), .second, .val (.long p4), .second, .val (.long p5), .second, .val (.int p6), .val (.long x11), .second, .val (.long x13), .second, .val (.long x15), .second, .val (.long x17), .second, .val (.long x19), .second, .val (.ref b_7), .val (.ref b_10), .val (.int x23), .val (.int (1 : Int32)), .val (.ref sb_1), .unset] [(.long ((x13 &&& (1 : Int64)) <<< ((4 : Int32) &&& 0x3f).toInt64)), (.int (chF (13 : Int32) (wrL ((x11 <<< ((16 : Int32) &&& 0x3f).toInt64) ||| x13) p3 cs fo) cs fo))])) _
      refine XS.lload X77.here hx rfl (hb hby at_337) rfl ?_
      show Steps p.tables e below (T77.setTop (mkF m 339 #[.val (.long p1), .second, .val (.long p2), .second, .val (.long p3), .second, .val (.long p4), .second, .val (.long p5), .second, .val (.int p6), .val (.long x11), .second, .val (.long x13), .second, .val (.long x15), .second, .val (.long x17), .second, .val (.long x19), .second, .val (.ref b_7), .val (.ref b_10), .val (.int x23), .val (.int (1 : Int32)), .val (.ref sb_1), .unset] [(.long p3), (.long ((x13 &&& (1 : Int64)) <<< ((4 : Int32) &&& 0x3f).toInt64)), (.int (chF (13 : Int32) (wrL ((x11 <<< ((16 : Int32) &&& 0x3f).toInt64) ||| x13) p3 cs fo) cs fo))])) _
      refine XS.bipush X77.here hx rfl (hb hby at_339) ?_
      show Steps p.tables e below (T77.setTop (mkF m 341 #[.val (.long p1), .second, .val (.long p2), .second, .val (.long p3), .second, .val (.long p4), .second, .val (.long p5), .second, .val (.int p6), .val (.long x11), .second, .val (.long x13), .second, .val (.long x15), .second, .val (.long x17), .second, .val (.long x19), .second, .val (.ref b_7), .val (.ref b_10), .val (.int x23), .val (.int (1 : Int32)), .val (.ref sb_1), .unset] [(.int (60 : Int32)), (.long p3), (.long ((x13 &&& (1 : Int64)) <<< ((4 : Int32) &&& 0x3f).toInt64)), (.int (chF (13 : Int32) (wrL ((x11 <<< ((16 : Int32) &&& 0x3f).toInt64) ||| x13) p3 cs fo) cs fo))])) _
      refine XS.lushr X77.here hx rfl (hb hby at_341) rfl ?_
      show Steps p.tables e below (T77.setTop (mkF m 342 #[.val (.long p1), .second, .val (.long p2), .second, .val (.long p3), .second, .val (.long p4), .second, .val (.long p5), .second, .val (.int p6), .val (.long x11), .second, .val (.long x13), .second, .val (.long x15), .second, .val (.long x17), .second, .val (.long x19), .second, .val (.ref b_7), .val (.ref b_10), .val (.int x23), .val (.int (1 : Int32)), .val (.ref sb_1), .unset] [(.long ((p3.toUInt64 >>> ((60 : Int32) &&& 0x3f).toInt64.toUInt64).toInt64)), (.long ((x13 &&& (1 : Int64)) <<< ((4 : Int32) &&& 0x3f).toInt64)), (.int (chF (13 : Int32) (wrL ((x11 <<< ((16 : Int32) &&& 0x3f).toInt64) ||| x13) p3 cs fo) cs fo))])) _
      refine XS.lor X77.here hx rfl (hb hby at_342) rfl ?_
      show Steps p.tables e below (T77.setTop (mkF m 343 #[.val (.long p1), .second, .val (.long p2), .second, .val (.long p3), .second, .val (.long p4), .second, .val (.long p5), .second, .val (.int p6), .val (.long x11), .second, .val (.long x13), .second, .val (.long x15), .second, .val (.long x17), .second, .val (.long x19), .second, .val (.ref b_7), .val (.ref b_10), .val (.int x23), .val (.int (1 : Int32)), .val (.ref sb_1), .unset] [(.long (((x13 &&& (1 : Int64)) <<< ((4 : Int32) &&& 0x3f).toInt64) ||| ((p3.toUInt64 >>> ((60 : Int32) &&& 0x3f).toInt64.toUInt64).toInt64))), (.int (chF (13 : Int32) (wrL ((x11 <<< ((16 : Int32) &&& 0x3f).toInt64) ||| x13) p3 cs fo) cs fo))])) _
      refine st78.trans ?_
      exact kt
    have hd92 : (chF (13 : Int32) (wrL ((x11 <<< ((16 : Int32) &&& 0x3f).toInt64) ||| x13) p3 cs fo) cs fo) = (digF (((x13 &&& (1 : Int64)) <<< ((4 : Int32) &&& 0x3f).toInt64) ||| ((p3.toUInt64 >>> ((60 : Int32) &&& 0x3f).toInt64.toUInt64).toInt64)) cs fo) := own_cc (idx := ((((((x11 <<< ((16 : Int32) &&& 0x3f).toInt64) ||| x13) <<< ((4 : Int32) &&& 0x3f).toInt64) ||| ((p3.toUInt64 >>> ((60 : Int32) &&& 0x3f).toInt64.toUInt64).toInt64)).toInt32) &&& (31 : Int32))) own_wL13 (own_m31 _) (own_x13 (p3 := p3) h11 h13)
    obtain ⟨cq93, kq93, q93a, q93b, q93c⟩ := isOf hZ rfl (G88 : Exa Z T78.heap sb_1 "java/lang/String")
    obtain ⟨_, _, ⟨T93, L93, k93, n93⟩, -, X93, ⟨Lc93, hQ93, l93, y93, z93⟩, st93⟩ := X78.virtualBack hx (y := (⟨"java/lang/String", "charAt", "(I)C"⟩ : MethodName)) (z := (⟨"java/lang/String", "charAt", "(I)C"⟩ : MethodName)) hown (mvT hZ (hw _ (List.mem_of_getElem? (i := 119) rfl))) (mvT hZ (hw _ (List.mem_of_getElem? (i := 66) rfl))) (notFace_of_selects (args := #[]) (mvT hZ (hw _ (List.mem_of_getElem? (i := 68) rfl)))) (mvT hZ (hw _ (List.mem_of_getElem? (i := 68) rfl))) (mvT hZ (hw _ (List.mem_of_getElem? (i := 67) rfl))) (by decide) (backOf (W := 0) (rm_chF l Z a0 hw [] sb_1 (25 : Int32) bb_1 (wrL ((x11 <<< ((16 : Int32) &&& 0x3f).toInt64) ||| x13) p3 cs fo) cs fo T78.heap n0 Z78 G88 G89 G90 G91 G79 G80 hcs hfo (own_w26 (hi := ((x11 <<< ((16 : Int32) &&& 0x3f).toInt64) ||| x13)) (lo := p3) (cs := cs) (fo := fo) (by decide)).1 (own_w26 (hi := ((x11 <<< ((16 : Int32) &&& 0x3f).toInt64) ||| x13)) (lo := p3) (cs := cs) (fo := fo) (by decide)).2.1 (own_w26 (hi := ((x11 <<< ((16 : Int32) &&& 0x3f).toInt64) ||| x13)) (lo := p3) (cs := cs) (fo := fo) (by decide)).2.2) hZ (hw _ (List.mem_of_getElem? (i := 69) rfl)) (hw _ (List.mem_of_getElem? (i := 58) rfl)) (by decide) (by decide)) q93a q93c (g := (mkF m 353 #[.val (.long p1), .second, .val (.long p2), .second, .val (.long p3), .second, .val (.long p4), .second, .val (.long p5), .second, .val (.int p6), .val (.long x11), .second, .val (.long x13), .second, .val (.long x15), .second, .val (.long x17), .second, .val (.long x19), .second, .val (.ref b_7), .val (.ref b_10), .val (.int x23), .val (.int (1 : Int32)), .val (.ref sb_1), .unset] [(.int (25 : Int32)), (.ref sb_1)])) rfl (by rw [hml]; rfl) (Steps.refl _) (argsL := [(.int (25 : Int32))]) (rest := []) (lenOf pd_11 rfl) rfl (by show 2 * 0 + _ ≤ _; exact Nat.le_of_eq rfl) (hb hby at_353) (fun _ _ => ⟨rfl, rfl, (Nat.le_trans (Nat.add_le_add_right (Nat.add_le_add_right (Nat.add_le_add_right (Nat.add_le_add_right (Nat.add_le_add_right (Nat.add_le_add_right (Nat.add_le_add_right (Nat.add_le_add_right (Nat.add_le_add_right (Nat.add_le_add_right (Nat.add_le_add_right (Nat.add_le_add_right (Nat.add_le_add_right hcl 5) 0) 0) 2) 0) 2) 0) 2) 0) 2) 0) 2) 0) (by decide)), (Nat.le_trans (Nat.add_le_add_right (Nat.add_le_add_right (Nat.add_le_add_right (Nat.add_le_add_right (Nat.add_le_add_right (Nat.add_le_add_right (Nat.add_le_add_right (Nat.add_le_add_right (Nat.add_le_add_right (Nat.add_le_add_right (Nat.add_le_add_right (Nat.add_le_add_right (Nat.add_le_add_right hsl 188) 0) 0) 132) 0) 132) 0) 132) 0) 132) 0) 132) 0) (by decide))⟩)
    dsimp only [Pt.U, Pt.locs, Pt.cells, Pt.slots] at X93 l93 y93 z93 st93 hQ93
    subst l93 y93 z93
    obtain ⟨rfl, N93q, e93⟩ := hQ93
    have N93 := Fr.app N78 N93q
    have hZ94 := hZ
    have hown94 := hown
    obtain ⟨_, _, ⟨T95, L95, k95, n95⟩, -, X95, hT95, hg95, ⟨Lc95, hQ95, l95, y95, z95, hR95⟩, st95⟩ := callSS X93 hx (y := (⟨"com/example/lane4/lane4/model/JobIdOfPinLaw", "digit", "(J)C"⟩ : MethodName)) hown (mvT hZ (hw _ (List.mem_of_getElem? (i := 120) rfl))) (mvT hZ (hw _ (List.mem_of_getElem? (i := 121) rfl))) (mvT hZ (hw _ (List.mem_of_getElem? (i := 20) rfl))) (mvT hZ (hw _ (List.mem_of_getElem? (i := 122) rfl))) (by decide) (backOfSH (W := 1) (rm_digF l Z a0 hw [] (p3 &&& (31 : Int64)) cs fo T78.heap n0 Z78 G79 G80 hcs hfo) hZ (hw _ (List.mem_of_getElem? (i := 122) rfl)) (hw _ (List.mem_of_getElem? (i := 20) rfl)) (by decide) (by decide) hEL HC78.1) (g := (mkF m 362 #[.val (.long p1), .second, .val (.long p2), .second, .val (.long p3), .second, .val (.long p4), .second, .val (.long p5), .second, .val (.int p6), .val (.long x11), .second, .val (.long x13), .second, .val (.long x15), .second, .val (.long x17), .second, .val (.long x19), .second, .val (.ref b_7), .val (.ref b_10), .val (.int x23), .val (.int (1 : Int32)), .val (.ref sb_1), .unset] [(.long (p3 &&& (31 : Int64))), (.int (chF (25 : Int32) (wrL ((x11 <<< ((16 : Int32) &&& 0x3f).toInt64) ||| x13) p3 cs fo) cs fo))])) rfl (by rw [hml]; rfl) (argsL := [(.long (p3 &&& (31 : Int64)))]) (rest := [(.int (chF (25 : Int32) (wrL ((x11 <<< ((16 : Int32) &&& 0x3f).toInt64) ||| x13) p3 cs fo) cs fo))]) (lenOf pd_20 rfl) rfl (by show 2 * 0 + _ ≤ _; exact Nat.le_of_eq rfl) (hb hby at_362) (fun _ _ => ⟨rfl, e93, (Nat.le_trans (Nat.add_le_add_right (Nat.add_le_add_right (Nat.add_le_add_right (Nat.add_le_add_right (Nat.add_le_add_right (Nat.add_le_add_right (Nat.add_le_add_right (Nat.add_le_add_right (Nat.add_le_add_right (Nat.add_le_add_right (Nat.add_le_add_right (Nat.add_le_add_right (Nat.add_le_add_right (Nat.add_le_add_right hcl 5) 0) 0) 2) 0) 2) 0) 2) 0) 2) 0) 2) 0) 2) (by decide)), (Nat.le_trans (Nat.add_le_add_right (Nat.add_le_add_right (Nat.add_le_add_right (Nat.add_le_add_right (Nat.add_le_add_right (Nat.add_le_add_right (Nat.add_le_add_right (Nat.add_le_add_right (Nat.add_le_add_right (Nat.add_le_add_right (Nat.add_le_add_right (Nat.add_le_add_right (Nat.add_le_add_right (Nat.add_le_add_right hsl 188) 0) 0) 132) 0) 132) 0) 132) 0) 132) 0) 132) 0) 132) (by decide))⟩)
    dsimp only [Pt.U, Pt.locs, Pt.cells, Pt.slots] at X95 l95 y95 z95 st95 hQ95 hT95 hg95 hR95
    subst l95 y95 z95
    obtain ⟨X95, hS95, hZ, hown⟩ := rebS hS78 (by rw [e93]; exact hk78 : _ ≤ T93.heap.size) X95 hT95 hg95 hZ hown
    have HC95 := HC78.trans hR95
    have hk95 : T95.heap.size ≤ T95.heap.size := Nat.le_refl _
    obtain ⟨rfl, N95q, Kq95⟩ := hQ95
    have G96 : Sta Z T95.heap "java/lang/String" "COMPACT_STRINGS" "Z" (.int cs) := G79.keep0 Kq95
    have G97 : Sta Z T95.heap "jdk/internal/util/Preconditions" "SIOOBE_FORMATTER" "Ljava/util/function/BiFunction;" fo := G80.keep0 Kq95
    have G98 : Exa Z T95.heap b_7 "com/example/lane4/lane4/model/JobId" := Exa.keep G81 Kq95
    have G99 : Fld Z T95.heap b_7 "com/example/lane4/lane4/model/JobId" "high" "J" (.long ((x11 <<< ((16 : Int32) &&& 0x3f).toInt64) ||| x13)) := G82.keep Kq95 nin0
    have G100 : Fld Z T95.heap b_7 "com/example/lane4/lane4/model/JobId" "low" "J" (.long p3) := G83.keep Kq95 nin0
    have G101 : Exa Z T95.heap b_10 "com/example/lane4/lane4/model/JobId" := Exa.keep G84 Kq95
    have G102 : Fld Z T95.heap b_10 "com/example/lane4/lane4/model/JobId" "high" "J" (.long ((x15 <<< ((16 : Int32) &&& 0x3f).toInt64) ||| x17)) := G85.keep Kq95 nin0
    have G103 : Fld Z T95.heap b_10 "com/example/lane4/lane4/model/JobId" "low" "J" (.long x19) := G86.keep Kq95 nin0
    have G104 : Fld Z T95.heap b_10 "com/example/lane4/lane4/model/JobId" "text" "Ljava/lang/String;" .null := G87.keep Kq95 nin0
    have G105 : Exa Z T95.heap sb_1 "java/lang/String" := Exa.keep G88 Kq95
    have G106 : Fld Z T95.heap sb_1 "java/lang/String" "value" "[B" (.ref bb_1) := G89.keep Kq95 nin0
    have G107 : Fld Z T95.heap sb_1 "java/lang/String" "coder" "B" (.int (0 : Int32)) := G90.keep Kq95 nin0
    have G108 : VA Z T95.heap bb_1 .byte ((wrL ((x11 <<< ((16 : Int32) &&& 0x3f).toInt64) ||| x13) p3 cs fo).map Value.int) := G91.keep Kq95 nin0
    have K95 : Keep h0 T95.heap [] := Keep.trans K78 Kq95 all0
    have Z95 : n0 ≤ T95.heap.size := Nat.le_trans Z0 K95.1
    have N95 := Fr.app N93 N95q
    refine GoC.step (T' := T95) (f' := (mkF m 365 #[.val (.long p1), .second, .val (.long p2), .second, .val (.long p3), .second, .val (.long p4), .second, .val (.long p5), .second, .val (.int p6), .val (.long x11), .second, .val (.long x13), .second, .val (.long x15), .second, .val (.long x17), .second, .val (.long x19), .second, .val (.ref b_7), .val (.ref b_10), .val (.int x23), .val (.int (1 : Int32)), .val (.ref sb_1), .unset] [(.int (digF (p3 &&& (31 : Int64)) cs fo)), (.int (chF (25 : Int32) (wrL ((x11 <<< ((16 : Int32) &&& 0x3f).toInt64) ||| x13) p3 cs fo) cs fo))])) (fun t kt => ?_) ?_
    · show Steps p.tables e below (T78.setTop (mkF m 346 #[.val (.long p1), .second, .val (.long p2), .second, .val (.long p3), .second, .val (.long p4), .second, .val (.long p5), .second, .val (.int p6), .val (.long x11), .second, .val (.long x13), .second, .val (.long x15), .second, .val (.long x17), .second, .val (.long x19), .second, .val (.ref b_7), .val (.ref b_10), .val (.int x23), .val (.int (1 : Int32)), .val (.ref sb_1), .unset] [(.int (digF (((x13 &&& (1 : Int64)) <<< ((4 : Int32) &&& 0x3f).toInt64) ||| ((p3.toUInt64 >>> ((60 : Int32) &&& 0x3f).toInt64.toUInt64).toInt64)) cs fo)), (.int (chF (13 : Int32) (wrL ((x11 <<< ((16 : Int32) &&& 0x3f).toInt64) ||| x13) p3 cs fo) cs fo))])) _
      refine XS.icmpNo X78.here hx rfl (hb hby at_346) rfl (teq hd92).2 ?_
      show Steps p.tables e below (T78.setTop (mkF m 349 #[.val (.long p1), .second, .val (.long p2), .second, .val (.long p3), .second, .val (.long p4), .second, .val (.long p5), .second, .val (.int p6), .val (.long x11), .second, .val (.long x13), .second, .val (.long x15), .second, .val (.long x17), .second, .val (.long x19), .second, .val (.ref b_7), .val (.ref b_10), .val (.int x23), .val (.int (1 : Int32)), .val (.ref sb_1), .unset] [])) _
      refine XS.aload X78.here hx rfl (hb hby at_349) rfl rfl ?_
      show Steps p.tables e below (T78.setTop (mkF m 351 #[.val (.long p1), .second, .val (.long p2), .second, .val (.long p3), .second, .val (.long p4), .second, .val (.long p5), .second, .val (.int p6), .val (.long x11), .second, .val (.long x13), .second, .val (.long x15), .second, .val (.long x17), .second, .val (.long x19), .second, .val (.ref b_7), .val (.ref b_10), .val (.int x23), .val (.int (1 : Int32)), .val (.ref sb_1), .unset] [(.ref sb_1)])) _
      refine XS.bipush X78.here hx rfl (hb hby at_351) ?_
      show Steps p.tables e below (T78.setTop (mkF m 353 #[.val (.long p1), .second, .val (.long p2), .second, .val (.long p3), .second, .val (.long p4), .second, .val (.long p5), .second, .val (.int p6), .val (.long x11), .second, .val (.long x13), .second, .val (.long x15), .second, .val (.long x17), .second, .val (.long x19), .second, .val (.ref b_7), .val (.ref b_10), .val (.int x23), .val (.int (1 : Int32)), .val (.ref sb_1), .unset] [(.int (25 : Int32)), (.ref sb_1)])) _
      refine st93.trans ?_
      show Steps p.tables e below (T93.setTop (mkF m 356 #[.val (.long p1), .second, .val (.long p2), .second, .val (.long p3), .second, .val (.long p4), .second, .val (.long p5), .second, .val (.int p6), .val (.long x11), .second, .val (.long x13), .second, .val (.long x15), .second, .val (.long x17), .second, .val (.long x19), .second, .val (.ref b_7), .val (.ref b_10), .val (.int x23), .val (.int (1 : Int32)), .val (.ref sb_1), .unset] [(.int (chF (25 : Int32) (wrL ((x11 <<< ((16 : Int32) &&& 0x3f).toInt64) ||| x13) p3 cs fo) cs fo))])) _
      refine XS.lload X93.here hx rfl (hb hby at_356) rfl ?_
      show Steps p.tables e below (T93.setTop (mkF m 358 #[.val (.long p1), .second, .val (.long p2), .second, .val (.long p3), .second, .val (.long p4), .second, .val (.long p5), .second, .val (.int p6), .val (.long x11), .second, .val (.long x13), .second, .val (.long x15), .second, .val (.long x17), .second, .val (.long x19), .second, .val (.ref b_7), .val (.ref b_10), .val (.int x23), .val (.int (1 : Int32)), .val (.ref sb_1), .unset] [(.long p3), (.int (chF (25 : Int32) (wrL ((x11 <<< ((16 : Int32) &&& 0x3f).toInt64) ||| x13) p3 cs fo) cs fo))])) _
      refine X93.ldc2Long hx hown94 (mvT hZ94 (hw _ (List.mem_of_getElem? (i := 124) rfl))) (g := (mkF m 358 #[.val (.long p1), .second, .val (.long p2), .second, .val (.long p3), .second, .val (.long p4), .second, .val (.long p5), .second, .val (.int p6), .val (.long x11), .second, .val (.long x13), .second, .val (.long x15), .second, .val (.long x17), .second, .val (.long x19), .second, .val (.ref b_7), .val (.ref b_10), .val (.int x23), .val (.int (1 : Int32)), .val (.ref sb_1), .unset] [(.long p3), (.int (chF (25 : Int32) (wrL ((x11 <<< ((16 : Int32) &&& 0x3f).toInt64) ||| x13) p3 cs fo) cs fo))])) rfl (hb hby at_358) _ ?_
      show Steps p.tables e below (T93.setTop (mkF m 361 #[.val (.long p1), .second, .val (.long p2), .second, .val (.long p3), .second, .val (.long p4), .second, .val (.long p5), .second, .val (.int p6), .val (.long x11), .second, .val (.long x13), .second, .val (.long x15), .second, .val (.long x17), .second, .val (.long x19), .second, .val (.ref b_7), .val (.ref b_10), .val (.int x23), .val (.int (1 : Int32)), .val (.ref sb_1), .unset] [(.long (31 : Int64)), (.long p3), (.int (chF (25 : Int32) (wrL ((x11 <<< ((16 : Int32) &&& 0x3f).toInt64) ||| x13) p3 cs fo) cs fo))])) _
      refine XS.land X93.here hx rfl (hb hby at_361) rfl ?_
      show Steps p.tables e below (T93.setTop (mkF m 362 #[.val (.long p1), .second, .val (.long p2), .second, .val (.long p3), .second, .val (.long p4), .second, .val (.long p5), .second, .val (.int p6), .val (.long x11), .second, .val (.long x13), .second, .val (.long x15), .second, .val (.long x17), .second, .val (.long x19), .second, .val (.ref b_7), .val (.ref b_10), .val (.int x23), .val (.int (1 : Int32)), .val (.ref sb_1), .unset] [(.long (p3 &&& (31 : Int64))), (.int (chF (25 : Int32) (wrL ((x11 <<< ((16 : Int32) &&& 0x3f).toInt64) ||| x13) p3 cs fo) cs fo))])) _
      refine st95.trans ?_
      exact kt
    have hd109 : (chF (25 : Int32) (wrL ((x11 <<< ((16 : Int32) &&& 0x3f).toInt64) ||| x13) p3 cs fo) cs fo) = (digF (p3 &&& (31 : Int64)) cs fo) := own_cc (idx := ((((p3.toUInt64 >>> ((0 : Int32) &&& 0x3f).toInt64.toUInt64).toInt64).toInt32) &&& (31 : Int32))) own_wL25 (own_m31 _) (own_x25 (p3 := p3) h11 h13)
    refine GoC.step (T' := T95) (f' := (mkF m 390 #[.val (.long p1), .second, .val (.long p2), .second, .val (.long p3), .second, .val (.long p4), .second, .val (.long p5), .second, .val (.int p6), .val (.long x11), .second, .val (.long x13), .second, .val (.long x15), .second, .val (.long x17), .second, .val (.long x19), .second, .val (.ref b_7), .val (.ref b_10), .val (.int x23), .val (.int (1 : Int32)), .val (.ref sb_1), .val (.int (1 : Int32))] [(.int (1 : Int32))])) (fun t kt => ?_) ?_
    · show Steps p.tables e below (T95.setTop (mkF m 365 #[.val (.long p1), .second, .val (.long p2), .second, .val (.long p3), .second, .val (.long p4), .second, .val (.long p5), .second, .val (.int p6), .val (.long x11), .second, .val (.long x13), .second, .val (.long x15), .second, .val (.long x17), .second, .val (.long x19), .second, .val (.ref b_7), .val (.ref b_10), .val (.int x23), .val (.int (1 : Int32)), .val (.ref sb_1), .unset] [(.int (digF (p3 &&& (31 : Int64)) cs fo)), (.int (chF (25 : Int32) (wrL ((x11 <<< ((16 : Int32) &&& 0x3f).toInt64) ||| x13) p3 cs fo) cs fo))])) _
      refine XS.icmpNo X95.here hx rfl (hb hby at_365) rfl (teq hd109).2 ?_
      show Steps p.tables e below (T95.setTop (mkF m 368 #[.val (.long p1), .second, .val (.long p2), .second, .val (.long p3), .second, .val (.long p4), .second, .val (.long p5), .second, .val (.int p6), .val (.long x11), .second, .val (.long x13), .second, .val (.long x15), .second, .val (.long x17), .second, .val (.long x19), .second, .val (.ref b_7), .val (.ref b_10), .val (.int x23), .val (.int (1 : Int32)), .val (.ref sb_1), .unset] [])) _
      refine XS.iconst X95.here hx rfl (hb hby at_368) ?_
      show Steps p.tables e below (T95.setTop (mkF m 369 #[.val (.long p1), .second, .val (.long p2), .second, .val (.long p3), .second, .val (.long p4), .second, .val (.long p5), .second, .val (.int p6), .val (.long x11), .second, .val (.long x13), .second, .val (.long x15), .second, .val (.long x17), .second, .val (.long x19), .second, .val (.ref b_7), .val (.ref b_10), .val (.int x23), .val (.int (1 : Int32)), .val (.ref sb_1), .unset] [(.int (1 : Int32))])) _
      refine XS.goto X95.here hx rfl (pc0 := 369) (pc' := 373) rfl (hb hby at_369) (by decide) (by decide) ?_
      show Steps p.tables e below (T95.setTop (mkF m 373 #[.val (.long p1), .second, .val (.long p2), .second, .val (.long p3), .second, .val (.long p4), .second, .val (.long p5), .second, .val (.int p6), .val (.long x11), .second, .val (.long x13), .second, .val (.long x15), .second, .val (.long x17), .second, .val (.long x19), .second, .val (.ref b_7), .val (.ref b_10), .val (.int x23), .val (.int (1 : Int32)), .val (.ref sb_1), .unset] [(.int (1 : Int32))])) _
      refine XS.istore X95.here hx rfl (hb hby at_373) rfl (l' := #[.val (.long p1), .second, .val (.long p2), .second, .val (.long p3), .second, .val (.long p4), .second, .val (.long p5), .second, .val (.int p6), .val (.long x11), .second, .val (.long x13), .second, .val (.long x15), .second, .val (.long x17), .second, .val (.long x19), .second, .val (.ref b_7), .val (.ref b_10), .val (.int x23), .val (.int (1 : Int32)), .val (.ref sb_1), .val (.int (1 : Int32))]) rfl ?_
      show Steps p.tables e below (T95.setTop (mkF m 375 #[.val (.long p1), .second, .val (.long p2), .second, .val (.long p3), .second, .val (.long p4), .second, .val (.long p5), .second, .val (.int p6), .val (.long x11), .second, .val (.long x13), .second, .val (.long x15), .second, .val (.long x17), .second, .val (.long x19), .second, .val (.ref b_7), .val (.ref b_10), .val (.int x23), .val (.int (1 : Int32)), .val (.ref sb_1), .val (.int (1 : Int32))] [])) _
      refine XS.iload X95.here hx rfl (hb hby at_375) rfl ?_
      show Steps p.tables e below (T95.setTop (mkF m 377 #[.val (.long p1), .second, .val (.long p2), .second, .val (.long p3), .second, .val (.long p4), .second, .val (.long p5), .second, .val (.int p6), .val (.long x11), .second, .val (.long x13), .second, .val (.long x15), .second, .val (.long x17), .second, .val (.long x19), .second, .val (.ref b_7), .val (.ref b_10), .val (.int x23), .val (.int (1 : Int32)), .val (.ref sb_1), .val (.int (1 : Int32))] [(.int (1 : Int32))])) _
      refine XS.ifNo X95.here hx rfl (hb hby at_377) rfl ((if0 _ _).trans (feq (by decide : ¬ ((1 : Int32) = (0 : Int32)))).1) ?_
      show Steps p.tables e below (T95.setTop (mkF m 380 #[.val (.long p1), .second, .val (.long p2), .second, .val (.long p3), .second, .val (.long p4), .second, .val (.long p5), .second, .val (.int p6), .val (.long x11), .second, .val (.long x13), .second, .val (.long x15), .second, .val (.long x17), .second, .val (.long x19), .second, .val (.ref b_7), .val (.ref b_10), .val (.int x23), .val (.int (1 : Int32)), .val (.ref sb_1), .val (.int (1 : Int32))] [])) _
      refine XS.iload X95.here hx rfl (hb hby at_380) rfl ?_
      show Steps p.tables e below (T95.setTop (mkF m 382 #[.val (.long p1), .second, .val (.long p2), .second, .val (.long p3), .second, .val (.long p4), .second, .val (.long p5), .second, .val (.int p6), .val (.long x11), .second, .val (.long x13), .second, .val (.long x15), .second, .val (.long x17), .second, .val (.long x19), .second, .val (.ref b_7), .val (.ref b_10), .val (.int x23), .val (.int (1 : Int32)), .val (.ref sb_1), .val (.int (1 : Int32))] [(.int (1 : Int32))])) _
      refine XS.ifNo X95.here hx rfl (hb hby at_382) rfl ((if0 _ _).trans (feq (by decide : ¬ ((1 : Int32) = (0 : Int32)))).1) ?_
      show Steps p.tables e below (T95.setTop (mkF m 385 #[.val (.long p1), .second, .val (.long p2), .second, .val (.long p3), .second, .val (.long p4), .second, .val (.long p5), .second, .val (.int p6), .val (.long x11), .second, .val (.long x13), .second, .val (.long x15), .second, .val (.long x17), .second, .val (.long x19), .second, .val (.ref b_7), .val (.ref b_10), .val (.int x23), .val (.int (1 : Int32)), .val (.ref sb_1), .val (.int (1 : Int32))] [])) _
      refine XS.iconst X95.here hx rfl (hb hby at_385) ?_
      show Steps p.tables e below (T95.setTop (mkF m 386 #[.val (.long p1), .second, .val (.long p2), .second, .val (.long p3), .second, .val (.long p4), .second, .val (.long p5), .second, .val (.int p6), .val (.long x11), .second, .val (.long x13), .second, .val (.long x15), .second, .val (.long x17), .second, .val (.long x19), .second, .val (.ref b_7), .val (.ref b_10), .val (.int x23), .val (.int (1 : Int32)), .val (.ref sb_1), .val (.int (1 : Int32))] [(.int (1 : Int32))])) _
      refine XS.goto X95.here hx rfl (pc0 := 386) (pc' := 390) rfl (hb hby at_386) (by decide) (by decide) ?_
      exact kt
    refine GoC.fin X95 hZ hEL hS95 rfl hk95 HC95 (v := some (.int (1 : Int32))) (fun h => by rw [Bd.returns] at h; cases h) Bd.notSynchronized ?_ (Nat.le_trans (Nat.add_le_add_right (Nat.add_le_add_right (Nat.add_le_add_right (Nat.add_le_add_right (Nat.add_le_add_right (Nat.add_le_add_right (Nat.add_le_add_right (Nat.add_le_add_right (Nat.add_le_add_right (Nat.add_le_add_right (Nat.add_le_add_right (Nat.add_le_add_right (Nat.add_le_add_right (Nat.add_le_add_right hcl 5) 0) 0) 2) 0) 2) 0) 2) 0) 2) 0) 2) 0) 2) (by decide)) (Nat.le_trans (Nat.add_le_add_right (Nat.add_le_add_right (Nat.add_le_add_right (Nat.add_le_add_right (Nat.add_le_add_right (Nat.add_le_add_right (Nat.add_le_add_right (Nat.add_le_add_right (Nat.add_le_add_right (Nat.add_le_add_right (Nat.add_le_add_right (Nat.add_le_add_right (Nat.add_le_add_right (Nat.add_le_add_right hsl 188) 0) 0) 132) 0) 132) 0) 132) 0) 132) 0) 132) 0) 132) (by decide)) (fun fs hr => retN X95 hx (t := .boolean) Bd.returns (by simp) (hb hby at_390) hr)
    · show Q0 Z p1 p2 p3 p4 p5 p6 cs fo h0 n0 _ T95.heap _
      exact ⟨rfl, N95⟩
  have S174 : ∀ (T : State) (locs : List Loc) (cells slots : Nat) (X : Stand p l e room_1 (s.setVm s.vm) m #[(.long p1), (.long p2), (.long p3), (.long p4), (.long p5), (.int p6)] below meth c T locs cells slots) (hcl : cells ≤ 2) (hsl : slots ≤ 6) (h : Heap) (eT : T.heap = h) (N : Fr n0 locs) (x11 : Int64) (x13 : Int64) (x15 : Int64) (x17 : Int64) (x19 : Int64) (x23 : Int32)  (b_7 : Addr) (b_10 : Addr) (K : Keep h0 h []) (HC : CHr Z consts_1 s.vm s.heap s.vm h) (fc0 : Sta Z h "java/lang/String" "COMPACT_STRINGS" "Z" (.int cs)) (fc1 : Sta Z h "jdk/internal/util/Preconditions" "SIOOBE_FORMATTER" "Ljava/util/function/BiFunction;" fo) (fc2 : Exa Z h b_7 "com/example/lane4/lane4/model/JobId") (fc3 : Fld Z h b_7 "com/example/lane4/lane4/model/JobId" "high" "J" (.long ((x11 <<< ((16 : Int32) &&& 0x3f).toInt64) ||| x13))) (fc4 : Fld Z h b_7 "com/example/lane4/lane4/model/JobId" "low" "J" (.long p3)) (fc5 : Fld Z h b_7 "com/example/lane4/lane4/model/JobId" "text" "Ljava/lang/String;" .null) (fc6 : Exa Z h b_10 "com/example/lane4/lane4/model/JobId") (fc7 : Fld Z h b_10 "com/example/lane4/lane4/model/JobId" "high" "J" (.long ((x15 <<< ((16 : Int32) &&& 0x3f).toInt64) ||| x17))) (fc8 : Fld Z h b_10 "com/example/lane4/lane4/model/JobId" "low" "J" (.long x19)) (fc9 : Fld Z h b_10 "com/example/lane4/lane4/model/JobId" "text" "Ljava/lang/String;" .null) (g_b_7 : n0 ≤ b_7) (g_b_10 : n0 ≤ b_10) (sz_b_7 : h0.size ≤ b_7) (sz_b_10 : h0.size ≤ b_10) (ne_b_7_b_10 : b_7 ≠ b_10) (h11 : 0 ≤ x11.toInt ∧ x11.toInt < 281474976710656) (h13 : 0 ≤ x13.toInt ∧ x13.toInt < 65536) (hE : own_EXP ((x11 <<< ((16 : Int32) &&& 0x3f).toInt64) ||| x13) p3 ((x15 <<< ((16 : Int32) &&& 0x3f).toInt64) ||| x17) x19 x23), GoC p e below s Z consts_1 (Q0 Z p1 p2 p3 p4 p5 p6 cs fo h0 n0) 24 2304 T (mkF m 174 #[.val (.long p1), .second, .val (.long p2), .second, .val (.long p3), .second, .val (.long p4), .second, .val (.long p5), .second, .val (.int p6), .val (.long x11), .second, .val (.long x13), .second, .val (.long x15), .second, .val (.long x17), .second, .val (.long x19), .second, .val (.ref b_7), .val (.ref b_10), .val (.int x23), .unset, .unset, .unset] []) := by
    intro T locs cells slots X hcl hsl h eT N x11 x13 x15 x17 x19 x23 b_7 b_10 K HC fc0 fc1 fc2 fc3 fc4 fc5 fc6 fc7 fc8 fc9 g_b_7 g_b_10 sz_b_7 sz_b_10 ne_b_7_b_10 h11 h13 hE
    have Zh : n0 ≤ h.size := Nat.le_trans Z0 K.1
    have hkS : h0.size ≤ h.size := K.1
    obtain ⟨cq110, kq110, q110a, q110b, q110c⟩ := isOf hZ eT (fc2 : Exa Z h b_7 "com/example/lane4/lane4/model/JobId")
    obtain ⟨_, _, ⟨T110, L110, k110, n110⟩, -, X110, ⟨Lc110, hQ110, l110, y110, z110⟩, st110⟩ := X.virtualBack hx (y := (⟨"com/example/lane4/lane4/model/JobId", "compareTo", "(Lcom/example/lane4/lane4/model/JobId;)I"⟩ : MethodName)) (z := (⟨"com/example/lane4/lane4/model/JobId", "compareTo", "(Lcom/example/lane4/lane4/model/JobId;)I"⟩ : MethodName)) hown (mvT hZ (hw _ (List.mem_of_getElem? (i := 23) rfl))) (mvT hZ (hw _ (List.mem_of_getElem? (i := 24) rfl))) (notFace_of_selects (args := #[]) (mvT hZ (hw _ (List.mem_of_getElem? (i := 26) rfl)))) (mvT hZ (hw _ (List.mem_of_getElem? (i := 26) rfl))) (mvT hZ (hw _ (List.mem_of_getElem? (i := 25) rfl))) (by decide) (backOf (W := 0) (rm_cmpF l Z a0 hw [] b_7 b_10 ((x11 <<< ((16 : Int32) &&& 0x3f).toInt64) ||| x13) p3 ((x15 <<< ((16 : Int32) &&& 0x3f).toInt64) ||| x17) x19 h n0 Zh fc3 fc4 fc7 fc8 ) hZ (hw _ (List.mem_of_getElem? (i := 27) rfl)) (hw _ (List.mem_of_getElem? (i := 4) rfl)) (by decide) (by decide)) q110a q110c (g := (mkF m 178 #[.val (.long p1), .second, .val (.long p2), .second, .val (.long p3), .second, .val (.long p4), .second, .val (.long p5), .second, .val (.int p6), .val (.long x11), .second, .val (.long x13), .second, .val (.long x15), .second, .val (.long x17), .second, .val (.long x19), .second, .val (.ref b_7), .val (.ref b_10), .val (.int x23), .unset, .unset, .unset] [(.ref b_10), (.ref b_7)])) rfl (by rw [hml]; rfl) (Steps.refl _) (argsL := [(.ref b_10)]) (rest := []) (lenOf pd_16 rfl) rfl (by show 2 * 0 + _ ≤ _; exact Nat.le_of_eq rfl) (hb hby at_178) (fun _ _ => ⟨rfl, eT, (Nat.le_trans (Nat.add_le_add_right hcl 0) (by decide)), (Nat.le_trans (Nat.add_le_add_right hsl 0) (by decide))⟩)
    dsimp only [Pt.U, Pt.locs, Pt.cells, Pt.slots] at X110 l110 y110 z110 st110 hQ110
    subst l110 y110 z110
    obtain ⟨rfl, N110q, e110⟩ := hQ110
    have N110 := Fr.app N N110q
    obtain ⟨_, _, ⟨T111, L111, k111, n111⟩, -, X111, ⟨Lc111, hQ111, l111, y111, z111⟩, st111⟩ := Jvm.LawKit.callS X110 hx (y := (⟨"com/example/lane4/lane4/model/JobIdOfPinLaw", "sign", "(I)I"⟩ : MethodName)) hown (mvT hZ (hw _ (List.mem_of_getElem? (i := 36) rfl))) (mvT hZ (hw _ (List.mem_of_getElem? (i := 37) rfl))) (mvT hZ (hw _ (List.mem_of_getElem? (i := 20) rfl))) (mvT hZ (hw _ (List.mem_of_getElem? (i := 38) rfl))) (by decide) (backOf (W := 0) (rm_sigF l Z a0 hw [] (cmpF ((x11 <<< ((16 : Int32) &&& 0x3f).toInt64) ||| x13) p3 ((x15 <<< ((16 : Int32) &&& 0x3f).toInt64) ||| x17) x19)  h n0 Zh ) hZ (hw _ (List.mem_of_getElem? (i := 38) rfl)) (hw _ (List.mem_of_getElem? (i := 20) rfl)) (by decide) (by decide)) (g := (mkF m 181 #[.val (.long p1), .second, .val (.long p2), .second, .val (.long p3), .second, .val (.long p4), .second, .val (.long p5), .second, .val (.int p6), .val (.long x11), .second, .val (.long x13), .second, .val (.long x15), .second, .val (.long x17), .second, .val (.long x19), .second, .val (.ref b_7), .val (.ref b_10), .val (.int x23), .unset, .unset, .unset] [(.int (cmpF ((x11 <<< ((16 : Int32) &&& 0x3f).toInt64) ||| x13) p3 ((x15 <<< ((16 : Int32) &&& 0x3f).toInt64) ||| x17) x19))])) rfl (by rw [hml]; rfl) (argsL := [(.int (cmpF ((x11 <<< ((16 : Int32) &&& 0x3f).toInt64) ||| x13) p3 ((x15 <<< ((16 : Int32) &&& 0x3f).toInt64) ||| x17) x19))]) (rest := []) (lenOf pd_17 rfl) rfl (by show 2 * 0 + _ ≤ _; exact Nat.le_of_eq rfl) (hb hby at_181) (fun _ _ => ⟨rfl, e110, (Nat.le_trans (Nat.add_le_add_right (Nat.add_le_add_right hcl 0) 0) (by decide)), (Nat.le_trans (Nat.add_le_add_right (Nat.add_le_add_right hsl 0) 0) (by decide))⟩)
    dsimp only [Pt.U, Pt.locs, Pt.cells, Pt.slots] at X111 l111 y111 z111 st111 hQ111
    subst l111 y111 z111
    obtain ⟨rfl, N111q, e111⟩ := hQ111
    have N111 := Fr.app N110 N111q
    refine GoC.step (T' := T111) (f' := (mkF m 186 #[.val (.long p1), .second, .val (.long p2), .second, .val (.long p3), .second, .val (.long p4), .second, .val (.long p5), .second, .val (.int p6), .val (.long x11), .second, .val (.long x13), .second, .val (.long x15), .second, .val (.long x17), .second, .val (.long x19), .second, .val (.ref b_7), .val (.ref b_10), .val (.int x23), .unset, .unset, .unset] [(.int x23), (.int (sigF (cmpF ((x11 <<< ((16 : Int32) &&& 0x3f).toInt64) ||| x13) p3 ((x15 <<< ((16 : Int32) &&& 0x3f).toInt64) ||| x17) x19)))])) (fun t kt => ?_) ?_
    · show Steps p.tables e below (T.setTop (mkF m 174 #[.val (.long p1), .second, .val (.long p2), .second, .val (.long p3), .second, .val (.long p4), .second, .val (.long p5), .second, .val (.int p6), .val (.long x11), .second, .val (.long x13), .second, .val (.long x15), .second, .val (.long x17), .second, .val (.long x19), .second, .val (.ref b_7), .val (.ref b_10), .val (.int x23), .unset, .unset, .unset] [])) _
      refine XS.aload X.here hx rfl (hb hby at_174) rfl rfl ?_
      show Steps p.tables e below (T.setTop (mkF m 176 #[.val (.long p1), .second, .val (.long p2), .second, .val (.long p3), .second, .val (.long p4), .second, .val (.long p5), .second, .val (.int p6), .val (.long x11), .second, .val (.long x13), .second, .val (.long x15), .second, .val (.long x17), .second, .val (.long x19), .second, .val (.ref b_7), .val (.ref b_10), .val (.int x23), .unset, .unset, .unset] [(.ref b_7)])) _
      refine XS.aload X.here hx rfl (hb hby at_176) rfl rfl ?_
      show Steps p.tables e below (T.setTop (mkF m 178 #[.val (.long p1), .second, .val (.long p2), .second, .val (.long p3), .second, .val (.long p4), .second, .val (.long p5), .second, .val (.int p6), .val (.long x11), .second, .val (.long x13), .second, .val (.long x15), .second, .val (.long x17), .second, .val (.long x19), .second, .val (.ref b_7), .val (.ref b_10), .val (.int x23), .unset, .unset, .unset] [(.ref b_10), (.ref b_7)])) _
      refine st110.trans ?_
      show Steps p.tables e below (T110.setTop (mkF m 181 #[.val (.long p1), .second, .val (.long p2), .second, .val (.long p3), .second, .val (.long p4), .second, .val (.long p5), .second, .val (.int p6), .val (.long x11), .second, .val (.long x13), .second, .val (.long x15), .second, .val (.long x17), .second, .val (.long x19), .second, .val (.ref b_7), .val (.ref b_10), .val (.int x23), .unset, .unset, .unset] [(.int (cmpF ((x11 <<< ((16 : Int32) &&& 0x3f).toInt64) ||| x13) p3 ((x15 <<< ((16 : Int32) &&& 0x3f).toInt64) ||| x17) x19))])) _
      refine st111 _ ?_
      show Steps p.tables e below (T111.setTop (mkF m 184 #[.val (.long p1), .second, .val (.long p2), .second, .val (.long p3), .second, .val (.long p4), .second, .val (.long p5), .second, .val (.int p6), .val (.long x11), .second, .val (.long x13), .second, .val (.long x15), .second, .val (.long x17), .second, .val (.long x19), .second, .val (.ref b_7), .val (.ref b_10), .val (.int x23), .unset, .unset, .unset] [(.int (sigF (cmpF ((x11 <<< ((16 : Int32) &&& 0x3f).toInt64) ||| x13) p3 ((x15 <<< ((16 : Int32) &&& 0x3f).toInt64) ||| x17) x19)))])) _
      refine XS.iload X111.here hx rfl (hb hby at_184) rfl ?_
      exact kt
    have hd112 : (sigF (cmpF ((x11 <<< ((16 : Int32) &&& 0x3f).toInt64) ||| x13) p3 ((x15 <<< ((16 : Int32) &&& 0x3f).toInt64) ||| x17) x19)) = x23 := hE.1
    obtain ⟨cq113, kq113, q113a, q113b, q113c⟩ := isOf hZ e111 (fc6 : Exa Z h b_10 "com/example/lane4/lane4/model/JobId")
    obtain ⟨_, _, ⟨T113, L113, k113, n113⟩, -, X113, ⟨Lc113, hQ113, l113, y113, z113⟩, st113⟩ := X111.virtualBack hx (y := (⟨"com/example/lane4/lane4/model/JobId", "compareTo", "(Lcom/example/lane4/lane4/model/JobId;)I"⟩ : MethodName)) (z := (⟨"com/example/lane4/lane4/model/JobId", "compareTo", "(Lcom/example/lane4/lane4/model/JobId;)I"⟩ : MethodName)) hown (mvT hZ (hw _ (List.mem_of_getElem? (i := 23) rfl))) (mvT hZ (hw _ (List.mem_of_getElem? (i := 24) rfl))) (notFace_of_selects (args := #[]) (mvT hZ (hw _ (List.mem_of_getElem? (i := 26) rfl)))) (mvT hZ (hw _ (List.mem_of_getElem? (i := 26) rfl))) (mvT hZ (hw _ (List.mem_of_getElem? (i := 25) rfl))) (by decide) (backOf (W := 0) (rm_cmpF l Z a0 hw [] b_10 b_7 ((x15 <<< ((16 : Int32) &&& 0x3f).toInt64) ||| x17) x19 ((x11 <<< ((16 : Int32) &&& 0x3f).toInt64) ||| x13) p3 h n0 Zh fc7 fc8 fc3 fc4 ) hZ (hw _ (List.mem_of_getElem? (i := 27) rfl)) (hw _ (List.mem_of_getElem? (i := 4) rfl)) (by decide) (by decide)) q113a q113c (g := (mkF m 193 #[.val (.long p1), .second, .val (.long p2), .second, .val (.long p3), .second, .val (.long p4), .second, .val (.long p5), .second, .val (.int p6), .val (.long x11), .second, .val (.long x13), .second, .val (.long x15), .second, .val (.long x17), .second, .val (.long x19), .second, .val (.ref b_7), .val (.ref b_10), .val (.int x23), .unset, .unset, .unset] [(.ref b_7), (.ref b_10)])) rfl (by rw [hml]; rfl) (Steps.refl _) (argsL := [(.ref b_7)]) (rest := []) (lenOf pd_16 rfl) rfl (by show 2 * 0 + _ ≤ _; exact Nat.le_of_eq rfl) (hb hby at_193) (fun _ _ => ⟨rfl, e111, (Nat.le_trans (Nat.add_le_add_right (Nat.add_le_add_right (Nat.add_le_add_right hcl 0) 0) 0) (by decide)), (Nat.le_trans (Nat.add_le_add_right (Nat.add_le_add_right (Nat.add_le_add_right hsl 0) 0) 0) (by decide))⟩)
    dsimp only [Pt.U, Pt.locs, Pt.cells, Pt.slots] at X113 l113 y113 z113 st113 hQ113
    subst l113 y113 z113
    obtain ⟨rfl, N113q, e113⟩ := hQ113
    have N113 := Fr.app N111 N113q
    obtain ⟨_, _, ⟨T114, L114, k114, n114⟩, -, X114, ⟨Lc114, hQ114, l114, y114, z114⟩, st114⟩ := Jvm.LawKit.callS X113 hx (y := (⟨"com/example/lane4/lane4/model/JobIdOfPinLaw", "sign", "(I)I"⟩ : MethodName)) hown (mvT hZ (hw _ (List.mem_of_getElem? (i := 36) rfl))) (mvT hZ (hw _ (List.mem_of_getElem? (i := 37) rfl))) (mvT hZ (hw _ (List.mem_of_getElem? (i := 20) rfl))) (mvT hZ (hw _ (List.mem_of_getElem? (i := 38) rfl))) (by decide) (backOf (W := 0) (rm_sigF l Z a0 hw [] (cmpF ((x15 <<< ((16 : Int32) &&& 0x3f).toInt64) ||| x17) x19 ((x11 <<< ((16 : Int32) &&& 0x3f).toInt64) ||| x13) p3)  h n0 Zh ) hZ (hw _ (List.mem_of_getElem? (i := 38) rfl)) (hw _ (List.mem_of_getElem? (i := 20) rfl)) (by decide) (by decide)) (g := (mkF m 196 #[.val (.long p1), .second, .val (.long p2), .second, .val (.long p3), .second, .val (.long p4), .second, .val (.long p5), .second, .val (.int p6), .val (.long x11), .second, .val (.long x13), .second, .val (.long x15), .second, .val (.long x17), .second, .val (.long x19), .second, .val (.ref b_7), .val (.ref b_10), .val (.int x23), .unset, .unset, .unset] [(.int (cmpF ((x15 <<< ((16 : Int32) &&& 0x3f).toInt64) ||| x17) x19 ((x11 <<< ((16 : Int32) &&& 0x3f).toInt64) ||| x13) p3))])) rfl (by rw [hml]; rfl) (argsL := [(.int (cmpF ((x15 <<< ((16 : Int32) &&& 0x3f).toInt64) ||| x17) x19 ((x11 <<< ((16 : Int32) &&& 0x3f).toInt64) ||| x13) p3))]) (rest := []) (lenOf pd_17 rfl) rfl (by show 2 * 0 + _ ≤ _; exact Nat.le_of_eq rfl) (hb hby at_196) (fun _ _ => ⟨rfl, e113, (Nat.le_trans (Nat.add_le_add_right (Nat.add_le_add_right (Nat.add_le_add_right (Nat.add_le_add_right hcl 0) 0) 0) 0) (by decide)), (Nat.le_trans (Nat.add_le_add_right (Nat.add_le_add_right (Nat.add_le_add_right (Nat.add_le_add_right hsl 0) 0) 0) 0) (by decide))⟩)
    dsimp only [Pt.U, Pt.locs, Pt.cells, Pt.slots] at X114 l114 y114 z114 st114 hQ114
    subst l114 y114 z114
    obtain ⟨rfl, N114q, e114⟩ := hQ114
    have N114 := Fr.app N113 N114q
    refine GoC.step (T' := T114) (f' := (mkF m 202 #[.val (.long p1), .second, .val (.long p2), .second, .val (.long p3), .second, .val (.long p4), .second, .val (.long p5), .second, .val (.int p6), .val (.long x11), .second, .val (.long x13), .second, .val (.long x15), .second, .val (.long x17), .second, .val (.long x19), .second, .val (.ref b_7), .val (.ref b_10), .val (.int x23), .unset, .unset, .unset] [(.int (-x23)), (.int (sigF (cmpF ((x15 <<< ((16 : Int32) &&& 0x3f).toInt64) ||| x17) x19 ((x11 <<< ((16 : Int32) &&& 0x3f).toInt64) ||| x13) p3)))])) (fun t kt => ?_) ?_
    · show Steps p.tables e below (T111.setTop (mkF m 186 #[.val (.long p1), .second, .val (.long p2), .second, .val (.long p3), .second, .val (.long p4), .second, .val (.long p5), .second, .val (.int p6), .val (.long x11), .second, .val (.long x13), .second, .val (.long x15), .second, .val (.long x17), .second, .val (.long x19), .second, .val (.ref b_7), .val (.ref b_10), .val (.int x23), .unset, .unset, .unset] [(.int x23), (.int (sigF (cmpF ((x11 <<< ((16 : Int32) &&& 0x3f).toInt64) ||| x13) p3 ((x15 <<< ((16 : Int32) &&& 0x3f).toInt64) ||| x17) x19)))])) _
      refine XS.icmpNo X111.here hx rfl (hb hby at_186) rfl (teq hd112).2 ?_
      show Steps p.tables e below (T111.setTop (mkF m 189 #[.val (.long p1), .second, .val (.long p2), .second, .val (.long p3), .second, .val (.long p4), .second, .val (.long p5), .second, .val (.int p6), .val (.long x11), .second, .val (.long x13), .second, .val (.long x15), .second, .val (.long x17), .second, .val (.long x19), .second, .val (.ref b_7), .val (.ref b_10), .val (.int x23), .unset, .unset, .unset] [])) _
      refine XS.aload X111.here hx rfl (hb hby at_189) rfl rfl ?_
      show Steps p.tables e below (T111.setTop (mkF m 191 #[.val (.long p1), .second, .val (.long p2), .second, .val (.long p3), .second, .val (.long p4), .second, .val (.long p5), .second, .val (.int p6), .val (.long x11), .second, .val (.long x13), .second, .val (.long x15), .second, .val (.long x17), .second, .val (.long x19), .second, .val (.ref b_7), .val (.ref b_10), .val (.int x23), .unset, .unset, .unset] [(.ref b_10)])) _
      refine XS.aload X111.here hx rfl (hb hby at_191) rfl rfl ?_
      show Steps p.tables e below (T111.setTop (mkF m 193 #[.val (.long p1), .second, .val (.long p2), .second, .val (.long p3), .second, .val (.long p4), .second, .val (.long p5), .second, .val (.int p6), .val (.long x11), .second, .val (.long x13), .second, .val (.long x15), .second, .val (.long x17), .second, .val (.long x19), .second, .val (.ref b_7), .val (.ref b_10), .val (.int x23), .unset, .unset, .unset] [(.ref b_7), (.ref b_10)])) _
      refine st113.trans ?_
      show Steps p.tables e below (T113.setTop (mkF m 196 #[.val (.long p1), .second, .val (.long p2), .second, .val (.long p3), .second, .val (.long p4), .second, .val (.long p5), .second, .val (.int p6), .val (.long x11), .second, .val (.long x13), .second, .val (.long x15), .second, .val (.long x17), .second, .val (.long x19), .second, .val (.ref b_7), .val (.ref b_10), .val (.int x23), .unset, .unset, .unset] [(.int (cmpF ((x15 <<< ((16 : Int32) &&& 0x3f).toInt64) ||| x17) x19 ((x11 <<< ((16 : Int32) &&& 0x3f).toInt64) ||| x13) p3))])) _
      refine st114 _ ?_
      show Steps p.tables e below (T114.setTop (mkF m 199 #[.val (.long p1), .second, .val (.long p2), .second, .val (.long p3), .second, .val (.long p4), .second, .val (.long p5), .second, .val (.int p6), .val (.long x11), .second, .val (.long x13), .second, .val (.long x15), .second, .val (.long x17), .second, .val (.long x19), .second, .val (.ref b_7), .val (.ref b_10), .val (.int x23), .unset, .unset, .unset] [(.int (sigF (cmpF ((x15 <<< ((16 : Int32) &&& 0x3f).toInt64) ||| x17) x19 ((x11 <<< ((16 : Int32) &&& 0x3f).toInt64) ||| x13) p3)))])) _
      refine XS.iload X114.here hx rfl (hb hby at_199) rfl ?_
      show Steps p.tables e below (T114.setTop (mkF m 201 #[.val (.long p1), .second, .val (.long p2), .second, .val (.long p3), .second, .val (.long p4), .second, .val (.long p5), .second, .val (.int p6), .val (.long x11), .second, .val (.long x13), .second, .val (.long x15), .second, .val (.long x17), .second, .val (.long x19), .second, .val (.ref b_7), .val (.ref b_10), .val (.int x23), .unset, .unset, .unset] [(.int x23), (.int (sigF (cmpF ((x15 <<< ((16 : Int32) &&& 0x3f).toInt64) ||| x17) x19 ((x11 <<< ((16 : Int32) &&& 0x3f).toInt64) ||| x13) p3)))])) _
      refine XS.ineg X114.here hx rfl (hb hby at_201) rfl ?_
      exact kt
    have hd115 : (sigF (cmpF ((x15 <<< ((16 : Int32) &&& 0x3f).toInt64) ||| x17) x19 ((x11 <<< ((16 : Int32) &&& 0x3f).toInt64) ||| x13) p3)) = (-x23) := hE.2.1
    obtain ⟨cq116, kq116, q116a, q116b, q116c⟩ := isOf hZ e114 (fc2 : Exa Z h b_7 "com/example/lane4/lane4/model/JobId")
    obtain ⟨_, _, ⟨T116, L116, k116, n116⟩, -, X116, ⟨Lc116, hQ116, l116, y116, z116⟩, st116⟩ := X114.virtualBack hx (y := (⟨"com/example/lane4/lane4/model/JobId", "equals", "(Ljava/lang/Object;)Z"⟩ : MethodName)) (z := (⟨"com/example/lane4/lane4/model/JobId", "equals", "(Ljava/lang/Object;)Z"⟩ : MethodName)) hown (mvT hZ (hw _ (List.mem_of_getElem? (i := 39) rfl))) (mvT hZ (hw _ (List.mem_of_getElem? (i := 40) rfl))) (notFace_of_selects (args := #[]) (mvT hZ (hw _ (List.mem_of_getElem? (i := 42) rfl)))) (mvT hZ (hw _ (List.mem_of_getElem? (i := 42) rfl))) (mvT hZ (hw _ (List.mem_of_getElem? (i := 41) rfl))) (by decide) (backOf (W := 0) (rm_eqF l Z a0 hw [] b_7 b_10 ((x11 <<< ((16 : Int32) &&& 0x3f).toInt64) ||| x13) p3 ((x15 <<< ((16 : Int32) &&& 0x3f).toInt64) ||| x17) x19 h n0 Zh fc3 fc4 fc6 fc7 fc8 ) hZ (hw _ (List.mem_of_getElem? (i := 43) rfl)) (hw _ (List.mem_of_getElem? (i := 4) rfl)) (by decide) (by decide)) q116a q116c (g := (mkF m 209 #[.val (.long p1), .second, .val (.long p2), .second, .val (.long p3), .second, .val (.long p4), .second, .val (.long p5), .second, .val (.int p6), .val (.long x11), .second, .val (.long x13), .second, .val (.long x15), .second, .val (.long x17), .second, .val (.long x19), .second, .val (.ref b_7), .val (.ref b_10), .val (.int x23), .unset, .unset, .unset] [(.ref b_10), (.ref b_7)])) rfl (by rw [hml]; rfl) (Steps.refl _) (argsL := [(.ref b_10)]) (rest := []) (lenOf pd_18 rfl) rfl (by show 2 * 0 + _ ≤ _; exact Nat.le_of_eq rfl) (hb hby at_209) (fun _ _ => ⟨rfl, e114, (Nat.le_trans (Nat.add_le_add_right (Nat.add_le_add_right (Nat.add_le_add_right (Nat.add_le_add_right (Nat.add_le_add_right hcl 0) 0) 0) 0) 0) (by decide)), (Nat.le_trans (Nat.add_le_add_right (Nat.add_le_add_right (Nat.add_le_add_right (Nat.add_le_add_right (Nat.add_le_add_right hsl 0) 0) 0) 0) 0) (by decide))⟩)
    dsimp only [Pt.U, Pt.locs, Pt.cells, Pt.slots] at X116 l116 y116 z116 st116 hQ116
    subst l116 y116 z116
    obtain ⟨rfl, N116q, e116⟩ := hQ116
    have N116 := Fr.app N114 N116q
    refine GoC.step (T' := T116) (f' := (mkF m 214 #[.val (.long p1), .second, .val (.long p2), .second, .val (.long p3), .second, .val (.long p4), .second, .val (.long p5), .second, .val (.int p6), .val (.long x11), .second, .val (.long x13), .second, .val (.long x15), .second, .val (.long x17), .second, .val (.long x19), .second, .val (.ref b_7), .val (.ref b_10), .val (.int x23), .unset, .unset, .unset] [(.int x23), (.int (eqF ((x11 <<< ((16 : Int32) &&& 0x3f).toInt64) ||| x13) p3 ((x15 <<< ((16 : Int32) &&& 0x3f).toInt64) ||| x17) x19))])) (fun t kt => ?_) ?_
    · show Steps p.tables e below (T114.setTop (mkF m 202 #[.val (.long p1), .second, .val (.long p2), .second, .val (.long p3), .second, .val (.long p4), .second, .val (.long p5), .second, .val (.int p6), .val (.long x11), .second, .val (.long x13), .second, .val (.long x15), .second, .val (.long x17), .second, .val (.long x19), .second, .val (.ref b_7), .val (.ref b_10), .val (.int x23), .unset, .unset, .unset] [(.int (-x23)), (.int (sigF (cmpF ((x15 <<< ((16 : Int32) &&& 0x3f).toInt64) ||| x17) x19 ((x11 <<< ((16 : Int32) &&& 0x3f).toInt64) ||| x13) p3)))])) _
      refine XS.icmpNo X114.here hx rfl (hb hby at_202) rfl (teq hd115).2 ?_
      show Steps p.tables e below (T114.setTop (mkF m 205 #[.val (.long p1), .second, .val (.long p2), .second, .val (.long p3), .second, .val (.long p4), .second, .val (.long p5), .second, .val (.int p6), .val (.long x11), .second, .val (.long x13), .second, .val (.long x15), .second, .val (.long x17), .second, .val (.long x19), .second, .val (.ref b_7), .val (.ref b_10), .val (.int x23), .unset, .unset, .unset] [])) _
      refine XS.aload X114.here hx rfl (hb hby at_205) rfl rfl ?_
      show Steps p.tables e below (T114.setTop (mkF m 207 #[.val (.long p1), .second, .val (.long p2), .second, .val (.long p3), .second, .val (.long p4), .second, .val (.long p5), .second, .val (.int p6), .val (.long x11), .second, .val (.long x13), .second, .val (.long x15), .second, .val (.long x17), .second, .val (.long x19), .second, .val (.ref b_7), .val (.ref b_10), .val (.int x23), .unset, .unset, .unset] [(.ref b_7)])) _
      refine XS.aload X114.here hx rfl (hb hby at_207) rfl rfl ?_
      show Steps p.tables e below (T114.setTop (mkF m 209 #[.val (.long p1), .second, .val (.long p2), .second, .val (.long p3), .second, .val (.long p4), .second, .val (.long p5), .second, .val (.int p6), .val (.long x11), .second, .val (.long x13), .second, .val (.long x15), .second, .val (.long x17), .second, .val (.long x19), .second, .val (.ref b_7), .val (.ref b_10), .val (.int x23), .unset, .unset, .unset] [(.ref b_10), (.ref b_7)])) _
      refine st116.trans ?_
      show Steps p.tables e below (T116.setTop (mkF m 212 #[.val (.long p1), .second, .val (.long p2), .second, .val (.long p3), .second, .val (.long p4), .second, .val (.long p5), .second, .val (.int p6), .val (.long x11), .second, .val (.long x13), .second, .val (.long x15), .second, .val (.long x17), .second, .val (.long x19), .second, .val (.ref b_7), .val (.ref b_10), .val (.int x23), .unset, .unset, .unset] [(.int (eqF ((x11 <<< ((16 : Int32) &&& 0x3f).toInt64) ||| x13) p3 ((x15 <<< ((16 : Int32) &&& 0x3f).toInt64) ||| x17) x19))])) _
      refine XS.iload X116.here hx rfl (hb hby at_212) rfl ?_
      exact kt
    by_cases hc117 : x23 = (0 : Int32)
    · have _ := hc117
      refine GoC.step (T' := T116) (f' := (mkF m 217 #[.val (.long p1), .second, .val (.long p2), .second, .val (.long p3), .second, .val (.long p4), .second, .val (.long p5), .second, .val (.int p6), .val (.long x11), .second, .val (.long x13), .second, .val (.long x15), .second, .val (.long x17), .second, .val (.long x19), .second, .val (.ref b_7), .val (.ref b_10), .val (.int x23), .unset, .unset, .unset] [(.int (eqF ((x11 <<< ((16 : Int32) &&& 0x3f).toInt64) ||| x13) p3 ((x15 <<< ((16 : Int32) &&& 0x3f).toInt64) ||| x17) x19))])) (fun t kt => ?_) ?_
      · show Steps p.tables e below (T116.setTop (mkF m 214 #[.val (.long p1), .second, .val (.long p2), .second, .val (.long p3), .second, .val (.long p4), .second, .val (.long p5), .second, .val (.int p6), .val (.long x11), .second, .val (.long x13), .second, .val (.long x15), .second, .val (.long x17), .second, .val (.long x19), .second, .val (.ref b_7), .val (.ref b_10), .val (.int x23), .unset, .unset, .unset] [(.int x23), (.int (eqF ((x11 <<< ((16 : Int32) &&& 0x3f).toInt64) ||| x13) p3 ((x15 <<< ((16 : Int32) &&& 0x3f).toInt64) ||| x17) x19))])) _
        refine XS.ifNo X116.here hx rfl (hb hby at_214) rfl ((if0 _ _).trans (teq hc117).2) ?_
        exact kt
      refine GoC.step (T' := T116) (f' := (mkF m 222 #[.val (.long p1), .second, .val (.long p2), .second, .val (.long p3), .second, .val (.long p4), .second, .val (.long p5), .second, .val (.int p6), .val (.long x11), .second, .val (.long x13), .second, .val (.long x15), .second, .val (.long x17), .second, .val (.long x19), .second, .val (.ref b_7), .val (.ref b_10), .val (.int x23), .unset, .unset, .unset] [(.int (1 : Int32)), (.int (eqF ((x11 <<< ((16 : Int32) &&& 0x3f).toInt64) ||| x13) p3 ((x15 <<< ((16 : Int32) &&& 0x3f).toInt64) ||| x17) x19))])) (fun t kt => ?_) ?_
      · show Steps p.tables e below (T116.setTop (mkF m 217 #[.val (.long p1), .second, .val (.long p2), .second, .val (.long p3), .second, .val (.long p4), .second, .val (.long p5), .second, .val (.int p6), .val (.long x11), .second, .val (.long x13), .second, .val (.long x15), .second, .val (.long x17), .second, .val (.long x19), .second, .val (.ref b_7), .val (.ref b_10), .val (.int x23), .unset, .unset, .unset] [(.int (eqF ((x11 <<< ((16 : Int32) &&& 0x3f).toInt64) ||| x13) p3 ((x15 <<< ((16 : Int32) &&& 0x3f).toInt64) ||| x17) x19))])) _
        refine XS.iconst X116.here hx rfl (hb hby at_217) ?_
        show Steps p.tables e below (T116.setTop (mkF m 218 #[.val (.long p1), .second, .val (.long p2), .second, .val (.long p3), .second, .val (.long p4), .second, .val (.long p5), .second, .val (.int p6), .val (.long x11), .second, .val (.long x13), .second, .val (.long x15), .second, .val (.long x17), .second, .val (.long x19), .second, .val (.ref b_7), .val (.ref b_10), .val (.int x23), .unset, .unset, .unset] [(.int (1 : Int32)), (.int (eqF ((x11 <<< ((16 : Int32) &&& 0x3f).toInt64) ||| x13) p3 ((x15 <<< ((16 : Int32) &&& 0x3f).toInt64) ||| x17) x19))])) _
        refine XS.goto X116.here hx rfl (pc0 := 218) (pc' := 222) rfl (hb hby at_218) (by decide) (by decide) ?_
        exact kt
      have hd118 : (eqF ((x11 <<< ((16 : Int32) &&& 0x3f).toInt64) ||| x13) p3 ((x15 <<< ((16 : Int32) &&& 0x3f).toInt64) ||| x17) x19) = (1 : Int32) := hE.2.2.trans (if_pos (by assumption))
      refine GoC.step (T' := T116) (f' := (mkF m 232 #[.val (.long p1), .second, .val (.long p2), .second, .val (.long p3), .second, .val (.long p4), .second, .val (.long p5), .second, .val (.int p6), .val (.long x11), .second, .val (.long x13), .second, .val (.long x15), .second, .val (.long x17), .second, .val (.long x19), .second, .val (.ref b_7), .val (.ref b_10), .val (.int x23), .val (.int (1 : Int32)), .unset, .unset] [])) (fun t kt => ?_) ?_
      · show Steps p.tables e below (T116.setTop (mkF m 222 #[.val (.long p1), .second, .val (.long p2), .second, .val (.long p3), .second, .val (.long p4), .second, .val (.long p5), .second, .val (.int p6), .val (.long x11), .second, .val (.long x13), .second, .val (.long x15), .second, .val (.long x17), .second, .val (.long x19), .second, .val (.ref b_7), .val (.ref b_10), .val (.int x23), .unset, .unset, .unset] [(.int (1 : Int32)), (.int (eqF ((x11 <<< ((16 : Int32) &&& 0x3f).toInt64) ||| x13) p3 ((x15 <<< ((16 : Int32) &&& 0x3f).toInt64) ||| x17) x19))])) _
        refine XS.icmpNo X116.here hx rfl (hb hby at_222) rfl (teq hd118).2 ?_
        show Steps p.tables e below (T116.setTop (mkF m 225 #[.val (.long p1), .second, .val (.long p2), .second, .val (.long p3), .second, .val (.long p4), .second, .val (.long p5), .second, .val (.int p6), .val (.long x11), .second, .val (.long x13), .second, .val (.long x15), .second, .val (.long x17), .second, .val (.long x19), .second, .val (.ref b_7), .val (.ref b_10), .val (.int x23), .unset, .unset, .unset] [])) _
        refine XS.iconst X116.here hx rfl (hb hby at_225) ?_
        show Steps p.tables e below (T116.setTop (mkF m 226 #[.val (.long p1), .second, .val (.long p2), .second, .val (.long p3), .second, .val (.long p4), .second, .val (.long p5), .second, .val (.int p6), .val (.long x11), .second, .val (.long x13), .second, .val (.long x15), .second, .val (.long x17), .second, .val (.long x19), .second, .val (.ref b_7), .val (.ref b_10), .val (.int x23), .unset, .unset, .unset] [(.int (1 : Int32))])) _
        refine XS.goto X116.here hx rfl (pc0 := 226) (pc' := 230) rfl (hb hby at_226) (by decide) (by decide) ?_
        show Steps p.tables e below (T116.setTop (mkF m 230 #[.val (.long p1), .second, .val (.long p2), .second, .val (.long p3), .second, .val (.long p4), .second, .val (.long p5), .second, .val (.int p6), .val (.long x11), .second, .val (.long x13), .second, .val (.long x15), .second, .val (.long x17), .second, .val (.long x19), .second, .val (.ref b_7), .val (.ref b_10), .val (.int x23), .unset, .unset, .unset] [(.int (1 : Int32))])) _
        refine XS.istore X116.here hx rfl (hb hby at_230) rfl (l' := #[.val (.long p1), .second, .val (.long p2), .second, .val (.long p3), .second, .val (.long p4), .second, .val (.long p5), .second, .val (.int p6), .val (.long x11), .second, .val (.long x13), .second, .val (.long x15), .second, .val (.long x17), .second, .val (.long x19), .second, .val (.ref b_7), .val (.ref b_10), .val (.int x23), .val (.int (1 : Int32)), .unset, .unset]) rfl ?_
        exact kt
      exact S232 _ _ _ _ X116 (Nat.le_trans (Nat.add_le_add_right (Nat.add_le_add_right (Nat.add_le_add_right (Nat.add_le_add_right (Nat.add_le_add_right hcl 0) 0) 0) 0) 0) (by decide)) (Nat.le_trans (Nat.add_le_add_right (Nat.add_le_add_right (Nat.add_le_add_right (Nat.add_le_add_right (Nat.add_le_add_right hsl 0) 0) 0) 0) 0) (by decide)) h e116 N116 x11 x13 x15 x17 x19 x23 b_7 b_10 K HC fc0 fc1 fc2 fc3 fc4 fc5 fc6 fc7 fc8 fc9 g_b_7 g_b_10 sz_b_7 sz_b_10 ne_b_7_b_10 h11 h13
    · have _ := hc117
      refine GoC.step (T' := T116) (f' := (mkF m 221 #[.val (.long p1), .second, .val (.long p2), .second, .val (.long p3), .second, .val (.long p4), .second, .val (.long p5), .second, .val (.int p6), .val (.long x11), .second, .val (.long x13), .second, .val (.long x15), .second, .val (.long x17), .second, .val (.long x19), .second, .val (.ref b_7), .val (.ref b_10), .val (.int x23), .unset, .unset, .unset] [(.int (eqF ((x11 <<< ((16 : Int32) &&& 0x3f).toInt64) ||| x13) p3 ((x15 <<< ((16 : Int32) &&& 0x3f).toInt64) ||| x17) x19))])) (fun t kt => ?_) ?_
      · show Steps p.tables e below (T116.setTop (mkF m 214 #[.val (.long p1), .second, .val (.long p2), .second, .val (.long p3), .second, .val (.long p4), .second, .val (.long p5), .second, .val (.int p6), .val (.long x11), .second, .val (.long x13), .second, .val (.long x15), .second, .val (.long x17), .second, .val (.long x19), .second, .val (.ref b_7), .val (.ref b_10), .val (.int x23), .unset, .unset, .unset] [(.int x23), (.int (eqF ((x11 <<< ((16 : Int32) &&& 0x3f).toInt64) ||| x13) p3 ((x15 <<< ((16 : Int32) &&& 0x3f).toInt64) ||| x17) x19))])) _
        refine XS.ifYes X116.here hx rfl (pc0 := 214) (pc' := 221) rfl (hb hby at_214) rfl ((if0 _ _).trans (feq hc117).2) (by decide) (by decide) ?_
        exact kt
      refine GoC.step (T' := T116) (f' := (mkF m 222 #[.val (.long p1), .second, .val (.long p2), .second, .val (.long p3), .second, .val (.long p4), .second, .val (.long p5), .second, .val (.int p6), .val (.long x11), .second, .val (.long x13), .second, .val (.long x15), .second, .val (.long x17), .second, .val (.long x19), .second, .val (.ref b_7), .val (.ref b_10), .val (.int x23), .unset, .unset, .unset] [(.int (0 : Int32)), (.int (eqF ((x11 <<< ((16 : Int32) &&& 0x3f).toInt64) ||| x13) p3 ((x15 <<< ((16 : Int32) &&& 0x3f).toInt64) ||| x17) x19))])) (fun t kt => ?_) ?_
      · show Steps p.tables e below (T116.setTop (mkF m 221 #[.val (.long p1), .second, .val (.long p2), .second, .val (.long p3), .second, .val (.long p4), .second, .val (.long p5), .second, .val (.int p6), .val (.long x11), .second, .val (.long x13), .second, .val (.long x15), .second, .val (.long x17), .second, .val (.long x19), .second, .val (.ref b_7), .val (.ref b_10), .val (.int x23), .unset, .unset, .unset] [(.int (eqF ((x11 <<< ((16 : Int32) &&& 0x3f).toInt64) ||| x13) p3 ((x15 <<< ((16 : Int32) &&& 0x3f).toInt64) ||| x17) x19))])) _
        refine XS.iconst X116.here hx rfl (hb hby at_221) ?_
        exact kt
      have hd119 : (eqF ((x11 <<< ((16 : Int32) &&& 0x3f).toInt64) ||| x13) p3 ((x15 <<< ((16 : Int32) &&& 0x3f).toInt64) ||| x17) x19) = (0 : Int32) := hE.2.2.trans (if_neg (by assumption))
      refine GoC.step (T' := T116) (f' := (mkF m 232 #[.val (.long p1), .second, .val (.long p2), .second, .val (.long p3), .second, .val (.long p4), .second, .val (.long p5), .second, .val (.int p6), .val (.long x11), .second, .val (.long x13), .second, .val (.long x15), .second, .val (.long x17), .second, .val (.long x19), .second, .val (.ref b_7), .val (.ref b_10), .val (.int x23), .val (.int (1 : Int32)), .unset, .unset] [])) (fun t kt => ?_) ?_
      · show Steps p.tables e below (T116.setTop (mkF m 222 #[.val (.long p1), .second, .val (.long p2), .second, .val (.long p3), .second, .val (.long p4), .second, .val (.long p5), .second, .val (.int p6), .val (.long x11), .second, .val (.long x13), .second, .val (.long x15), .second, .val (.long x17), .second, .val (.long x19), .second, .val (.ref b_7), .val (.ref b_10), .val (.int x23), .unset, .unset, .unset] [(.int (0 : Int32)), (.int (eqF ((x11 <<< ((16 : Int32) &&& 0x3f).toInt64) ||| x13) p3 ((x15 <<< ((16 : Int32) &&& 0x3f).toInt64) ||| x17) x19))])) _
        refine XS.icmpNo X116.here hx rfl (hb hby at_222) rfl (teq hd119).2 ?_
        show Steps p.tables e below (T116.setTop (mkF m 225 #[.val (.long p1), .second, .val (.long p2), .second, .val (.long p3), .second, .val (.long p4), .second, .val (.long p5), .second, .val (.int p6), .val (.long x11), .second, .val (.long x13), .second, .val (.long x15), .second, .val (.long x17), .second, .val (.long x19), .second, .val (.ref b_7), .val (.ref b_10), .val (.int x23), .unset, .unset, .unset] [])) _
        refine XS.iconst X116.here hx rfl (hb hby at_225) ?_
        show Steps p.tables e below (T116.setTop (mkF m 226 #[.val (.long p1), .second, .val (.long p2), .second, .val (.long p3), .second, .val (.long p4), .second, .val (.long p5), .second, .val (.int p6), .val (.long x11), .second, .val (.long x13), .second, .val (.long x15), .second, .val (.long x17), .second, .val (.long x19), .second, .val (.ref b_7), .val (.ref b_10), .val (.int x23), .unset, .unset, .unset] [(.int (1 : Int32))])) _
        refine XS.goto X116.here hx rfl (pc0 := 226) (pc' := 230) rfl (hb hby at_226) (by decide) (by decide) ?_
        show Steps p.tables e below (T116.setTop (mkF m 230 #[.val (.long p1), .second, .val (.long p2), .second, .val (.long p3), .second, .val (.long p4), .second, .val (.long p5), .second, .val (.int p6), .val (.long x11), .second, .val (.long x13), .second, .val (.long x15), .second, .val (.long x17), .second, .val (.long x19), .second, .val (.ref b_7), .val (.ref b_10), .val (.int x23), .unset, .unset, .unset] [(.int (1 : Int32))])) _
        refine XS.istore X116.here hx rfl (hb hby at_230) rfl (l' := #[.val (.long p1), .second, .val (.long p2), .second, .val (.long p3), .second, .val (.long p4), .second, .val (.long p5), .second, .val (.int p6), .val (.long x11), .second, .val (.long x13), .second, .val (.long x15), .second, .val (.long x17), .second, .val (.long x19), .second, .val (.ref b_7), .val (.ref b_10), .val (.int x23), .val (.int (1 : Int32)), .unset, .unset]) rfl ?_
        exact kt
      exact S232 _ _ _ _ X116 (Nat.le_trans (Nat.add_le_add_right (Nat.add_le_add_right (Nat.add_le_add_right (Nat.add_le_add_right (Nat.add_le_add_right hcl 0) 0) 0) 0) 0) (by decide)) (Nat.le_trans (Nat.add_le_add_right (Nat.add_le_add_right (Nat.add_le_add_right (Nat.add_le_add_right (Nat.add_le_add_right hsl 0) 0) 0) 0) 0) (by decide)) h e116 N116 x11 x13 x15 x17 x19 x23 b_7 b_10 K HC fc0 fc1 fc2 fc3 fc4 fc5 fc6 fc7 fc8 fc9 g_b_7 g_b_10 sz_b_7 sz_b_10 ne_b_7_b_10 h11 h13
  have S67 : ∀ (T : State) (locs : List Loc) (cells slots : Nat) (X : Stand p l e room_1 (s.setVm s.vm) m #[(.long p1), (.long p2), (.long p3), (.long p4), (.long p5), (.int p6)] below meth c T locs cells slots) (hcl : cells ≤ 0) (hsl : slots ≤ 0) (h : Heap) (eT : T.heap = h) (N : Fr n0 locs) (x11 : Int64) (x13 : Int64) (x15 : Int64) (x17 : Int64) (t0 : Int64)  (K : Keep h0 h []) (HC : CHr Z consts_1 s.vm s.heap s.vm h) (fc0 : Sta Z h "java/lang/String" "COMPACT_STRINGS" "Z" (.int cs)) (fc1 : Sta Z h "jdk/internal/util/Preconditions" "SIOOBE_FORMATTER" "Ljava/util/function/BiFunction;" fo) (h11 : 0 ≤ x11.toInt ∧ x11.toInt < 281474976710656) (h13 : 0 ≤ x13.toInt ∧ x13.toInt < 65536) (h15 : 0 ≤ x15.toInt ∧ x15.toInt < 281474976710656) (h17 : 0 ≤ x17.toInt ∧ x17.toInt < 65536), GoC p e below s Z consts_1 (Q0 Z p1 p2 p3 p4 p5 p6 cs fo h0 n0) 24 2304 T (mkF m 67 #[.val (.long p1), .second, .val (.long p2), .second, .val (.long p3), .second, .val (.long p4), .second, .val (.long p5), .second, .val (.int p6), .val (.long x11), .second, .val (.long x13), .second, .val (.long x15), .second, .val (.long x17), .second, .unset, .unset, .unset, .unset, .unset, .unset, .unset, .unset] [(.long t0)]) := by
    intro T locs cells slots X hcl hsl h eT N x11 x13 x15 x17 t0 K HC fc0 fc1 h11 h13 h15 h17
    have Zh : n0 ≤ h.size := Nat.le_trans Z0 K.1
    have hkS : h0.size ≤ h.size := K.1
    obtain ⟨_, _, ⟨T120, L120, k120, n120⟩, -, X120, ⟨Lc120, hQ120, l120, y120, z120⟩, st120⟩ := Jvm.LawKit.callS X hx (y := (⟨"com/example/lane4/lane4/model/JobId", "of", "(JJJ)Lcom/example/lane4/lane4/model/JobId;"⟩ : MethodName)) hown (mvT hZ (hw _ (List.mem_of_getElem? (i := 2) rfl))) (mvT hZ (hw _ (List.mem_of_getElem? (i := 3) rfl))) (mvT hZ (hw _ (List.mem_of_getElem? (i := 4) rfl))) (mvT hZ (hw _ (List.mem_of_getElem? (i := 5) rfl))) (by decide) (backOf (W := 0) (rm_ofJ l Z a0 hw [] x11 x13 p3  h n0 Zh  ) hZ (hw _ (List.mem_of_getElem? (i := 5) rfl)) (hw _ (List.mem_of_getElem? (i := 4) rfl)) (by decide) (by decide)) (g := (mkF m 75 #[.val (.long p1), .second, .val (.long p2), .second, .val (.long p3), .second, .val (.long p4), .second, .val (.long p5), .second, .val (.int p6), .val (.long x11), .second, .val (.long x13), .second, .val (.long x15), .second, .val (.long x17), .second, .val (.long t0), .second, .unset, .unset, .unset, .unset, .unset, .unset] [(.long p3), (.long x13), (.long x11)])) rfl (by rw [hml]; rfl) (argsL := [(.long x11), (.long x13), (.long p3)]) (rest := []) (lenOf pd_14 rfl) rfl (by show 2 * 0 + _ ≤ _; exact Nat.le_of_eq rfl) (hb hby at_75) (fun _ _ => ⟨rfl, eT, (Nat.le_trans (Nat.add_le_add_right hcl 1) (by decide)), (Nat.le_trans (Nat.add_le_add_right hsl 3) (by decide))⟩)
    dsimp only [Pt.U, Pt.locs, Pt.cells, Pt.slots] at X120 l120 y120 z120 st120 hQ120
    subst l120 y120 z120
    obtain ⟨b_120, rfl, N120q, Kq120, fz_b_120, pf120_0, pf120_1, pf120_2, pf120_3⟩ := hQ120
    have G121 : Sta Z T120.heap "java/lang/String" "COMPACT_STRINGS" "Z" (.int cs) := fc0.keep0 Kq120
    have G122 : Sta Z T120.heap "jdk/internal/util/Preconditions" "SIOOBE_FORMATTER" "Ljava/util/function/BiFunction;" fo := fc1.keep0 Kq120
    have g_b_120 : n0 ≤ b_120 := Nat.le_trans Zh fz_b_120
    have sz_b_120 : h0.size ≤ b_120 := Nat.le_trans K.1 fz_b_120
    have CR120 := CHr.keep Kq120 all0 HC.1
    have HC120 := HC.trans CR120
    have hk120 := Nat.le_trans hkS CR120.2.1
    have K120 : Keep h0 T120.heap [] := Keep.trans K Kq120 all0
    have Z120 : n0 ≤ T120.heap.size := Nat.le_trans Z0 K120.1
    have N120 := Fr.app N N120q
    obtain ⟨_, _, ⟨T123, L123, k123, n123⟩, -, X123, ⟨Lc123, hQ123, l123, y123, z123⟩, st123⟩ := Jvm.LawKit.callS X120 hx (y := (⟨"com/example/lane4/lane4/model/JobId", "of", "(JJJ)Lcom/example/lane4/lane4/model/JobId;"⟩ : MethodName)) hown (mvT hZ (hw _ (List.mem_of_getElem? (i := 2) rfl))) (mvT hZ (hw _ (List.mem_of_getElem? (i := 3) rfl))) (mvT hZ (hw _ (List.mem_of_getElem? (i := 4) rfl))) (mvT hZ (hw _ (List.mem_of_getElem? (i := 5) rfl))) (by decide) (backOf (W := 0) (rm_ofJ l Z a0 hw [] x15 x17 t0  T120.heap n0 Z120  ) hZ (hw _ (List.mem_of_getElem? (i := 5) rfl)) (hw _ (List.mem_of_getElem? (i := 4) rfl)) (by decide) (by decide)) (g := (mkF m 86 #[.val (.long p1), .second, .val (.long p2), .second, .val (.long p3), .second, .val (.long p4), .second, .val (.long p5), .second, .val (.int p6), .val (.long x11), .second, .val (.long x13), .second, .val (.long x15), .second, .val (.long x17), .second, .val (.long t0), .second, .val (.ref b_120), .unset, .unset, .unset, .unset, .unset] [(.long t0), (.long x17), (.long x15)])) rfl (by rw [hml]; rfl) (argsL := [(.long x15), (.long x17), (.long t0)]) (rest := []) (lenOf pd_14 rfl) rfl (by show 2 * 0 + _ ≤ _; exact Nat.le_of_eq rfl) (hb hby at_86) (fun _ _ => ⟨rfl, rfl, (Nat.le_trans (Nat.add_le_add_right (Nat.add_le_add_right hcl 1) 1) (by decide)), (Nat.le_trans (Nat.add_le_add_right (Nat.add_le_add_right hsl 3) 3) (by decide))⟩)
    dsimp only [Pt.U, Pt.locs, Pt.cells, Pt.slots] at X123 l123 y123 z123 st123 hQ123
    subst l123 y123 z123
    obtain ⟨b_123, rfl, N123q, Kq123, fz_b_123, pf123_0, pf123_1, pf123_2, pf123_3⟩ := hQ123
    have oldlt_123_b_120 : b_120 < T120.heap.size := pf120_0.lt
    have G124 : Sta Z T123.heap "java/lang/String" "COMPACT_STRINGS" "Z" (.int cs) := G121.keep0 Kq123
    have G125 : Sta Z T123.heap "jdk/internal/util/Preconditions" "SIOOBE_FORMATTER" "Ljava/util/function/BiFunction;" fo := G122.keep0 Kq123
    have G126 : Exa Z T123.heap b_120 "com/example/lane4/lane4/model/JobId" := Exa.keep pf120_0 Kq123
    have G127 : Fld Z T123.heap b_120 "com/example/lane4/lane4/model/JobId" "high" "J" (.long ((x11 <<< ((16 : Int32) &&& 0x3f).toInt64) ||| x13)) := pf120_1.keep Kq123 nin0
    have G128 : Fld Z T123.heap b_120 "com/example/lane4/lane4/model/JobId" "low" "J" (.long p3) := pf120_2.keep Kq123 nin0
    have G129 : Fld Z T123.heap b_120 "com/example/lane4/lane4/model/JobId" "text" "Ljava/lang/String;" .null := pf120_3.keep Kq123 nin0
    have ne_b_120_b_123 : b_120 ≠ b_123 := Nat.ne_of_lt (Nat.lt_of_lt_of_le oldlt_123_b_120 fz_b_123)
    have g_b_123 : n0 ≤ b_123 := Nat.le_trans Z120 fz_b_123
    have sz_b_123 : h0.size ≤ b_123 := Nat.le_trans K120.1 fz_b_123
    have CR123 := CHr.keep Kq123 all0 HC120.1
    have HC123 := HC120.trans CR123
    have hk123 := Nat.le_trans hk120 CR123.2.1
    have K123 : Keep h0 T123.heap [] := Keep.trans K120 Kq123 all0
    have Z123 : n0 ≤ T123.heap.size := Nat.le_trans Z0 K123.1
    have N123 := Fr.app N120 N123q
    refine GoC.step (T' := T123) (f' := (mkF m 96 #[.val (.long p1), .second, .val (.long p2), .second, .val (.long p3), .second, .val (.long p4), .second, .val (.long p5), .second, .val (.int p6), .val (.long x11), .second, .val (.long x13), .second, .val (.long x15), .second, .val (.long x17), .second, .val (.long t0), .second, .val (.ref b_120), .val (.ref b_123), .unset, .unset, .unset, .unset] [(.int (lcmpW x11 x15))])) (fun t kt => ?_) ?_
    · show Steps p.tables e below (T.setTop (mkF m 67 #[.val (.long p1), .second, .val (.long p2), .second, .val (.long p3), .second, .val (.long p4), .second, .val (.long p5), .second, .val (.int p6), .val (.long x11), .second, .val (.long x13), .second, .val (.long x15), .second, .val (.long x17), .second, .unset, .unset, .unset, .unset, .unset, .unset, .unset, .unset] [(.long t0)])) _
      refine XS.lstore X.here hx rfl (hb hby at_67) rfl (l' := #[.val (.long p1), .second, .val (.long p2), .second, .val (.long p3), .second, .val (.long p4), .second, .val (.long p5), .second, .val (.int p6), .val (.long x11), .second, .val (.long x13), .second, .val (.long x15), .second, .val (.long x17), .second, .val (.long t0), .second, .unset, .unset, .unset, .unset, .unset, .unset]) rfl ?_
      show Steps p.tables e below (T.setTop (mkF m 69 #[.val (.long p1), .second, .val (.long p2), .second, .val (.long p3), .second, .val (.long p4), .second, .val (.long p5), .second, .val (.int p6), .val (.long x11), .second, .val (.long x13), .second, .val (.long x15), .second, .val (.long x17), .second, .val (.long t0), .second, .unset, .unset, .unset, .unset, .unset, .unset] [])) _
      refine XS.lload X.here hx rfl (hb hby at_69) rfl ?_
      show Steps p.tables e below (T.setTop (mkF m 71 #[.val (.long p1), .second, .val (.long p2), .second, .val (.long p3), .second, .val (.long p4), .second, .val (.long p5), .second, .val (.int p6), .val (.long x11), .second, .val (.long x13), .second, .val (.long x15), .second, .val (.long x17), .second, .val (.long t0), .second, .unset, .unset, .unset, .unset, .unset, .unset] [(.long x11)])) _
      refine XS.lload X.here hx rfl (hb hby at_71) rfl ?_
      show Steps p.tables e below (T.setTop (mkF m 73 #[.val (.long p1), .second, .val (.long p2), .second, .val (.long p3), .second, .val (.long p4), .second, .val (.long p5), .second, .val (.int p6), .val (.long x11), .second, .val (.long x13), .second, .val (.long x15), .second, .val (.long x17), .second, .val (.long t0), .second, .unset, .unset, .unset, .unset, .unset, .unset] [(.long x13), (.long x11)])) _
      refine XS.lload X.here hx rfl (hb hby at_73) rfl ?_
      show Steps p.tables e below (T.setTop (mkF m 75 #[.val (.long p1), .second, .val (.long p2), .second, .val (.long p3), .second, .val (.long p4), .second, .val (.long p5), .second, .val (.int p6), .val (.long x11), .second, .val (.long x13), .second, .val (.long x15), .second, .val (.long x17), .second, .val (.long t0), .second, .unset, .unset, .unset, .unset, .unset, .unset] [(.long p3), (.long x13), (.long x11)])) _
      refine st120 _ ?_
      show Steps p.tables e below (T120.setTop (mkF m 78 #[.val (.long p1), .second, .val (.long p2), .second, .val (.long p3), .second, .val (.long p4), .second, .val (.long p5), .second, .val (.int p6), .val (.long x11), .second, .val (.long x13), .second, .val (.long x15), .second, .val (.long x17), .second, .val (.long t0), .second, .unset, .unset, .unset, .unset, .unset, .unset] [(.ref b_120)])) _
      refine XS.astore X120.here hx rfl (hb hby at_78) rfl rfl (l' := #[.val (.long p1), .second, .val (.long p2), .second, .val (.long p3), .second, .val (.long p4), .second, .val (.long p5), .second, .val (.int p6), .val (.long x11), .second, .val (.long x13), .second, .val (.long x15), .second, .val (.long x17), .second, .val (.long t0), .second, .val (.ref b_120), .unset, .unset, .unset, .unset, .unset]) rfl ?_
      show Steps p.tables e below (T120.setTop (mkF m 80 #[.val (.long p1), .second, .val (.long p2), .second, .val (.long p3), .second, .val (.long p4), .second, .val (.long p5), .second, .val (.int p6), .val (.long x11), .second, .val (.long x13), .second, .val (.long x15), .second, .val (.long x17), .second, .val (.long t0), .second, .val (.ref b_120), .unset, .unset, .unset, .unset, .unset] [])) _
      refine XS.lload X120.here hx rfl (hb hby at_80) rfl ?_
      show Steps p.tables e below (T120.setTop (mkF m 82 #[.val (.long p1), .second, .val (.long p2), .second, .val (.long p3), .second, .val (.long p4), .second, .val (.long p5), .second, .val (.int p6), .val (.long x11), .second, .val (.long x13), .second, .val (.long x15), .second, .val (.long x17), .second, .val (.long t0), .second, .val (.ref b_120), .unset, .unset, .unset, .unset, .unset] [(.long x15)])) _
      refine XS.lload X120.here hx rfl (hb hby at_82) rfl ?_
      show Steps p.tables e below (T120.setTop (mkF m 84 #[.val (.long p1), .second, .val (.long p2), .second, .val (.long p3), .second, .val (.long p4), .second, .val (.long p5), .second, .val (.int p6), .val (.long x11), .second, .val (.long x13), .second, .val (.long x15), .second, .val (.long x17), .second, .val (.long t0), .second, .val (.ref b_120), .unset, .unset, .unset, .unset, .unset] [(.long x17), (.long x15)])) _
      refine XS.lload X120.here hx rfl (hb hby at_84) rfl ?_
      show Steps p.tables e below (T120.setTop (mkF m 86 #[.val (.long p1), .second, .val (.long p2), .second, .val (.long p3), .second, .val (.long p4), .second, .val (.long p5), .second, .val (.int p6), .val (.long x11), .second, .val (.long x13), .second, .val (.long x15), .second, .val (.long x17), .second, .val (.long t0), .second, .val (.ref b_120), .unset, .unset, .unset, .unset, .unset] [(.long t0), (.long x17), (.long x15)])) _
      refine st123 _ ?_
      show Steps p.tables e below (T123.setTop (mkF m 89 #[.val (.long p1), .second, .val (.long p2), .second, .val (.long p3), .second, .val (.long p4), .second, .val (.long p5), .second, .val (.int p6), .val (.long x11), .second, .val (.long x13), .second, .val (.long x15), .second, .val (.long x17), .second, .val (.long t0), .second, .val (.ref b_120), .unset, .unset, .unset, .unset, .unset] [(.ref b_123)])) _
      refine XS.astore X123.here hx rfl (hb hby at_89) rfl rfl (l' := #[.val (.long p1), .second, .val (.long p2), .second, .val (.long p3), .second, .val (.long p4), .second, .val (.long p5), .second, .val (.int p6), .val (.long x11), .second, .val (.long x13), .second, .val (.long x15), .second, .val (.long x17), .second, .val (.long t0), .second, .val (.ref b_120), .val (.ref b_123), .unset, .unset, .unset, .unset]) rfl ?_
      show Steps p.tables e below (T123.setTop (mkF m 91 #[.val (.long p1), .second, .val (.long p2), .second, .val (.long p3), .second, .val (.long p4), .second, .val (.long p5), .second, .val (.int p6), .val (.long x11), .second, .val (.long x13), .second, .val (.long x15), .second, .val (.long x17), .second, .val (.long t0), .second, .val (.ref b_120), .val (.ref b_123), .unset, .unset, .unset, .unset] [])) _
      refine XS.lload X123.here hx rfl (hb hby at_91) rfl ?_
      show Steps p.tables e below (T123.setTop (mkF m 93 #[.val (.long p1), .second, .val (.long p2), .second, .val (.long p3), .second, .val (.long p4), .second, .val (.long p5), .second, .val (.int p6), .val (.long x11), .second, .val (.long x13), .second, .val (.long x15), .second, .val (.long x17), .second, .val (.long t0), .second, .val (.ref b_120), .val (.ref b_123), .unset, .unset, .unset, .unset] [(.long x11)])) _
      refine XS.lload X123.here hx rfl (hb hby at_93) rfl ?_
      show Steps p.tables e below (T123.setTop (mkF m 95 #[.val (.long p1), .second, .val (.long p2), .second, .val (.long p3), .second, .val (.long p4), .second, .val (.long p5), .second, .val (.int p6), .val (.long x11), .second, .val (.long x13), .second, .val (.long x15), .second, .val (.long x17), .second, .val (.long t0), .second, .val (.ref b_120), .val (.ref b_123), .unset, .unset, .unset, .unset] [(.long x15), (.long x11)])) _
      refine XS.lcmp X123.here hx rfl (hb hby at_95) rfl ?_
      exact kt
    by_cases hc130 : x11 = x15
    · have _ := hc130
      refine GoC.step (T' := T123) (f' := (mkF m 117 #[.val (.long p1), .second, .val (.long p2), .second, .val (.long p3), .second, .val (.long p4), .second, .val (.long p5), .second, .val (.int p6), .val (.long x11), .second, .val (.long x13), .second, .val (.long x15), .second, .val (.long x17), .second, .val (.long t0), .second, .val (.ref b_120), .val (.ref b_123), .unset, .unset, .unset, .unset] [])) (fun t kt => ?_) ?_
      · show Steps p.tables e below (T123.setTop (mkF m 96 #[.val (.long p1), .second, .val (.long p2), .second, .val (.long p3), .second, .val (.long p4), .second, .val (.long p5), .second, .val (.int p6), .val (.long x11), .second, .val (.long x13), .second, .val (.long x15), .second, .val (.long x17), .second, .val (.long t0), .second, .val (.ref b_120), .val (.ref b_123), .unset, .unset, .unset, .unset] [(.int (lcmpW x11 x15))])) _
        refine XS.ifYes X123.here hx rfl (pc0 := 96) (pc' := 117) rfl (hb hby at_96) rfl ((if0 _ _).trans (teq ((lw_eq _ _).mpr hc130)).1) (by decide) (by decide) ?_
        exact kt
      refine GoC.step (T' := T123) (f' := (mkF m 122 #[.val (.long p1), .second, .val (.long p2), .second, .val (.long p3), .second, .val (.long p4), .second, .val (.long p5), .second, .val (.int p6), .val (.long x11), .second, .val (.long x13), .second, .val (.long x15), .second, .val (.long x17), .second, .val (.long t0), .second, .val (.ref b_120), .val (.ref b_123), .unset, .unset, .unset, .unset] [(.int (lcmpW x13 x17))])) (fun t kt => ?_) ?_
      · show Steps p.tables e below (T123.setTop (mkF m 117 #[.val (.long p1), .second, .val (.long p2), .second, .val (.long p3), .second, .val (.long p4), .second, .val (.long p5), .second, .val (.int p6), .val (.long x11), .second, .val (.long x13), .second, .val (.long x15), .second, .val (.long x17), .second, .val (.long t0), .second, .val (.ref b_120), .val (.ref b_123), .unset, .unset, .unset, .unset] [])) _
        refine XS.lload X123.here hx rfl (hb hby at_117) rfl ?_
        show Steps p.tables e below (T123.setTop (mkF m 119 #[.val (.long p1), .second, .val (.long p2), .second, .val (.long p3), .second, .val (.long p4), .second, .val (.long p5), .second, .val (.int p6), .val (.long x11), .second, .val (.long x13), .second, .val (.long x15), .second, .val (.long x17), .second, .val (.long t0), .second, .val (.ref b_120), .val (.ref b_123), .unset, .unset, .unset, .unset] [(.long x13)])) _
        refine XS.lload X123.here hx rfl (hb hby at_119) rfl ?_
        show Steps p.tables e below (T123.setTop (mkF m 121 #[.val (.long p1), .second, .val (.long p2), .second, .val (.long p3), .second, .val (.long p4), .second, .val (.long p5), .second, .val (.int p6), .val (.long x11), .second, .val (.long x13), .second, .val (.long x15), .second, .val (.long x17), .second, .val (.long t0), .second, .val (.ref b_120), .val (.ref b_123), .unset, .unset, .unset, .unset] [(.long x17), (.long x13)])) _
        refine XS.lcmp X123.here hx rfl (hb hby at_121) rfl ?_
        exact kt
      by_cases hc131 : x13 = x17
      · have _ := hc131
        refine GoC.step (T' := T123) (f' := (mkF m 143 #[.val (.long p1), .second, .val (.long p2), .second, .val (.long p3), .second, .val (.long p4), .second, .val (.long p5), .second, .val (.int p6), .val (.long x11), .second, .val (.long x13), .second, .val (.long x15), .second, .val (.long x17), .second, .val (.long t0), .second, .val (.ref b_120), .val (.ref b_123), .unset, .unset, .unset, .unset] [])) (fun t kt => ?_) ?_
        · show Steps p.tables e below (T123.setTop (mkF m 122 #[.val (.long p1), .second, .val (.long p2), .second, .val (.long p3), .second, .val (.long p4), .second, .val (.long p5), .second, .val (.int p6), .val (.long x11), .second, .val (.long x13), .second, .val (.long x15), .second, .val (.long x17), .second, .val (.long t0), .second, .val (.ref b_120), .val (.ref b_123), .unset, .unset, .unset, .unset] [(.int (lcmpW x13 x17))])) _
          refine XS.ifYes X123.here hx rfl (pc0 := 122) (pc' := 143) rfl (hb hby at_122) rfl ((if0 _ _).trans (teq ((lw_eq _ _).mpr hc131)).1) (by decide) (by decide) ?_
          exact kt
        refine GoC.step (T' := T123) (f' := (mkF m 148 #[.val (.long p1), .second, .val (.long p2), .second, .val (.long p3), .second, .val (.long p4), .second, .val (.long p5), .second, .val (.int p6), .val (.long x11), .second, .val (.long x13), .second, .val (.long x15), .second, .val (.long x17), .second, .val (.long t0), .second, .val (.ref b_120), .val (.ref b_123), .unset, .unset, .unset, .unset] [(.int (lcmpW p3 t0))])) (fun t kt => ?_) ?_
        · show Steps p.tables e below (T123.setTop (mkF m 143 #[.val (.long p1), .second, .val (.long p2), .second, .val (.long p3), .second, .val (.long p4), .second, .val (.long p5), .second, .val (.int p6), .val (.long x11), .second, .val (.long x13), .second, .val (.long x15), .second, .val (.long x17), .second, .val (.long t0), .second, .val (.ref b_120), .val (.ref b_123), .unset, .unset, .unset, .unset] [])) _
          refine XS.lload X123.here hx rfl (hb hby at_143) rfl ?_
          show Steps p.tables e below (T123.setTop (mkF m 145 #[.val (.long p1), .second, .val (.long p2), .second, .val (.long p3), .second, .val (.long p4), .second, .val (.long p5), .second, .val (.int p6), .val (.long x11), .second, .val (.long x13), .second, .val (.long x15), .second, .val (.long x17), .second, .val (.long t0), .second, .val (.ref b_120), .val (.ref b_123), .unset, .unset, .unset, .unset] [(.long p3)])) _
          refine XS.lload X123.here hx rfl (hb hby at_145) rfl ?_
          show Steps p.tables e below (T123.setTop (mkF m 147 #[.val (.long p1), .second, .val (.long p2), .second, .val (.long p3), .second, .val (.long p4), .second, .val (.long p5), .second, .val (.int p6), .val (.long x11), .second, .val (.long x13), .second, .val (.long x15), .second, .val (.long x17), .second, .val (.long t0), .second, .val (.ref b_120), .val (.ref b_123), .unset, .unset, .unset, .unset] [(.long t0), (.long p3)])) _
          refine XS.lcmp X123.here hx rfl (hb hby at_147) rfl ?_
          exact kt
        by_cases hc132 : p3 = t0
        · have _ := hc132
          refine GoC.step (T' := T123) (f' := (mkF m 171 #[.val (.long p1), .second, .val (.long p2), .second, .val (.long p3), .second, .val (.long p4), .second, .val (.long p5), .second, .val (.int p6), .val (.long x11), .second, .val (.long x13), .second, .val (.long x15), .second, .val (.long x17), .second, .val (.long t0), .second, .val (.ref b_120), .val (.ref b_123), .unset, .unset, .unset, .unset] [])) (fun t kt => ?_) ?_
          · show Steps p.tables e below (T123.setTop (mkF m 148 #[.val (.long p1), .second, .val (.long p2), .second, .val (.long p3), .second, .val (.long p4), .second, .val (.long p5), .second, .val (.int p6), .val (.long x11), .second, .val (.long x13), .second, .val (.long x15), .second, .val (.long x17), .second, .val (.long t0), .second, .val (.ref b_120), .val (.ref b_123), .unset, .unset, .unset, .unset] [(.int (lcmpW p3 t0))])) _
            refine XS.ifYes X123.here hx rfl (pc0 := 148) (pc' := 171) rfl (hb hby at_148) rfl ((if0 _ _).trans (teq ((lw_eq _ _).mpr hc132)).1) (by decide) (by decide) ?_
            exact kt
          refine GoC.step (T' := T123) (f' := (mkF m 174 #[.val (.long p1), .second, .val (.long p2), .second, .val (.long p3), .second, .val (.long p4), .second, .val (.long p5), .second, .val (.int p6), .val (.long x11), .second, .val (.long x13), .second, .val (.long x15), .second, .val (.long x17), .second, .val (.long t0), .second, .val (.ref b_120), .val (.ref b_123), .val (.int (0 : Int32)), .unset, .unset, .unset] [])) (fun t kt => ?_) ?_
          · show Steps p.tables e below (T123.setTop (mkF m 171 #[.val (.long p1), .second, .val (.long p2), .second, .val (.long p3), .second, .val (.long p4), .second, .val (.long p5), .second, .val (.int p6), .val (.long x11), .second, .val (.long x13), .second, .val (.long x15), .second, .val (.long x17), .second, .val (.long t0), .second, .val (.ref b_120), .val (.ref b_123), .unset, .unset, .unset, .unset] [])) _
            refine XS.iconst X123.here hx rfl (hb hby at_171) ?_
            show Steps p.tables e below (T123.setTop (mkF m 172 #[.val (.long p1), .second, .val (.long p2), .second, .val (.long p3), .second, .val (.long p4), .second, .val (.long p5), .second, .val (.int p6), .val (.long x11), .second, .val (.long x13), .second, .val (.long x15), .second, .val (.long x17), .second, .val (.long t0), .second, .val (.ref b_120), .val (.ref b_123), .unset, .unset, .unset, .unset] [(.int (0 : Int32))])) _
            refine XS.istore X123.here hx rfl (hb hby at_172) rfl (l' := #[.val (.long p1), .second, .val (.long p2), .second, .val (.long p3), .second, .val (.long p4), .second, .val (.long p5), .second, .val (.int p6), .val (.long x11), .second, .val (.long x13), .second, .val (.long x15), .second, .val (.long x17), .second, .val (.long t0), .second, .val (.ref b_120), .val (.ref b_123), .val (.int (0 : Int32)), .unset, .unset, .unset]) rfl ?_
            exact kt
          exact S174 _ _ _ _ X123 (Nat.le_trans (Nat.add_le_add_right (Nat.add_le_add_right hcl 1) 1) (by decide)) (Nat.le_trans (Nat.add_le_add_right (Nat.add_le_add_right hsl 3) 3) (by decide)) T123.heap rfl N123 x11 x13 x15 x17 t0 (0 : Int32) b_120 b_123 K123 HC123 G124 G125 G126 G127 G128 G129 pf123_0 pf123_1 pf123_2 pf123_3 g_b_120 g_b_123 sz_b_120 sz_b_123 ne_b_120_b_123 h11 h13 (own_o7 (by assumption) (by assumption) (by assumption))
        · have _ := hc132
          refine GoC.step (T' := T123) (f' := (mkF m 151 #[.val (.long p1), .second, .val (.long p2), .second, .val (.long p3), .second, .val (.long p4), .second, .val (.long p5), .second, .val (.int p6), .val (.long x11), .second, .val (.long x13), .second, .val (.long x15), .second, .val (.long x17), .second, .val (.long t0), .second, .val (.ref b_120), .val (.ref b_123), .unset, .unset, .unset, .unset] [])) (fun t kt => ?_) ?_
          · show Steps p.tables e below (T123.setTop (mkF m 148 #[.val (.long p1), .second, .val (.long p2), .second, .val (.long p3), .second, .val (.long p4), .second, .val (.long p5), .second, .val (.int p6), .val (.long x11), .second, .val (.long x13), .second, .val (.long x15), .second, .val (.long x17), .second, .val (.long t0), .second, .val (.ref b_120), .val (.ref b_123), .unset, .unset, .unset, .unset] [(.int (lcmpW p3 t0))])) _
            refine XS.ifNo X123.here hx rfl (hb hby at_148) rfl ((if0 _ _).trans (feq (fun q => hc132 ((lw_eq _ _).mp q))).1) ?_
            exact kt
          obtain ⟨_, _, ⟨T133, L133, k133, n133⟩, -, X133, ⟨Lc133, hQ133, l133, y133, z133⟩, st133⟩ := Jvm.LawKit.callS X123 hx (y := (⟨"com/example/lane4/lane4/model/JobIdOfPinLaw", "ult", "(JJ)Z"⟩ : MethodName)) hown (mvT hZ (hw _ (List.mem_of_getElem? (i := 18) rfl))) (mvT hZ (hw _ (List.mem_of_getElem? (i := 19) rfl))) (mvT hZ (hw _ (List.mem_of_getElem? (i := 20) rfl))) (mvT hZ (hw _ (List.mem_of_getElem? (i := 21) rfl))) (by decide) (backOf (W := 0) (rm_ultF l Z a0 hw [] p3 t0  T123.heap n0 Z123 ) hZ (hw _ (List.mem_of_getElem? (i := 21) rfl)) (hw _ (List.mem_of_getElem? (i := 20) rfl)) (by decide) (by decide)) (g := (mkF m 155 #[.val (.long p1), .second, .val (.long p2), .second, .val (.long p3), .second, .val (.long p4), .second, .val (.long p5), .second, .val (.int p6), .val (.long x11), .second, .val (.long x13), .second, .val (.long x15), .second, .val (.long x17), .second, .val (.long t0), .second, .val (.ref b_120), .val (.ref b_123), .unset, .unset, .unset, .unset] [(.long t0), (.long p3)])) rfl (by rw [hml]; rfl) (argsL := [(.long p3), (.long t0)]) (rest := []) (lenOf pd_15 rfl) rfl (by show 2 * 0 + _ ≤ _; exact Nat.le_of_eq rfl) (hb hby at_155) (fun _ _ => ⟨rfl, rfl, (Nat.le_trans (Nat.add_le_add_right (Nat.add_le_add_right (Nat.add_le_add_right hcl 1) 1) 0) (by decide)), (Nat.le_trans (Nat.add_le_add_right (Nat.add_le_add_right (Nat.add_le_add_right hsl 3) 3) 0) (by decide))⟩)
          dsimp only [Pt.U, Pt.locs, Pt.cells, Pt.slots] at X133 l133 y133 z133 st133 hQ133
          subst l133 y133 z133
          obtain ⟨rfl, N133q, e133⟩ := hQ133
          have N133 := Fr.app N123 N133q
          refine GoC.step (T' := T133) (f' := (mkF m 158 #[.val (.long p1), .second, .val (.long p2), .second, .val (.long p3), .second, .val (.long p4), .second, .val (.long p5), .second, .val (.int p6), .val (.long x11), .second, .val (.long x13), .second, .val (.long x15), .second, .val (.long x17), .second, .val (.long t0), .second, .val (.ref b_120), .val (.ref b_123), .unset, .unset, .unset, .unset] [(.int (ultF p3 t0))])) (fun t kt => ?_) ?_
          · show Steps p.tables e below (T123.setTop (mkF m 151 #[.val (.long p1), .second, .val (.long p2), .second, .val (.long p3), .second, .val (.long p4), .second, .val (.long p5), .second, .val (.int p6), .val (.long x11), .second, .val (.long x13), .second, .val (.long x15), .second, .val (.long x17), .second, .val (.long t0), .second, .val (.ref b_120), .val (.ref b_123), .unset, .unset, .unset, .unset] [])) _
            refine XS.lload X123.here hx rfl (hb hby at_151) rfl ?_
            show Steps p.tables e below (T123.setTop (mkF m 153 #[.val (.long p1), .second, .val (.long p2), .second, .val (.long p3), .second, .val (.long p4), .second, .val (.long p5), .second, .val (.int p6), .val (.long x11), .second, .val (.long x13), .second, .val (.long x15), .second, .val (.long x17), .second, .val (.long t0), .second, .val (.ref b_120), .val (.ref b_123), .unset, .unset, .unset, .unset] [(.long p3)])) _
            refine XS.lload X123.here hx rfl (hb hby at_153) rfl ?_
            show Steps p.tables e below (T123.setTop (mkF m 155 #[.val (.long p1), .second, .val (.long p2), .second, .val (.long p3), .second, .val (.long p4), .second, .val (.long p5), .second, .val (.int p6), .val (.long x11), .second, .val (.long x13), .second, .val (.long x15), .second, .val (.long x17), .second, .val (.long t0), .second, .val (.ref b_120), .val (.ref b_123), .unset, .unset, .unset, .unset] [(.long t0), (.long p3)])) _
            refine st133 _ ?_
            exact kt
          by_cases hc134 : (ultF p3 t0) = (0 : Int32)
          · have _ := hc134
            refine GoC.step (T' := T133) (f' := (mkF m 165 #[.val (.long p1), .second, .val (.long p2), .second, .val (.long p3), .second, .val (.long p4), .second, .val (.long p5), .second, .val (.int p6), .val (.long x11), .second, .val (.long x13), .second, .val (.long x15), .second, .val (.long x17), .second, .val (.long t0), .second, .val (.ref b_120), .val (.ref b_123), .unset, .unset, .unset, .unset] [])) (fun t kt => ?_) ?_
            · show Steps p.tables e below (T133.setTop (mkF m 158 #[.val (.long p1), .second, .val (.long p2), .second, .val (.long p3), .second, .val (.long p4), .second, .val (.long p5), .second, .val (.int p6), .val (.long x11), .second, .val (.long x13), .second, .val (.long x15), .second, .val (.long x17), .second, .val (.long t0), .second, .val (.ref b_120), .val (.ref b_123), .unset, .unset, .unset, .unset] [(.int (ultF p3 t0))])) _
              refine XS.ifYes X133.here hx rfl (pc0 := 158) (pc' := 165) rfl (hb hby at_158) rfl ((if0 _ _).trans (teq hc134).1) (by decide) (by decide) ?_
              exact kt
            refine GoC.step (T' := T133) (f' := (mkF m 174 #[.val (.long p1), .second, .val (.long p2), .second, .val (.long p3), .second, .val (.long p4), .second, .val (.long p5), .second, .val (.int p6), .val (.long x11), .second, .val (.long x13), .second, .val (.long x15), .second, .val (.long x17), .second, .val (.long t0), .second, .val (.ref b_120), .val (.ref b_123), .val (.int (1 : Int32)), .unset, .unset, .unset] [])) (fun t kt => ?_) ?_
            · show Steps p.tables e below (T133.setTop (mkF m 165 #[.val (.long p1), .second, .val (.long p2), .second, .val (.long p3), .second, .val (.long p4), .second, .val (.long p5), .second, .val (.int p6), .val (.long x11), .second, .val (.long x13), .second, .val (.long x15), .second, .val (.long x17), .second, .val (.long t0), .second, .val (.ref b_120), .val (.ref b_123), .unset, .unset, .unset, .unset] [])) _
              refine XS.iconst X133.here hx rfl (hb hby at_165) ?_
              show Steps p.tables e below (T133.setTop (mkF m 166 #[.val (.long p1), .second, .val (.long p2), .second, .val (.long p3), .second, .val (.long p4), .second, .val (.long p5), .second, .val (.int p6), .val (.long x11), .second, .val (.long x13), .second, .val (.long x15), .second, .val (.long x17), .second, .val (.long t0), .second, .val (.ref b_120), .val (.ref b_123), .unset, .unset, .unset, .unset] [(.int (1 : Int32))])) _
              refine XS.istore X133.here hx rfl (hb hby at_166) rfl (l' := #[.val (.long p1), .second, .val (.long p2), .second, .val (.long p3), .second, .val (.long p4), .second, .val (.long p5), .second, .val (.int p6), .val (.long x11), .second, .val (.long x13), .second, .val (.long x15), .second, .val (.long x17), .second, .val (.long t0), .second, .val (.ref b_120), .val (.ref b_123), .val (.int (1 : Int32)), .unset, .unset, .unset]) rfl ?_
              show Steps p.tables e below (T133.setTop (mkF m 168 #[.val (.long p1), .second, .val (.long p2), .second, .val (.long p3), .second, .val (.long p4), .second, .val (.long p5), .second, .val (.int p6), .val (.long x11), .second, .val (.long x13), .second, .val (.long x15), .second, .val (.long x17), .second, .val (.long t0), .second, .val (.ref b_120), .val (.ref b_123), .val (.int (1 : Int32)), .unset, .unset, .unset] [])) _
              refine XS.goto X133.here hx rfl (pc0 := 168) (pc' := 174) rfl (hb hby at_168) (by decide) (by decide) ?_
              exact kt
            exact S174 _ _ _ _ X133 (Nat.le_trans (Nat.add_le_add_right (Nat.add_le_add_right (Nat.add_le_add_right hcl 1) 1) 0) (by decide)) (Nat.le_trans (Nat.add_le_add_right (Nat.add_le_add_right (Nat.add_le_add_right hsl 3) 3) 0) (by decide)) T123.heap e133 N133 x11 x13 x15 x17 t0 (1 : Int32) b_120 b_123 K123 HC123 G124 G125 G126 G127 G128 G129 pf123_0 pf123_1 pf123_2 pf123_3 g_b_120 g_b_123 sz_b_120 sz_b_123 ne_b_120_b_123 h11 h13 (own_o5 (by assumption) (by assumption) (by assumption) (by assumption))
          · have _ := hc134
            refine GoC.step (T' := T133) (f' := (mkF m 161 #[.val (.long p1), .second, .val (.long p2), .second, .val (.long p3), .second, .val (.long p4), .second, .val (.long p5), .second, .val (.int p6), .val (.long x11), .second, .val (.long x13), .second, .val (.long x15), .second, .val (.long x17), .second, .val (.long t0), .second, .val (.ref b_120), .val (.ref b_123), .unset, .unset, .unset, .unset] [])) (fun t kt => ?_) ?_
            · show Steps p.tables e below (T133.setTop (mkF m 158 #[.val (.long p1), .second, .val (.long p2), .second, .val (.long p3), .second, .val (.long p4), .second, .val (.long p5), .second, .val (.int p6), .val (.long x11), .second, .val (.long x13), .second, .val (.long x15), .second, .val (.long x17), .second, .val (.long t0), .second, .val (.ref b_120), .val (.ref b_123), .unset, .unset, .unset, .unset] [(.int (ultF p3 t0))])) _
              refine XS.ifNo X133.here hx rfl (hb hby at_158) rfl ((if0 _ _).trans (feq hc134).1) ?_
              exact kt
            refine GoC.step (T' := T133) (f' := (mkF m 174 #[.val (.long p1), .second, .val (.long p2), .second, .val (.long p3), .second, .val (.long p4), .second, .val (.long p5), .second, .val (.int p6), .val (.long x11), .second, .val (.long x13), .second, .val (.long x15), .second, .val (.long x17), .second, .val (.long t0), .second, .val (.ref b_120), .val (.ref b_123), .val (.int (-1 : Int32)), .unset, .unset, .unset] [])) (fun t kt => ?_) ?_
            · show Steps p.tables e below (T133.setTop (mkF m 161 #[.val (.long p1), .second, .val (.long p2), .second, .val (.long p3), .second, .val (.long p4), .second, .val (.long p5), .second, .val (.int p6), .val (.long x11), .second, .val (.long x13), .second, .val (.long x15), .second, .val (.long x17), .second, .val (.long t0), .second, .val (.ref b_120), .val (.ref b_123), .unset, .unset, .unset, .unset] [])) _
              refine XS.iconst X133.here hx rfl (hb hby at_161) ?_
              show Steps p.tables e below (T133.setTop (mkF m 162 #[.val (.long p1), .second, .val (.long p2), .second, .val (.long p3), .second, .val (.long p4), .second, .val (.long p5), .second, .val (.int p6), .val (.long x11), .second, .val (.long x13), .second, .val (.long x15), .second, .val (.long x17), .second, .val (.long t0), .second, .val (.ref b_120), .val (.ref b_123), .unset, .unset, .unset, .unset] [(.int (-1 : Int32))])) _
              refine XS.goto X133.here hx rfl (pc0 := 162) (pc' := 166) rfl (hb hby at_162) (by decide) (by decide) ?_
              show Steps p.tables e below (T133.setTop (mkF m 166 #[.val (.long p1), .second, .val (.long p2), .second, .val (.long p3), .second, .val (.long p4), .second, .val (.long p5), .second, .val (.int p6), .val (.long x11), .second, .val (.long x13), .second, .val (.long x15), .second, .val (.long x17), .second, .val (.long t0), .second, .val (.ref b_120), .val (.ref b_123), .unset, .unset, .unset, .unset] [(.int (-1 : Int32))])) _
              refine XS.istore X133.here hx rfl (hb hby at_166) rfl (l' := #[.val (.long p1), .second, .val (.long p2), .second, .val (.long p3), .second, .val (.long p4), .second, .val (.long p5), .second, .val (.int p6), .val (.long x11), .second, .val (.long x13), .second, .val (.long x15), .second, .val (.long x17), .second, .val (.long t0), .second, .val (.ref b_120), .val (.ref b_123), .val (.int (-1 : Int32)), .unset, .unset, .unset]) rfl ?_
              show Steps p.tables e below (T133.setTop (mkF m 168 #[.val (.long p1), .second, .val (.long p2), .second, .val (.long p3), .second, .val (.long p4), .second, .val (.long p5), .second, .val (.int p6), .val (.long x11), .second, .val (.long x13), .second, .val (.long x15), .second, .val (.long x17), .second, .val (.long t0), .second, .val (.ref b_120), .val (.ref b_123), .val (.int (-1 : Int32)), .unset, .unset, .unset] [])) _
              refine XS.goto X133.here hx rfl (pc0 := 168) (pc' := 174) rfl (hb hby at_168) (by decide) (by decide) ?_
              exact kt
            exact S174 _ _ _ _ X133 (Nat.le_trans (Nat.add_le_add_right (Nat.add_le_add_right (Nat.add_le_add_right hcl 1) 1) 0) (by decide)) (Nat.le_trans (Nat.add_le_add_right (Nat.add_le_add_right (Nat.add_le_add_right hsl 3) 3) 0) (by decide)) T123.heap e133 N133 x11 x13 x15 x17 t0 (-1 : Int32) b_120 b_123 K123 HC123 G124 G125 G126 G127 G128 G129 pf123_0 pf123_1 pf123_2 pf123_3 g_b_120 g_b_123 sz_b_120 sz_b_123 ne_b_120_b_123 h11 h13 (own_o6 (by assumption) (by assumption) (by assumption))
      · have _ := hc131
        refine GoC.step (T' := T123) (f' := (mkF m 125 #[.val (.long p1), .second, .val (.long p2), .second, .val (.long p3), .second, .val (.long p4), .second, .val (.long p5), .second, .val (.int p6), .val (.long x11), .second, .val (.long x13), .second, .val (.long x15), .second, .val (.long x17), .second, .val (.long t0), .second, .val (.ref b_120), .val (.ref b_123), .unset, .unset, .unset, .unset] [])) (fun t kt => ?_) ?_
        · show Steps p.tables e below (T123.setTop (mkF m 122 #[.val (.long p1), .second, .val (.long p2), .second, .val (.long p3), .second, .val (.long p4), .second, .val (.long p5), .second, .val (.int p6), .val (.long x11), .second, .val (.long x13), .second, .val (.long x15), .second, .val (.long x17), .second, .val (.long t0), .second, .val (.ref b_120), .val (.ref b_123), .unset, .unset, .unset, .unset] [(.int (lcmpW x13 x17))])) _
          refine XS.ifNo X123.here hx rfl (hb hby at_122) rfl ((if0 _ _).trans (feq (fun q => hc131 ((lw_eq _ _).mp q))).1) ?_
          exact kt
        refine GoC.step (T' := T123) (f' := (mkF m 130 #[.val (.long p1), .second, .val (.long p2), .second, .val (.long p3), .second, .val (.long p4), .second, .val (.long p5), .second, .val (.int p6), .val (.long x11), .second, .val (.long x13), .second, .val (.long x15), .second, .val (.long x17), .second, .val (.long t0), .second, .val (.ref b_120), .val (.ref b_123), .unset, .unset, .unset, .unset] [(.int (lcmpW x13 x17))])) (fun t kt => ?_) ?_
        · show Steps p.tables e below (T123.setTop (mkF m 125 #[.val (.long p1), .second, .val (.long p2), .second, .val (.long p3), .second, .val (.long p4), .second, .val (.long p5), .second, .val (.int p6), .val (.long x11), .second, .val (.long x13), .second, .val (.long x15), .second, .val (.long x17), .second, .val (.long t0), .second, .val (.ref b_120), .val (.ref b_123), .unset, .unset, .unset, .unset] [])) _
          refine XS.lload X123.here hx rfl (hb hby at_125) rfl ?_
          show Steps p.tables e below (T123.setTop (mkF m 127 #[.val (.long p1), .second, .val (.long p2), .second, .val (.long p3), .second, .val (.long p4), .second, .val (.long p5), .second, .val (.int p6), .val (.long x11), .second, .val (.long x13), .second, .val (.long x15), .second, .val (.long x17), .second, .val (.long t0), .second, .val (.ref b_120), .val (.ref b_123), .unset, .unset, .unset, .unset] [(.long x13)])) _
          refine XS.lload X123.here hx rfl (hb hby at_127) rfl ?_
          show Steps p.tables e below (T123.setTop (mkF m 129 #[.val (.long p1), .second, .val (.long p2), .second, .val (.long p3), .second, .val (.long p4), .second, .val (.long p5), .second, .val (.int p6), .val (.long x11), .second, .val (.long x13), .second, .val (.long x15), .second, .val (.long x17), .second, .val (.long t0), .second, .val (.ref b_120), .val (.ref b_123), .unset, .unset, .unset, .unset] [(.long x17), (.long x13)])) _
          refine XS.lcmp X123.here hx rfl (hb hby at_129) rfl ?_
          exact kt
        by_cases hc135 : x13 < x17
        · have _ := hc135
          refine GoC.step (T' := T123) (f' := (mkF m 133 #[.val (.long p1), .second, .val (.long p2), .second, .val (.long p3), .second, .val (.long p4), .second, .val (.long p5), .second, .val (.int p6), .val (.long x11), .second, .val (.long x13), .second, .val (.long x15), .second, .val (.long x17), .second, .val (.long t0), .second, .val (.ref b_120), .val (.ref b_123), .unset, .unset, .unset, .unset] [])) (fun t kt => ?_) ?_
          · show Steps p.tables e below (T123.setTop (mkF m 130 #[.val (.long p1), .second, .val (.long p2), .second, .val (.long p3), .second, .val (.long p4), .second, .val (.long p5), .second, .val (.int p6), .val (.long x11), .second, .val (.long x13), .second, .val (.long x15), .second, .val (.long x17), .second, .val (.long t0), .second, .val (.ref b_120), .val (.ref b_123), .unset, .unset, .unset, .unset] [(.int (lcmpW x13 x17))])) _
            refine XS.ifNo X123.here hx rfl (hb hby at_130) rfl ((if0 _ _).trans (tlt ((lw_lt _ _).mpr hc135)).2.1) ?_
            exact kt
          refine GoC.step (T' := T123) (f' := (mkF m 174 #[.val (.long p1), .second, .val (.long p2), .second, .val (.long p3), .second, .val (.long p4), .second, .val (.long p5), .second, .val (.int p6), .val (.long x11), .second, .val (.long x13), .second, .val (.long x15), .second, .val (.long x17), .second, .val (.long t0), .second, .val (.ref b_120), .val (.ref b_123), .val (.int (-1 : Int32)), .unset, .unset, .unset] [])) (fun t kt => ?_) ?_
          · show Steps p.tables e below (T123.setTop (mkF m 133 #[.val (.long p1), .second, .val (.long p2), .second, .val (.long p3), .second, .val (.long p4), .second, .val (.long p5), .second, .val (.int p6), .val (.long x11), .second, .val (.long x13), .second, .val (.long x15), .second, .val (.long x17), .second, .val (.long t0), .second, .val (.ref b_120), .val (.ref b_123), .unset, .unset, .unset, .unset] [])) _
            refine XS.iconst X123.here hx rfl (hb hby at_133) ?_
            show Steps p.tables e below (T123.setTop (mkF m 134 #[.val (.long p1), .second, .val (.long p2), .second, .val (.long p3), .second, .val (.long p4), .second, .val (.long p5), .second, .val (.int p6), .val (.long x11), .second, .val (.long x13), .second, .val (.long x15), .second, .val (.long x17), .second, .val (.long t0), .second, .val (.ref b_120), .val (.ref b_123), .unset, .unset, .unset, .unset] [(.int (-1 : Int32))])) _
            refine XS.goto X123.here hx rfl (pc0 := 134) (pc' := 138) rfl (hb hby at_134) (by decide) (by decide) ?_
            show Steps p.tables e below (T123.setTop (mkF m 138 #[.val (.long p1), .second, .val (.long p2), .second, .val (.long p3), .second, .val (.long p4), .second, .val (.long p5), .second, .val (.int p6), .val (.long x11), .second, .val (.long x13), .second, .val (.long x15), .second, .val (.long x17), .second, .val (.long t0), .second, .val (.ref b_120), .val (.ref b_123), .unset, .unset, .unset, .unset] [(.int (-1 : Int32))])) _
            refine XS.istore X123.here hx rfl (hb hby at_138) rfl (l' := #[.val (.long p1), .second, .val (.long p2), .second, .val (.long p3), .second, .val (.long p4), .second, .val (.long p5), .second, .val (.int p6), .val (.long x11), .second, .val (.long x13), .second, .val (.long x15), .second, .val (.long x17), .second, .val (.long t0), .second, .val (.ref b_120), .val (.ref b_123), .val (.int (-1 : Int32)), .unset, .unset, .unset]) rfl ?_
            show Steps p.tables e below (T123.setTop (mkF m 140 #[.val (.long p1), .second, .val (.long p2), .second, .val (.long p3), .second, .val (.long p4), .second, .val (.long p5), .second, .val (.int p6), .val (.long x11), .second, .val (.long x13), .second, .val (.long x15), .second, .val (.long x17), .second, .val (.long t0), .second, .val (.ref b_120), .val (.ref b_123), .val (.int (-1 : Int32)), .unset, .unset, .unset] [])) _
            refine XS.goto X123.here hx rfl (pc0 := 140) (pc' := 174) rfl (hb hby at_140) (by decide) (by decide) ?_
            exact kt
          exact S174 _ _ _ _ X123 (Nat.le_trans (Nat.add_le_add_right (Nat.add_le_add_right hcl 1) 1) (by decide)) (Nat.le_trans (Nat.add_le_add_right (Nat.add_le_add_right hsl 3) 3) (by decide)) T123.heap rfl N123 x11 x13 x15 x17 t0 (-1 : Int32) b_120 b_123 K123 HC123 G124 G125 G126 G127 G128 G129 pf123_0 pf123_1 pf123_2 pf123_3 g_b_120 g_b_123 sz_b_120 sz_b_123 ne_b_120_b_123 h11 h13 (own_o3 h11 h13 h15 h17 (by assumption) (by assumption))
        · have _ := hc135
          refine GoC.step (T' := T123) (f' := (mkF m 137 #[.val (.long p1), .second, .val (.long p2), .second, .val (.long p3), .second, .val (.long p4), .second, .val (.long p5), .second, .val (.int p6), .val (.long x11), .second, .val (.long x13), .second, .val (.long x15), .second, .val (.long x17), .second, .val (.long t0), .second, .val (.ref b_120), .val (.ref b_123), .unset, .unset, .unset, .unset] [])) (fun t kt => ?_) ?_
          · show Steps p.tables e below (T123.setTop (mkF m 130 #[.val (.long p1), .second, .val (.long p2), .second, .val (.long p3), .second, .val (.long p4), .second, .val (.long p5), .second, .val (.int p6), .val (.long x11), .second, .val (.long x13), .second, .val (.long x15), .second, .val (.long x17), .second, .val (.long t0), .second, .val (.ref b_120), .val (.ref b_123), .unset, .unset, .unset, .unset] [(.int (lcmpW x13 x17))])) _
            refine XS.ifYes X123.here hx rfl (pc0 := 130) (pc' := 137) rfl (hb hby at_130) rfl ((if0 _ _).trans (flt (fun q => hc135 ((lw_lt _ _).mp q))).2.1) (by decide) (by decide) ?_
            exact kt
          refine GoC.step (T' := T123) (f' := (mkF m 174 #[.val (.long p1), .second, .val (.long p2), .second, .val (.long p3), .second, .val (.long p4), .second, .val (.long p5), .second, .val (.int p6), .val (.long x11), .second, .val (.long x13), .second, .val (.long x15), .second, .val (.long x17), .second, .val (.long t0), .second, .val (.ref b_120), .val (.ref b_123), .val (.int (1 : Int32)), .unset, .unset, .unset] [])) (fun t kt => ?_) ?_
          · show Steps p.tables e below (T123.setTop (mkF m 137 #[.val (.long p1), .second, .val (.long p2), .second, .val (.long p3), .second, .val (.long p4), .second, .val (.long p5), .second, .val (.int p6), .val (.long x11), .second, .val (.long x13), .second, .val (.long x15), .second, .val (.long x17), .second, .val (.long t0), .second, .val (.ref b_120), .val (.ref b_123), .unset, .unset, .unset, .unset] [])) _
            refine XS.iconst X123.here hx rfl (hb hby at_137) ?_
            show Steps p.tables e below (T123.setTop (mkF m 138 #[.val (.long p1), .second, .val (.long p2), .second, .val (.long p3), .second, .val (.long p4), .second, .val (.long p5), .second, .val (.int p6), .val (.long x11), .second, .val (.long x13), .second, .val (.long x15), .second, .val (.long x17), .second, .val (.long t0), .second, .val (.ref b_120), .val (.ref b_123), .unset, .unset, .unset, .unset] [(.int (1 : Int32))])) _
            refine XS.istore X123.here hx rfl (hb hby at_138) rfl (l' := #[.val (.long p1), .second, .val (.long p2), .second, .val (.long p3), .second, .val (.long p4), .second, .val (.long p5), .second, .val (.int p6), .val (.long x11), .second, .val (.long x13), .second, .val (.long x15), .second, .val (.long x17), .second, .val (.long t0), .second, .val (.ref b_120), .val (.ref b_123), .val (.int (1 : Int32)), .unset, .unset, .unset]) rfl ?_
            show Steps p.tables e below (T123.setTop (mkF m 140 #[.val (.long p1), .second, .val (.long p2), .second, .val (.long p3), .second, .val (.long p4), .second, .val (.long p5), .second, .val (.int p6), .val (.long x11), .second, .val (.long x13), .second, .val (.long x15), .second, .val (.long x17), .second, .val (.long t0), .second, .val (.ref b_120), .val (.ref b_123), .val (.int (1 : Int32)), .unset, .unset, .unset] [])) _
            refine XS.goto X123.here hx rfl (pc0 := 140) (pc' := 174) rfl (hb hby at_140) (by decide) (by decide) ?_
            exact kt
          exact S174 _ _ _ _ X123 (Nat.le_trans (Nat.add_le_add_right (Nat.add_le_add_right hcl 1) 1) (by decide)) (Nat.le_trans (Nat.add_le_add_right (Nat.add_le_add_right hsl 3) 3) (by decide)) T123.heap rfl N123 x11 x13 x15 x17 t0 (1 : Int32) b_120 b_123 K123 HC123 G124 G125 G126 G127 G128 G129 pf123_0 pf123_1 pf123_2 pf123_3 g_b_120 g_b_123 sz_b_120 sz_b_123 ne_b_120_b_123 h11 h13 (own_o4 h11 h13 h15 h17 (by assumption) (by assumption) (by assumption))
    · have _ := hc130
      refine GoC.step (T' := T123) (f' := (mkF m 99 #[.val (.long p1), .second, .val (.long p2), .second, .val (.long p3), .second, .val (.long p4), .second, .val (.long p5), .second, .val (.int p6), .val (.long x11), .second, .val (.long x13), .second, .val (.long x15), .second, .val (.long x17), .second, .val (.long t0), .second, .val (.ref b_120), .val (.ref b_123), .unset, .unset, .unset, .unset] [])) (fun t kt => ?_) ?_
      · show Steps p.tables e below (T123.setTop (mkF m 96 #[.val (.long p1), .second, .val (.long p2), .second, .val (.long p3), .second, .val (.long p4), .second, .val (.long p5), .second, .val (.int p6), .val (.long x11), .second, .val (.long x13), .second, .val (.long x15), .second, .val (.long x17), .second, .val (.long t0), .second, .val (.ref b_120), .val (.ref b_123), .unset, .unset, .unset, .unset] [(.int (lcmpW x11 x15))])) _
        refine XS.ifNo X123.here hx rfl (hb hby at_96) rfl ((if0 _ _).trans (feq (fun q => hc130 ((lw_eq _ _).mp q))).1) ?_
        exact kt
      refine GoC.step (T' := T123) (f' := (mkF m 104 #[.val (.long p1), .second, .val (.long p2), .second, .val (.long p3), .second, .val (.long p4), .second, .val (.long p5), .second, .val (.int p6), .val (.long x11), .second, .val (.long x13), .second, .val (.long x15), .second, .val (.long x17), .second, .val (.long t0), .second, .val (.ref b_120), .val (.ref b_123), .unset, .unset, .unset, .unset] [(.int (lcmpW x11 x15))])) (fun t kt => ?_) ?_
      · show Steps p.tables e below (T123.setTop (mkF m 99 #[.val (.long p1), .second, .val (.long p2), .second, .val (.long p3), .second, .val (.long p4), .second, .val (.long p5), .second, .val (.int p6), .val (.long x11), .second, .val (.long x13), .second, .val (.long x15), .second, .val (.long x17), .second, .val (.long t0), .second, .val (.ref b_120), .val (.ref b_123), .unset, .unset, .unset, .unset] [])) _
        refine XS.lload X123.here hx rfl (hb hby at_99) rfl ?_
        show Steps p.tables e below (T123.setTop (mkF m 101 #[.val (.long p1), .second, .val (.long p2), .second, .val (.long p3), .second, .val (.long p4), .second, .val (.long p5), .second, .val (.int p6), .val (.long x11), .second, .val (.long x13), .second, .val (.long x15), .second, .val (.long x17), .second, .val (.long t0), .second, .val (.ref b_120), .val (.ref b_123), .unset, .unset, .unset, .unset] [(.long x11)])) _
        refine XS.lload X123.here hx rfl (hb hby at_101) rfl ?_
        show Steps p.tables e below (T123.setTop (mkF m 103 #[.val (.long p1), .second, .val (.long p2), .second, .val (.long p3), .second, .val (.long p4), .second, .val (.long p5), .second, .val (.int p6), .val (.long x11), .second, .val (.long x13), .second, .val (.long x15), .second, .val (.long x17), .second, .val (.long t0), .second, .val (.ref b_120), .val (.ref b_123), .unset, .unset, .unset, .unset] [(.long x15), (.long x11)])) _
        refine XS.lcmp X123.here hx rfl (hb hby at_103) rfl ?_
        exact kt
      by_cases hc136 : x11 < x15
      · have _ := hc136
        refine GoC.step (T' := T123) (f' := (mkF m 107 #[.val (.long p1), .second, .val (.long p2), .second, .val (.long p3), .second, .val (.long p4), .second, .val (.long p5), .second, .val (.int p6), .val (.long x11), .second, .val (.long x13), .second, .val (.long x15), .second, .val (.long x17), .second, .val (.long t0), .second, .val (.ref b_120), .val (.ref b_123), .unset, .unset, .unset, .unset] [])) (fun t kt => ?_) ?_
        · show Steps p.tables e below (T123.setTop (mkF m 104 #[.val (.long p1), .second, .val (.long p2), .second, .val (.long p3), .second, .val (.long p4), .second, .val (.long p5), .second, .val (.int p6), .val (.long x11), .second, .val (.long x13), .second, .val (.long x15), .second, .val (.long x17), .second, .val (.long t0), .second, .val (.ref b_120), .val (.ref b_123), .unset, .unset, .unset, .unset] [(.int (lcmpW x11 x15))])) _
          refine XS.ifNo X123.here hx rfl (hb hby at_104) rfl ((if0 _ _).trans (tlt ((lw_lt _ _).mpr hc136)).2.1) ?_
          exact kt
        refine GoC.step (T' := T123) (f' := (mkF m 174 #[.val (.long p1), .second, .val (.long p2), .second, .val (.long p3), .second, .val (.long p4), .second, .val (.long p5), .second, .val (.int p6), .val (.long x11), .second, .val (.long x13), .second, .val (.long x15), .second, .val (.long x17), .second, .val (.long t0), .second, .val (.ref b_120), .val (.ref b_123), .val (.int (-1 : Int32)), .unset, .unset, .unset] [])) (fun t kt => ?_) ?_
        · show Steps p.tables e below (T123.setTop (mkF m 107 #[.val (.long p1), .second, .val (.long p2), .second, .val (.long p3), .second, .val (.long p4), .second, .val (.long p5), .second, .val (.int p6), .val (.long x11), .second, .val (.long x13), .second, .val (.long x15), .second, .val (.long x17), .second, .val (.long t0), .second, .val (.ref b_120), .val (.ref b_123), .unset, .unset, .unset, .unset] [])) _
          refine XS.iconst X123.here hx rfl (hb hby at_107) ?_
          show Steps p.tables e below (T123.setTop (mkF m 108 #[.val (.long p1), .second, .val (.long p2), .second, .val (.long p3), .second, .val (.long p4), .second, .val (.long p5), .second, .val (.int p6), .val (.long x11), .second, .val (.long x13), .second, .val (.long x15), .second, .val (.long x17), .second, .val (.long t0), .second, .val (.ref b_120), .val (.ref b_123), .unset, .unset, .unset, .unset] [(.int (-1 : Int32))])) _
          refine XS.goto X123.here hx rfl (pc0 := 108) (pc' := 112) rfl (hb hby at_108) (by decide) (by decide) ?_
          show Steps p.tables e below (T123.setTop (mkF m 112 #[.val (.long p1), .second, .val (.long p2), .second, .val (.long p3), .second, .val (.long p4), .second, .val (.long p5), .second, .val (.int p6), .val (.long x11), .second, .val (.long x13), .second, .val (.long x15), .second, .val (.long x17), .second, .val (.long t0), .second, .val (.ref b_120), .val (.ref b_123), .unset, .unset, .unset, .unset] [(.int (-1 : Int32))])) _
          refine XS.istore X123.here hx rfl (hb hby at_112) rfl (l' := #[.val (.long p1), .second, .val (.long p2), .second, .val (.long p3), .second, .val (.long p4), .second, .val (.long p5), .second, .val (.int p6), .val (.long x11), .second, .val (.long x13), .second, .val (.long x15), .second, .val (.long x17), .second, .val (.long t0), .second, .val (.ref b_120), .val (.ref b_123), .val (.int (-1 : Int32)), .unset, .unset, .unset]) rfl ?_
          show Steps p.tables e below (T123.setTop (mkF m 114 #[.val (.long p1), .second, .val (.long p2), .second, .val (.long p3), .second, .val (.long p4), .second, .val (.long p5), .second, .val (.int p6), .val (.long x11), .second, .val (.long x13), .second, .val (.long x15), .second, .val (.long x17), .second, .val (.long t0), .second, .val (.ref b_120), .val (.ref b_123), .val (.int (-1 : Int32)), .unset, .unset, .unset] [])) _
          refine XS.goto X123.here hx rfl (pc0 := 114) (pc' := 174) rfl (hb hby at_114) (by decide) (by decide) ?_
          exact kt
        exact S174 _ _ _ _ X123 (Nat.le_trans (Nat.add_le_add_right (Nat.add_le_add_right hcl 1) 1) (by decide)) (Nat.le_trans (Nat.add_le_add_right (Nat.add_le_add_right hsl 3) 3) (by decide)) T123.heap rfl N123 x11 x13 x15 x17 t0 (-1 : Int32) b_120 b_123 K123 HC123 G124 G125 G126 G127 G128 G129 pf123_0 pf123_1 pf123_2 pf123_3 g_b_120 g_b_123 sz_b_120 sz_b_123 ne_b_120_b_123 h11 h13 (own_o1 h11 h13 h15 h17 (by assumption))
      · have _ := hc136
        refine GoC.step (T' := T123) (f' := (mkF m 111 #[.val (.long p1), .second, .val (.long p2), .second, .val (.long p3), .second, .val (.long p4), .second, .val (.long p5), .second, .val (.int p6), .val (.long x11), .second, .val (.long x13), .second, .val (.long x15), .second, .val (.long x17), .second, .val (.long t0), .second, .val (.ref b_120), .val (.ref b_123), .unset, .unset, .unset, .unset] [])) (fun t kt => ?_) ?_
        · show Steps p.tables e below (T123.setTop (mkF m 104 #[.val (.long p1), .second, .val (.long p2), .second, .val (.long p3), .second, .val (.long p4), .second, .val (.long p5), .second, .val (.int p6), .val (.long x11), .second, .val (.long x13), .second, .val (.long x15), .second, .val (.long x17), .second, .val (.long t0), .second, .val (.ref b_120), .val (.ref b_123), .unset, .unset, .unset, .unset] [(.int (lcmpW x11 x15))])) _
          refine XS.ifYes X123.here hx rfl (pc0 := 104) (pc' := 111) rfl (hb hby at_104) rfl ((if0 _ _).trans (flt (fun q => hc136 ((lw_lt _ _).mp q))).2.1) (by decide) (by decide) ?_
          exact kt
        refine GoC.step (T' := T123) (f' := (mkF m 174 #[.val (.long p1), .second, .val (.long p2), .second, .val (.long p3), .second, .val (.long p4), .second, .val (.long p5), .second, .val (.int p6), .val (.long x11), .second, .val (.long x13), .second, .val (.long x15), .second, .val (.long x17), .second, .val (.long t0), .second, .val (.ref b_120), .val (.ref b_123), .val (.int (1 : Int32)), .unset, .unset, .unset] [])) (fun t kt => ?_) ?_
        · show Steps p.tables e below (T123.setTop (mkF m 111 #[.val (.long p1), .second, .val (.long p2), .second, .val (.long p3), .second, .val (.long p4), .second, .val (.long p5), .second, .val (.int p6), .val (.long x11), .second, .val (.long x13), .second, .val (.long x15), .second, .val (.long x17), .second, .val (.long t0), .second, .val (.ref b_120), .val (.ref b_123), .unset, .unset, .unset, .unset] [])) _
          refine XS.iconst X123.here hx rfl (hb hby at_111) ?_
          show Steps p.tables e below (T123.setTop (mkF m 112 #[.val (.long p1), .second, .val (.long p2), .second, .val (.long p3), .second, .val (.long p4), .second, .val (.long p5), .second, .val (.int p6), .val (.long x11), .second, .val (.long x13), .second, .val (.long x15), .second, .val (.long x17), .second, .val (.long t0), .second, .val (.ref b_120), .val (.ref b_123), .unset, .unset, .unset, .unset] [(.int (1 : Int32))])) _
          refine XS.istore X123.here hx rfl (hb hby at_112) rfl (l' := #[.val (.long p1), .second, .val (.long p2), .second, .val (.long p3), .second, .val (.long p4), .second, .val (.long p5), .second, .val (.int p6), .val (.long x11), .second, .val (.long x13), .second, .val (.long x15), .second, .val (.long x17), .second, .val (.long t0), .second, .val (.ref b_120), .val (.ref b_123), .val (.int (1 : Int32)), .unset, .unset, .unset]) rfl ?_
          show Steps p.tables e below (T123.setTop (mkF m 114 #[.val (.long p1), .second, .val (.long p2), .second, .val (.long p3), .second, .val (.long p4), .second, .val (.long p5), .second, .val (.int p6), .val (.long x11), .second, .val (.long x13), .second, .val (.long x15), .second, .val (.long x17), .second, .val (.long t0), .second, .val (.ref b_120), .val (.ref b_123), .val (.int (1 : Int32)), .unset, .unset, .unset] [])) _
          refine XS.goto X123.here hx rfl (pc0 := 114) (pc' := 174) rfl (hb hby at_114) (by decide) (by decide) ?_
          exact kt
        exact S174 _ _ _ _ X123 (Nat.le_trans (Nat.add_le_add_right (Nat.add_le_add_right hcl 1) 1) (by decide)) (Nat.le_trans (Nat.add_le_add_right (Nat.add_le_add_right hsl 3) 3) (by decide)) T123.heap rfl N123 x11 x13 x15 x17 t0 (1 : Int32) b_120 b_123 K123 HC123 G124 G125 G126 G127 G128 G129 pf123_0 pf123_1 pf123_2 pf123_3 g_b_120 g_b_123 sz_b_120 sz_b_123 ne_b_120_b_123 h11 h13 (own_o2 h11 h13 h15 h17 (by assumption) (by assumption))
  have S51 : ∀ (T : State) (locs : List Loc) (cells slots : Nat) (X : Stand p l e room_1 (s.setVm s.vm) m #[(.long p1), (.long p2), (.long p3), (.long p4), (.long p5), (.int p6)] below meth c T locs cells slots) (hcl : cells ≤ 0) (hsl : slots ≤ 0) (h : Heap) (eT : T.heap = h) (N : Fr n0 locs) (x11 : Int64) (x13 : Int64) (x15 : Int64) (t0 : Int64)  (K : Keep h0 h []) (HC : CHr Z consts_1 s.vm s.heap s.vm h) (fc0 : Sta Z h "java/lang/String" "COMPACT_STRINGS" "Z" (.int cs)) (fc1 : Sta Z h "jdk/internal/util/Preconditions" "SIOOBE_FORMATTER" "Ljava/util/function/BiFunction;" fo) (h11 : 0 ≤ x11.toInt ∧ x11.toInt < 281474976710656) (h13 : 0 ≤ x13.toInt ∧ x13.toInt < 65536) (h15 : 0 ≤ x15.toInt ∧ x15.toInt < 281474976710656) (ht : 0 ≤ t0.toInt ∧ t0.toInt < 65536), GoC p e below s Z consts_1 (Q0 Z p1 p2 p3 p4 p5 p6 cs fo h0 n0) 24 2304 T (mkF m 51 #[.val (.long p1), .second, .val (.long p2), .second, .val (.long p3), .second, .val (.long p4), .second, .val (.long p5), .second, .val (.int p6), .val (.long x11), .second, .val (.long x13), .second, .val (.long x15), .second, .unset, .unset, .unset, .unset, .unset, .unset, .unset, .unset, .unset, .unset] [(.long t0)]) := by
    intro T locs cells slots X hcl hsl h eT N x11 x13 x15 t0 K HC fc0 fc1 h11 h13 h15 ht
    have Zh : n0 ≤ h.size := Nat.le_trans Z0 K.1
    have hkS : h0.size ≤ h.size := K.1
    refine GoC.step (T' := T) (f' := (mkF m 57 #[.val (.long p1), .second, .val (.long p2), .second, .val (.long p3), .second, .val (.long p4), .second, .val (.long p5), .second, .val (.int p6), .val (.long x11), .second, .val (.long x13), .second, .val (.long x15), .second, .val (.long t0), .second, .unset, .unset, .unset, .unset, .unset, .unset, .unset, .unset] [(.int (p6 &&& (4 : Int32)))])) (fun t kt => ?_) ?_
    · show Steps p.tables e below (T.setTop (mkF m 51 #[.val (.long p1), .second, .val (.long p2), .second, .val (.long p3), .second, .val (.long p4), .second, .val (.long p5), .second, .val (.int p6), .val (.long x11), .second, .val (.long x13), .second, .val (.long x15), .second, .unset, .unset, .unset, .unset, .unset, .unset, .unset, .unset, .unset, .unset] [(.long t0)])) _
      refine XS.lstore X.here hx rfl (hb hby at_51) rfl (l' := #[.val (.long p1), .second, .val (.long p2), .second, .val (.long p3), .second, .val (.long p4), .second, .val (.long p5), .second, .val (.int p6), .val (.long x11), .second, .val (.long x13), .second, .val (.long x15), .second, .val (.long t0), .second, .unset, .unset, .unset, .unset, .unset, .unset, .unset, .unset]) rfl ?_
      show Steps p.tables e below (T.setTop (mkF m 53 #[.val (.long p1), .second, .val (.long p2), .second, .val (.long p3), .second, .val (.long p4), .second, .val (.long p5), .second, .val (.int p6), .val (.long x11), .second, .val (.long x13), .second, .val (.long x15), .second, .val (.long t0), .second, .unset, .unset, .unset, .unset, .unset, .unset, .unset, .unset] [])) _
      refine XS.iload X.here hx rfl (hb hby at_53) rfl ?_
      show Steps p.tables e below (T.setTop (mkF m 55 #[.val (.long p1), .second, .val (.long p2), .second, .val (.long p3), .second, .val (.long p4), .second, .val (.long p5), .second, .val (.int p6), .val (.long x11), .second, .val (.long x13), .second, .val (.long x15), .second, .val (.long t0), .second, .unset, .unset, .unset, .unset, .unset, .unset, .unset, .unset] [(.int p6)])) _
      refine XS.iconst X.here hx rfl (hb hby at_55) ?_
      show Steps p.tables e below (T.setTop (mkF m 56 #[.val (.long p1), .second, .val (.long p2), .second, .val (.long p3), .second, .val (.long p4), .second, .val (.long p5), .second, .val (.int p6), .val (.long x11), .second, .val (.long x13), .second, .val (.long x15), .second, .val (.long t0), .second, .unset, .unset, .unset, .unset, .unset, .unset, .unset, .unset] [(.int (4 : Int32)), (.int p6)])) _
      refine XS.iand X.here hx rfl (hb hby at_56) rfl ?_
      exact kt
    by_cases hc137 : (p6 &&& (4 : Int32)) = (0 : Int32)
    · have _ := hc137
      refine GoC.step (T' := T) (f' := (mkF m 65 #[.val (.long p1), .second, .val (.long p2), .second, .val (.long p3), .second, .val (.long p4), .second, .val (.long p5), .second, .val (.int p6), .val (.long x11), .second, .val (.long x13), .second, .val (.long x15), .second, .val (.long t0), .second, .unset, .unset, .unset, .unset, .unset, .unset, .unset, .unset] [])) (fun t kt => ?_) ?_
      · show Steps p.tables e below (T.setTop (mkF m 57 #[.val (.long p1), .second, .val (.long p2), .second, .val (.long p3), .second, .val (.long p4), .second, .val (.long p5), .second, .val (.int p6), .val (.long x11), .second, .val (.long x13), .second, .val (.long x15), .second, .val (.long t0), .second, .unset, .unset, .unset, .unset, .unset, .unset, .unset, .unset] [(.int (p6 &&& (4 : Int32)))])) _
        refine XS.ifYes X.here hx rfl (pc0 := 57) (pc' := 65) rfl (hb hby at_57) rfl ((if0 _ _).trans (teq hc137).1) (by decide) (by decide) ?_
        exact kt
      refine GoC.step (T' := T) (f' := (mkF m 67 #[.val (.long p1), .second, .val (.long p2), .second, .val (.long p3), .second, .val (.long p4), .second, .val (.long p5), .second, .val (.int p6), .val (.long x11), .second, .val (.long x13), .second, .val (.long x15), .second, .val (.long t0), .second, .unset, .unset, .unset, .unset, .unset, .unset, .unset, .unset] [(.long p5)])) (fun t kt => ?_) ?_
      · show Steps p.tables e below (T.setTop (mkF m 65 #[.val (.long p1), .second, .val (.long p2), .second, .val (.long p3), .second, .val (.long p4), .second, .val (.long p5), .second, .val (.int p6), .val (.long x11), .second, .val (.long x13), .second, .val (.long x15), .second, .val (.long t0), .second, .unset, .unset, .unset, .unset, .unset, .unset, .unset, .unset] [])) _
        refine XS.lload X.here hx rfl (hb hby at_65) rfl ?_
        exact kt
      exact S67 _ _ _ _ X (Nat.le_trans hcl (by decide)) (Nat.le_trans hsl (by decide)) h eT N x11 x13 x15 t0 p5 K HC fc0 fc1 h11 h13 h15 ht
    · have _ := hc137
      refine GoC.step (T' := T) (f' := (mkF m 60 #[.val (.long p1), .second, .val (.long p2), .second, .val (.long p3), .second, .val (.long p4), .second, .val (.long p5), .second, .val (.int p6), .val (.long x11), .second, .val (.long x13), .second, .val (.long x15), .second, .val (.long t0), .second, .unset, .unset, .unset, .unset, .unset, .unset, .unset, .unset] [])) (fun t kt => ?_) ?_
      · show Steps p.tables e below (T.setTop (mkF m 57 #[.val (.long p1), .second, .val (.long p2), .second, .val (.long p3), .second, .val (.long p4), .second, .val (.long p5), .second, .val (.int p6), .val (.long x11), .second, .val (.long x13), .second, .val (.long x15), .second, .val (.long t0), .second, .unset, .unset, .unset, .unset, .unset, .unset, .unset, .unset] [(.int (p6 &&& (4 : Int32)))])) _
        refine XS.ifNo X.here hx rfl (hb hby at_57) rfl ((if0 _ _).trans (feq hc137).1) ?_
        exact kt
      refine GoC.step (T' := T) (f' := (mkF m 67 #[.val (.long p1), .second, .val (.long p2), .second, .val (.long p3), .second, .val (.long p4), .second, .val (.long p5), .second, .val (.int p6), .val (.long x11), .second, .val (.long x13), .second, .val (.long x15), .second, .val (.long t0), .second, .unset, .unset, .unset, .unset, .unset, .unset, .unset, .unset] [(.long p3)])) (fun t kt => ?_) ?_
      · show Steps p.tables e below (T.setTop (mkF m 60 #[.val (.long p1), .second, .val (.long p2), .second, .val (.long p3), .second, .val (.long p4), .second, .val (.long p5), .second, .val (.int p6), .val (.long x11), .second, .val (.long x13), .second, .val (.long x15), .second, .val (.long t0), .second, .unset, .unset, .unset, .unset, .unset, .unset, .unset, .unset] [])) _
        refine XS.lload X.here hx rfl (hb hby at_60) rfl ?_
        show Steps p.tables e below (T.setTop (mkF m 62 #[.val (.long p1), .second, .val (.long p2), .second, .val (.long p3), .second, .val (.long p4), .second, .val (.long p5), .second, .val (.int p6), .val (.long x11), .second, .val (.long x13), .second, .val (.long x15), .second, .val (.long t0), .second, .unset, .unset, .unset, .unset, .unset, .unset, .unset, .unset] [(.long p3)])) _
        refine XS.goto X.here hx rfl (pc0 := 62) (pc' := 67) rfl (hb hby at_62) (by decide) (by decide) ?_
        exact kt
      exact S67 _ _ _ _ X (Nat.le_trans hcl (by decide)) (Nat.le_trans hsl (by decide)) h eT N x11 x13 x15 t0 p3 K HC fc0 fc1 h11 h13 h15 ht
  have S32 : ∀ (T : State) (locs : List Loc) (cells slots : Nat) (X : Stand p l e room_1 (s.setVm s.vm) m #[(.long p1), (.long p2), (.long p3), (.long p4), (.long p5), (.int p6)] below meth c T locs cells slots) (hcl : cells ≤ 0) (hsl : slots ≤ 0) (h : Heap) (eT : T.heap = h) (N : Fr n0 locs) (x11 : Int64) (x13 : Int64) (t0 : Int64)  (K : Keep h0 h []) (HC : CHr Z consts_1 s.vm s.heap s.vm h) (fc0 : Sta Z h "java/lang/String" "COMPACT_STRINGS" "Z" (.int cs)) (fc1 : Sta Z h "jdk/internal/util/Preconditions" "SIOOBE_FORMATTER" "Ljava/util/function/BiFunction;" fo) (h11 : 0 ≤ x11.toInt ∧ x11.toInt < 281474976710656) (h13 : 0 ≤ x13.toInt ∧ x13.toInt < 65536) (ht : 0 ≤ t0.toInt ∧ t0.toInt < 281474976710656), GoC p e below s Z consts_1 (Q0 Z p1 p2 p3 p4 p5 p6 cs fo h0 n0) 24 2304 T (mkF m 32 #[.val (.long p1), .second, .val (.long p2), .second, .val (.long p3), .second, .val (.long p4), .second, .val (.long p5), .second, .val (.int p6), .val (.long x11), .second, .val (.long x13), .second, .unset, .unset, .unset, .unset, .unset, .unset, .unset, .unset, .unset, .unset, .unset, .unset] [(.long t0)]) := by
    intro T locs cells slots X hcl hsl h eT N x11 x13 t0 K HC fc0 fc1 h11 h13 ht
    have Zh : n0 ≤ h.size := Nat.le_trans Z0 K.1
    have hkS : h0.size ≤ h.size := K.1
    refine GoC.step (T' := T) (f' := (mkF m 38 #[.val (.long p1), .second, .val (.long p2), .second, .val (.long p3), .second, .val (.long p4), .second, .val (.long p5), .second, .val (.int p6), .val (.long x11), .second, .val (.long x13), .second, .val (.long t0), .second, .unset, .unset, .unset, .unset, .unset, .unset, .unset, .unset, .unset, .unset] [(.int (p6 &&& (2 : Int32)))])) (fun t kt => ?_) ?_
    · show Steps p.tables e below (T.setTop (mkF m 32 #[.val (.long p1), .second, .val (.long p2), .second, .val (.long p3), .second, .val (.long p4), .second, .val (.long p5), .second, .val (.int p6), .val (.long x11), .second, .val (.long x13), .second, .unset, .unset, .unset, .unset, .unset, .unset, .unset, .unset, .unset, .unset, .unset, .unset] [(.long t0)])) _
      refine XS.lstore X.here hx rfl (hb hby at_32) rfl (l' := #[.val (.long p1), .second, .val (.long p2), .second, .val (.long p3), .second, .val (.long p4), .second, .val (.long p5), .second, .val (.int p6), .val (.long x11), .second, .val (.long x13), .second, .val (.long t0), .second, .unset, .unset, .unset, .unset, .unset, .unset, .unset, .unset, .unset, .unset]) rfl ?_
      show Steps p.tables e below (T.setTop (mkF m 34 #[.val (.long p1), .second, .val (.long p2), .second, .val (.long p3), .second, .val (.long p4), .second, .val (.long p5), .second, .val (.int p6), .val (.long x11), .second, .val (.long x13), .second, .val (.long t0), .second, .unset, .unset, .unset, .unset, .unset, .unset, .unset, .unset, .unset, .unset] [])) _
      refine XS.iload X.here hx rfl (hb hby at_34) rfl ?_
      show Steps p.tables e below (T.setTop (mkF m 36 #[.val (.long p1), .second, .val (.long p2), .second, .val (.long p3), .second, .val (.long p4), .second, .val (.long p5), .second, .val (.int p6), .val (.long x11), .second, .val (.long x13), .second, .val (.long t0), .second, .unset, .unset, .unset, .unset, .unset, .unset, .unset, .unset, .unset, .unset] [(.int p6)])) _
      refine XS.iconst X.here hx rfl (hb hby at_36) ?_
      show Steps p.tables e below (T.setTop (mkF m 37 #[.val (.long p1), .second, .val (.long p2), .second, .val (.long p3), .second, .val (.long p4), .second, .val (.long p5), .second, .val (.int p6), .val (.long x11), .second, .val (.long x13), .second, .val (.long t0), .second, .unset, .unset, .unset, .unset, .unset, .unset, .unset, .unset, .unset, .unset] [(.int (2 : Int32)), (.int p6)])) _
      refine XS.iand X.here hx rfl (hb hby at_37) rfl ?_
      exact kt
    by_cases hc138 : (p6 &&& (2 : Int32)) = (0 : Int32)
    · have _ := hc138
      refine GoC.step (T' := T) (f' := (mkF m 46 #[.val (.long p1), .second, .val (.long p2), .second, .val (.long p3), .second, .val (.long p4), .second, .val (.long p5), .second, .val (.int p6), .val (.long x11), .second, .val (.long x13), .second, .val (.long t0), .second, .unset, .unset, .unset, .unset, .unset, .unset, .unset, .unset, .unset, .unset] [])) (fun t kt => ?_) ?_
      · show Steps p.tables e below (T.setTop (mkF m 38 #[.val (.long p1), .second, .val (.long p2), .second, .val (.long p3), .second, .val (.long p4), .second, .val (.long p5), .second, .val (.int p6), .val (.long x11), .second, .val (.long x13), .second, .val (.long t0), .second, .unset, .unset, .unset, .unset, .unset, .unset, .unset, .unset, .unset, .unset] [(.int (p6 &&& (2 : Int32)))])) _
        refine XS.ifYes X.here hx rfl (pc0 := 38) (pc' := 46) rfl (hb hby at_38) rfl ((if0 _ _).trans (teq hc138).1) (by decide) (by decide) ?_
        exact kt
      refine GoC.step (T' := T) (f' := (mkF m 51 #[.val (.long p1), .second, .val (.long p2), .second, .val (.long p3), .second, .val (.long p4), .second, .val (.long p5), .second, .val (.int p6), .val (.long x11), .second, .val (.long x13), .second, .val (.long t0), .second, .unset, .unset, .unset, .unset, .unset, .unset, .unset, .unset, .unset, .unset] [(.long ((p4.toUInt64 >>> ((48 : Int32) &&& 0x3f).toInt64.toUInt64).toInt64))])) (fun t kt => ?_) ?_
      · show Steps p.tables e below (T.setTop (mkF m 46 #[.val (.long p1), .second, .val (.long p2), .second, .val (.long p3), .second, .val (.long p4), .second, .val (.long p5), .second, .val (.int p6), .val (.long x11), .second, .val (.long x13), .second, .val (.long t0), .second, .unset, .unset, .unset, .unset, .unset, .unset, .unset, .unset, .unset, .unset] [])) _
        refine XS.lload X.here hx rfl (hb hby at_46) rfl ?_
        show Steps p.tables e below (T.setTop (mkF m 48 #[.val (.long p1), .second, .val (.long p2), .second, .val (.long p3), .second, .val (.long p4), .second, .val (.long p5), .second, .val (.int p6), .val (.long x11), .second, .val (.long x13), .second, .val (.long t0), .second, .unset, .unset, .unset, .unset, .unset, .unset, .unset, .unset, .unset, .unset] [(.long p4)])) _
        refine XS.bipush X.here hx rfl (hb hby at_48) ?_
        show Steps p.tables e below (T.setTop (mkF m 50 #[.val (.long p1), .second, .val (.long p2), .second, .val (.long p3), .second, .val (.long p4), .second, .val (.long p5), .second, .val (.int p6), .val (.long x11), .second, .val (.long x13), .second, .val (.long t0), .second, .unset, .unset, .unset, .unset, .unset, .unset, .unset, .unset, .unset, .unset] [(.int (48 : Int32)), (.long p4)])) _
        refine XS.lushr X.here hx rfl (hb hby at_50) rfl ?_
        exact kt
      exact S51 _ _ _ _ X (Nat.le_trans hcl (by decide)) (Nat.le_trans hsl (by decide)) h eT N x11 x13 t0 ((p4.toUInt64 >>> ((48 : Int32) &&& 0x3f).toInt64.toUInt64).toInt64) K HC fc0 fc1 h11 h13 ht (own_s48 _)
    · have _ := hc138
      refine GoC.step (T' := T) (f' := (mkF m 41 #[.val (.long p1), .second, .val (.long p2), .second, .val (.long p3), .second, .val (.long p4), .second, .val (.long p5), .second, .val (.int p6), .val (.long x11), .second, .val (.long x13), .second, .val (.long t0), .second, .unset, .unset, .unset, .unset, .unset, .unset, .unset, .unset, .unset, .unset] [])) (fun t kt => ?_) ?_
      · show Steps p.tables e below (T.setTop (mkF m 38 #[.val (.long p1), .second, .val (.long p2), .second, .val (.long p3), .second, .val (.long p4), .second, .val (.long p5), .second, .val (.int p6), .val (.long x11), .second, .val (.long x13), .second, .val (.long t0), .second, .unset, .unset, .unset, .unset, .unset, .unset, .unset, .unset, .unset, .unset] [(.int (p6 &&& (2 : Int32)))])) _
        refine XS.ifNo X.here hx rfl (hb hby at_38) rfl ((if0 _ _).trans (feq hc138).1) ?_
        exact kt
      refine GoC.step (T' := T) (f' := (mkF m 51 #[.val (.long p1), .second, .val (.long p2), .second, .val (.long p3), .second, .val (.long p4), .second, .val (.long p5), .second, .val (.int p6), .val (.long x11), .second, .val (.long x13), .second, .val (.long t0), .second, .unset, .unset, .unset, .unset, .unset, .unset, .unset, .unset, .unset, .unset] [(.long x13)])) (fun t kt => ?_) ?_
      · show Steps p.tables e below (T.setTop (mkF m 41 #[.val (.long p1), .second, .val (.long p2), .second, .val (.long p3), .second, .val (.long p4), .second, .val (.long p5), .second, .val (.int p6), .val (.long x11), .second, .val (.long x13), .second, .val (.long t0), .second, .unset, .unset, .unset, .unset, .unset, .unset, .unset, .unset, .unset, .unset] [])) _
        refine XS.lload X.here hx rfl (hb hby at_41) rfl ?_
        show Steps p.tables e below (T.setTop (mkF m 43 #[.val (.long p1), .second, .val (.long p2), .second, .val (.long p3), .second, .val (.long p4), .second, .val (.long p5), .second, .val (.int p6), .val (.long x11), .second, .val (.long x13), .second, .val (.long t0), .second, .unset, .unset, .unset, .unset, .unset, .unset, .unset, .unset, .unset, .unset] [(.long x13)])) _
        refine XS.goto X.here hx rfl (pc0 := 43) (pc' := 51) rfl (hb hby at_43) (by decide) (by decide) ?_
        exact kt
      exact S51 _ _ _ _ X (Nat.le_trans hcl (by decide)) (Nat.le_trans hsl (by decide)) h eT N x11 x13 t0 x13 K HC fc0 fc1 h11 h13 ht h13
  have hZ139 := hZ
  have hown139 := hown
  have hZ140 := hZ
  have hown140 := hown
  refine GoC.step (T' := s₁) (f' := (mkF m 18 #[.val (.long p1), .second, .val (.long p2), .second, .val (.long p3), .second, .val (.long p4), .second, .val (.long p5), .second, .val (.int p6), .val (.long (p1 &&& (281474976710655 : Int64))), .second, .val (.long (p2 &&& (65535 : Int64))), .second, .unset, .unset, .unset, .unset, .unset, .unset, .unset, .unset, .unset, .unset, .unset, .unset] [(.int (p6 &&& (1 : Int32)))])) (fun t kt => ?_) ?_
  · show Steps p.tables e below (s₁.setTop (mkF m 0 #[.val (.long p1), .second, .val (.long p2), .second, .val (.long p3), .second, .val (.long p4), .second, .val (.long p5), .second, .val (.int p6), .unset, .unset, .unset, .unset, .unset, .unset, .unset, .unset, .unset, .unset, .unset, .unset, .unset, .unset, .unset, .unset] [])) _
    refine XS.lloadN X0.here hx rfl (hb hby at_0) rfl ?_
    show Steps p.tables e below (s₁.setTop (mkF m 1 #[.val (.long p1), .second, .val (.long p2), .second, .val (.long p3), .second, .val (.long p4), .second, .val (.long p5), .second, .val (.int p6), .unset, .unset, .unset, .unset, .unset, .unset, .unset, .unset, .unset, .unset, .unset, .unset, .unset, .unset, .unset, .unset] [(.long p1)])) _
    refine X0.ldc2Long hx hown139 (mvT hZ139 (hw _ (List.mem_of_getElem? (i := 0) rfl))) (g := (mkF m 1 #[.val (.long p1), .second, .val (.long p2), .second, .val (.long p3), .second, .val (.long p4), .second, .val (.long p5), .second, .val (.int p6), .unset, .unset, .unset, .unset, .unset, .unset, .unset, .unset, .unset, .unset, .unset, .unset, .unset, .unset, .unset, .unset] [(.long p1)])) rfl (hb hby at_1) _ ?_
    show Steps p.tables e below (s₁.setTop (mkF m 4 #[.val (.long p1), .second, .val (.long p2), .second, .val (.long p3), .second, .val (.long p4), .second, .val (.long p5), .second, .val (.int p6), .unset, .unset, .unset, .unset, .unset, .unset, .unset, .unset, .unset, .unset, .unset, .unset, .unset, .unset, .unset, .unset] [(.long (281474976710655 : Int64)), (.long p1)])) _
    refine XS.land X0.here hx rfl (hb hby at_4) rfl ?_
    show Steps p.tables e below (s₁.setTop (mkF m 5 #[.val (.long p1), .second, .val (.long p2), .second, .val (.long p3), .second, .val (.long p4), .second, .val (.long p5), .second, .val (.int p6), .unset, .unset, .unset, .unset, .unset, .unset, .unset, .unset, .unset, .unset, .unset, .unset, .unset, .unset, .unset, .unset] [(.long (p1 &&& (281474976710655 : Int64)))])) _
    refine XS.lstore X0.here hx rfl (hb hby at_5) rfl (l' := #[.val (.long p1), .second, .val (.long p2), .second, .val (.long p3), .second, .val (.long p4), .second, .val (.long p5), .second, .val (.int p6), .val (.long (p1 &&& (281474976710655 : Int64))), .second, .unset, .unset, .unset, .unset, .unset, .unset, .unset, .unset, .unset, .unset, .unset, .unset, .unset, .unset]) rfl ?_
    show Steps p.tables e below (s₁.setTop (mkF m 7 #[.val (.long p1), .second, .val (.long p2), .second, .val (.long p3), .second, .val (.long p4), .second, .val (.long p5), .second, .val (.int p6), .val (.long (p1 &&& (281474976710655 : Int64))), .second, .unset, .unset, .unset, .unset, .unset, .unset, .unset, .unset, .unset, .unset, .unset, .unset, .unset, .unset] [])) _
    refine XS.lloadN X0.here hx rfl (hb hby at_7) rfl ?_
    show Steps p.tables e below (s₁.setTop (mkF m 8 #[.val (.long p1), .second, .val (.long p2), .second, .val (.long p3), .second, .val (.long p4), .second, .val (.long p5), .second, .val (.int p6), .val (.long (p1 &&& (281474976710655 : Int64))), .second, .unset, .unset, .unset, .unset, .unset, .unset, .unset, .unset, .unset, .unset, .unset, .unset, .unset, .unset] [(.long p2)])) _
    refine X0.ldc2Long hx hown140 (mvT hZ140 (hw _ (List.mem_of_getElem? (i := 1) rfl))) (g := (mkF m 8 #[.val (.long p1), .second, .val (.long p2), .second, .val (.long p3), .second, .val (.long p4), .second, .val (.long p5), .second, .val (.int p6), .val (.long (p1 &&& (281474976710655 : Int64))), .second, .unset, .unset, .unset, .unset, .unset, .unset, .unset, .unset, .unset, .unset, .unset, .unset, .unset, .unset] [(.long p2)])) rfl (hb hby at_8) _ ?_
    show Steps p.tables e below (s₁.setTop (mkF m 11 #[.val (.long p1), .second, .val (.long p2), .second, .val (.long p3), .second, .val (.long p4), .second, .val (.long p5), .second, .val (.int p6), .val (.long (p1 &&& (281474976710655 : Int64))), .second, .unset, .unset, .unset, .unset, .unset, .unset, .unset, .unset, .unset, .unset, .unset, .unset, .unset, .unset] [(.long (65535 : Int64)), (.long p2)])) _
    refine XS.land X0.here hx rfl (hb hby at_11) rfl ?_
    show Steps p.tables e below (s₁.setTop (mkF m 12 #[.val (.long p1), .second, .val (.long p2), .second, .val (.long p3), .second, .val (.long p4), .second, .val (.long p5), .second, .val (.int p6), .val (.long (p1 &&& (281474976710655 : Int64))), .second, .unset, .unset, .unset, .unset, .unset, .unset, .unset, .unset, .unset, .unset, .unset, .unset, .unset, .unset] [(.long (p2 &&& (65535 : Int64)))])) _
    refine XS.lstore X0.here hx rfl (hb hby at_12) rfl (l' := #[.val (.long p1), .second, .val (.long p2), .second, .val (.long p3), .second, .val (.long p4), .second, .val (.long p5), .second, .val (.int p6), .val (.long (p1 &&& (281474976710655 : Int64))), .second, .val (.long (p2 &&& (65535 : Int64))), .second, .unset, .unset, .unset, .unset, .unset, .unset, .unset, .unset, .unset, .unset, .unset, .unset]) rfl ?_
    show Steps p.tables e below (s₁.setTop (mkF m 14 #[.val (.long p1), .second, .val (.long p2), .second, .val (.long p3), .second, .val (.long p4), .second, .val (.long p5), .second, .val (.int p6), .val (.long (p1 &&& (281474976710655 : Int64))), .second, .val (.long (p2 &&& (65535 : Int64))), .second, .unset, .unset, .unset, .unset, .unset, .unset, .unset, .unset, .unset, .unset, .unset, .unset] [])) _
    refine XS.iload X0.here hx rfl (hb hby at_14) rfl ?_
    show Steps p.tables e below (s₁.setTop (mkF m 16 #[.val (.long p1), .second, .val (.long p2), .second, .val (.long p3), .second, .val (.long p4), .second, .val (.long p5), .second, .val (.int p6), .val (.long (p1 &&& (281474976710655 : Int64))), .second, .val (.long (p2 &&& (65535 : Int64))), .second, .unset, .unset, .unset, .unset, .unset, .unset, .unset, .unset, .unset, .unset, .unset, .unset] [(.int p6)])) _
    refine XS.iconst X0.here hx rfl (hb hby at_16) ?_
    show Steps p.tables e below (s₁.setTop (mkF m 17 #[.val (.long p1), .second, .val (.long p2), .second, .val (.long p3), .second, .val (.long p4), .second, .val (.long p5), .second, .val (.int p6), .val (.long (p1 &&& (281474976710655 : Int64))), .second, .val (.long (p2 &&& (65535 : Int64))), .second, .unset, .unset, .unset, .unset, .unset, .unset, .unset, .unset, .unset, .unset, .unset, .unset] [(.int (1 : Int32)), (.int p6)])) _
    refine XS.iand X0.here hx rfl (hb hby at_17) rfl ?_
    exact kt
  by_cases hc141 : (p6 &&& (1 : Int32)) = (0 : Int32)
  · have _ := hc141
    refine GoC.step (T' := s₁) (f' := (mkF m 26 #[.val (.long p1), .second, .val (.long p2), .second, .val (.long p3), .second, .val (.long p4), .second, .val (.long p5), .second, .val (.int p6), .val (.long (p1 &&& (281474976710655 : Int64))), .second, .val (.long (p2 &&& (65535 : Int64))), .second, .unset, .unset, .unset, .unset, .unset, .unset, .unset, .unset, .unset, .unset, .unset, .unset] [])) (fun t kt => ?_) ?_
    · show Steps p.tables e below (s₁.setTop (mkF m 18 #[.val (.long p1), .second, .val (.long p2), .second, .val (.long p3), .second, .val (.long p4), .second, .val (.long p5), .second, .val (.int p6), .val (.long (p1 &&& (281474976710655 : Int64))), .second, .val (.long (p2 &&& (65535 : Int64))), .second, .unset, .unset, .unset, .unset, .unset, .unset, .unset, .unset, .unset, .unset, .unset, .unset] [(.int (p6 &&& (1 : Int32)))])) _
      refine XS.ifYes X0.here hx rfl (pc0 := 18) (pc' := 26) rfl (hb hby at_18) rfl ((if0 _ _).trans (teq hc141).1) (by decide) (by decide) ?_
      exact kt
    have hZ142 := hZ
    have hown142 := hown
    refine GoC.step (T' := s₁) (f' := (mkF m 32 #[.val (.long p1), .second, .val (.long p2), .second, .val (.long p3), .second, .val (.long p4), .second, .val (.long p5), .second, .val (.int p6), .val (.long (p1 &&& (281474976710655 : Int64))), .second, .val (.long (p2 &&& (65535 : Int64))), .second, .unset, .unset, .unset, .unset, .unset, .unset, .unset, .unset, .unset, .unset, .unset, .unset] [(.long (p4 &&& (281474976710655 : Int64)))])) (fun t kt => ?_) ?_
    · show Steps p.tables e below (s₁.setTop (mkF m 26 #[.val (.long p1), .second, .val (.long p2), .second, .val (.long p3), .second, .val (.long p4), .second, .val (.long p5), .second, .val (.int p6), .val (.long (p1 &&& (281474976710655 : Int64))), .second, .val (.long (p2 &&& (65535 : Int64))), .second, .unset, .unset, .unset, .unset, .unset, .unset, .unset, .unset, .unset, .unset, .unset, .unset] [])) _
      refine XS.lload X0.here hx rfl (hb hby at_26) rfl ?_
      show Steps p.tables e below (s₁.setTop (mkF m 28 #[.val (.long p1), .second, .val (.long p2), .second, .val (.long p3), .second, .val (.long p4), .second, .val (.long p5), .second, .val (.int p6), .val (.long (p1 &&& (281474976710655 : Int64))), .second, .val (.long (p2 &&& (65535 : Int64))), .second, .unset, .unset, .unset, .unset, .unset, .unset, .unset, .unset, .unset, .unset, .unset, .unset] [(.long p4)])) _
      refine X0.ldc2Long hx hown142 (mvT hZ142 (hw _ (List.mem_of_getElem? (i := 0) rfl))) (g := (mkF m 28 #[.val (.long p1), .second, .val (.long p2), .second, .val (.long p3), .second, .val (.long p4), .second, .val (.long p5), .second, .val (.int p6), .val (.long (p1 &&& (281474976710655 : Int64))), .second, .val (.long (p2 &&& (65535 : Int64))), .second, .unset, .unset, .unset, .unset, .unset, .unset, .unset, .unset, .unset, .unset, .unset, .unset] [(.long p4)])) rfl (hb hby at_28) _ ?_
      show Steps p.tables e below (s₁.setTop (mkF m 31 #[.val (.long p1), .second, .val (.long p2), .second, .val (.long p3), .second, .val (.long p4), .second, .val (.long p5), .second, .val (.int p6), .val (.long (p1 &&& (281474976710655 : Int64))), .second, .val (.long (p2 &&& (65535 : Int64))), .second, .unset, .unset, .unset, .unset, .unset, .unset, .unset, .unset, .unset, .unset, .unset, .unset] [(.long (281474976710655 : Int64)), (.long p4)])) _
      refine XS.land X0.here hx rfl (hb hby at_31) rfl ?_
      exact kt
    exact S32 _ _ _ _ X0 (Nat.le_trans (Nat.le_refl 0) (by decide)) (Nat.le_trans (Nat.le_refl 0) (by decide)) h0 e0 N0 (p1 &&& (281474976710655 : Int64)) (p2 &&& (65535 : Int64)) (p4 &&& (281474976710655 : Int64)) (Keep.refl h0 []) HC0 F0 F1 (own_b48 _) (own_b16 _) (own_b48 _)
  · have _ := hc141
    refine GoC.step (T' := s₁) (f' := (mkF m 21 #[.val (.long p1), .second, .val (.long p2), .second, .val (.long p3), .second, .val (.long p4), .second, .val (.long p5), .second, .val (.int p6), .val (.long (p1 &&& (281474976710655 : Int64))), .second, .val (.long (p2 &&& (65535 : Int64))), .second, .unset, .unset, .unset, .unset, .unset, .unset, .unset, .unset, .unset, .unset, .unset, .unset] [])) (fun t kt => ?_) ?_
    · show Steps p.tables e below (s₁.setTop (mkF m 18 #[.val (.long p1), .second, .val (.long p2), .second, .val (.long p3), .second, .val (.long p4), .second, .val (.long p5), .second, .val (.int p6), .val (.long (p1 &&& (281474976710655 : Int64))), .second, .val (.long (p2 &&& (65535 : Int64))), .second, .unset, .unset, .unset, .unset, .unset, .unset, .unset, .unset, .unset, .unset, .unset, .unset] [(.int (p6 &&& (1 : Int32)))])) _
      refine XS.ifNo X0.here hx rfl (hb hby at_18) rfl ((if0 _ _).trans (feq hc141).1) ?_
      exact kt
    refine GoC.step (T' := s₁) (f' := (mkF m 32 #[.val (.long p1), .second, .val (.long p2), .second, .val (.long p3), .second, .val (.long p4), .second, .val (.long p5), .second, .val (.int p6), .val (.long (p1 &&& (281474976710655 : Int64))), .second, .val (.long (p2 &&& (65535 : Int64))), .second, .unset, .unset, .unset, .unset, .unset, .unset, .unset, .unset, .unset, .unset, .unset, .unset] [(.long (p1 &&& (281474976710655 : Int64)))])) (fun t kt => ?_) ?_
    · show Steps p.tables e below (s₁.setTop (mkF m 21 #[.val (.long p1), .second, .val (.long p2), .second, .val (.long p3), .second, .val (.long p4), .second, .val (.long p5), .second, .val (.int p6), .val (.long (p1 &&& (281474976710655 : Int64))), .second, .val (.long (p2 &&& (65535 : Int64))), .second, .unset, .unset, .unset, .unset, .unset, .unset, .unset, .unset, .unset, .unset, .unset, .unset] [])) _
      refine XS.lload X0.here hx rfl (hb hby at_21) rfl ?_
      show Steps p.tables e below (s₁.setTop (mkF m 23 #[.val (.long p1), .second, .val (.long p2), .second, .val (.long p3), .second, .val (.long p4), .second, .val (.long p5), .second, .val (.int p6), .val (.long (p1 &&& (281474976710655 : Int64))), .second, .val (.long (p2 &&& (65535 : Int64))), .second, .unset, .unset, .unset, .unset, .unset, .unset, .unset, .unset, .unset, .unset, .unset, .unset] [(.long (p1 &&& (281474976710655 : Int64)))])) _
      refine XS.goto X0.here hx rfl (pc0 := 23) (pc' := 32) rfl (hb hby at_23) (by decide) (by decide) ?_
      exact kt
    exact S32 _ _ _ _ X0 (Nat.le_trans (Nat.le_refl 0) (by decide)) (Nat.le_trans (Nat.le_refl 0) (by decide)) h0 e0 N0 (p1 &&& (281474976710655 : Int64)) (p2 &&& (65535 : Int64)) (p1 &&& (281474976710655 : Int64)) (Keep.refl h0 []) HC0 F0 F1 (own_b48 _) (own_b16 _) (own_b48 _)
set_option maxRecDepth 65536 in
set_option maxHeartbeats 40000000 in
theorem comes_1 {Post : Tables → Env → Array Value → State → Outcome → State → Prop} (hpost : ∀ tb e args s v u, (limb_1_1.after args s (.returned v) u = true ∧ limb_1_2.after args s (.returned v) u = true ∧ True) → ReturnedEndW s (.returned v) u (Jvm.fieldLocs frame_1_writes args s ++ Jvm.arrayLocs frame_1_arrays args s ++ Jvm.staticLocs frame_1_statics s) 24 2304 → Post tb e args s (.returned v) u) :
    ArmFor flags0 classFile x code maxLocals ret World_1 tables_1 room_1 Calls_1 rest_1 Pre_1 Post := by
  intro l hfl _ _ p e ha hc hk s m args below hf hA hF happ hP
  obtain ⟨hcalls, hrest, hpre⟩ := hP
  obtain ⟨-, -, -, hnamed, -, -, -, hat⟩ := (Spec.applies_iff hf).mp happ
  obtain ⟨hg, hn⟩ := and_e (Cond.before_iff.mp (show (Jvm.Cond.and given_1 narrow_1).before args s = true from hpre))
  obtain ⟨g1, g2⟩ := and_e hg
  obtain ⟨g3, g4⟩ := and_e g2
  obtain ⟨g5, g6⟩ := and_e g4
  obtain ⟨g7, g8⟩ := and_e g6
  obtain ⟨g9, g10⟩ := and_e g8
  obtain ⟨g11, g12⟩ := and_e g10
  obtain ⟨w0, w1, w2, w3, w4, w5, rfl⟩ : ∃ w0 w1 w2 w3 w4 w5 : Value, args = #[w0, w1, w2, w3, w4, w5] := by
    have hs : args.size = 6 := by simpa [Cond.value, given_1] using g1
    obtain ⟨L⟩ := args
    match L, hs with
    | [w0, w1, w2, w3, w4, w5], _ => exact ⟨w0, w1, w2, w3, w4, w5, rfl⟩
  have hw := fun d (hd : d ∈ tables_1) => atoms_spec (ws := Jvm.Cond.code x code maxLocals ret :: tables_1) hat d (List.mem_cons_of_mem _ hd)
  obtain ⟨hsets, hown0⟩ := atoms_of _ (rest_1_c_eq ▸ (show rest_1_c.before _ s = true from hrest))
  have hr0 := Cond.before_iff.mp hown0
  obtain ⟨i0, ei0⟩ := isL_v g3
  obtain rfl : w0 = (.long i0) := Option.some.inj ei0
  obtain ⟨i1, ei1⟩ := isL_v g5
  obtain rfl : w1 = (.long i1) := Option.some.inj ei1
  obtain ⟨i2, ei2⟩ := isL_v g7
  obtain rfl : w2 = (.long i2) := Option.some.inj ei2
  obtain ⟨i3, ei3⟩ := isL_v g9
  obtain rfl : w3 = (.long i3) := Option.some.inj ei3
  obtain ⟨i4, ei4⟩ := isL_v g11
  obtain rfl : w4 = (.long i4) := Option.some.inj ei4
  obtain ⟨i5, ei5⟩ := is_v g12
  obtain rfl : w5 = (.int i5) := Option.some.inj ei5
  obtain ⟨cs, evC⟩ := is_v (Cond.before_iff.mp (hsets _ (List.mem_of_getElem? (i := 1) rfl)))
  obtain ⟨fo, evF, hfo⟩ := isR_v (Cond.before_iff.mp (hsets _ (List.mem_of_getElem? (i := 8) rfl)))
  have hcs : ¬ cs = (0 : Int32) := fun q => by
    have z := Cond.before_iff.mp (hsets _ (List.mem_of_getElem? (i := 2) rfl))
    subst q
    have e0 : Term.eval #[Value.long i0, Value.long i1, Value.long i2, Value.long i3, Value.long i4, Value.int i5] s none [] s (Term.int (0 : Int32)) = some (Value.int 0) := rfl
    simp [Cond.value, evC, e0] at z
  have FC0 := Sta.start evC (Or.inl (hsets _ (List.mem_of_getElem? (i := 0) rfl)))
  have FS0 := Sta.start evF (Or.inl (hsets _ (List.mem_of_getElem? (i := 7) rfl)))
  obtain ⟨n, o, h1, h2, h3, _, L, rfl, ⟨hv, N⟩, -, hq⟩ := rm_0 l s _ hw tables_1 i0 i1 i2 i3 i4 i5 cs fo s.heap s.heap.size (Nat.le_refl _) FC0 FS0 hcs hfo p e ha hc hk s m _ below hf ((Spec.applies_iff_loose hf).mp happ).1 ⟨rfl, State.Warmed39.refl s, rfl, CHv.start (own_EL hw) (fun p hp => hcalls.1 p hp) (hsets _ (List.mem_of_getElem? (i := 2) rfl)) (hw _ (List.mem_of_getElem? (i := 60) rfl)) (hw _ (List.mem_of_getElem? (i := 59) rfl))⟩ trivial
  subst hv
  refine ⟨n, _, h1, h2, h3, hpost _ _ _ _ _ _ ⟨Cond.after_iff.mpr rfl, Cond.after_iff.mpr (eq_i res_at (Term.int_eval (1)) rfl), trivial⟩ ⟨hq.1, hq.2.1, hq.2.2.1, (hq.2.2.2.sift fun y hy => Or.inr (N y hy)).mono (by decide) (by decide)⟩⟩
theorem main_1_1 : Claimed_1_1 := comes_1 fun _ _ _ _ _ _ h hF => ⟨h.1, hF⟩
theorem main_1_2 : Claimed_1_2 := comes_1 fun _ _ _ _ _ _ h hF => ⟨h.2.1, hF⟩
end Jvm.Pilot.@@N@@
namespace Jvm.Pilot.@@N@@
open Jvm Jvm.ClassFile Sem Op Lib Jvm.Free Jvm.Stand Jvm.Pilot.@@N@@.Jvm.D
/-! MADE BY PROGRAM (witnessworld.py) out of the Statement's table words and the real class files: 22 classes; the members and pool entries that the words name. The judged class is class 1, her method 1. -/
namespace start1
open Jvm.ClassFile
def u (s : String) : CpInfo := .utf8 (stringToUtf16 s)
/-- a pool by its gaps: so many unusable entries, then the entry; so many at the end -/
def gap : Nat → List CpInfo → List CpInfo
  | 0, r => r
  | n + 1, r => .unusable :: gap n r
def poolList (es : List (Nat × CpInfo)) (last : Nat) : List CpInfo := es.foldr (fun e r => gap e.1 (e.2 :: r)) (gap last [])
def pool (es : List (Nat × CpInfo)) (last : Nat) : Array CpInfo := ⟨poolList es last⟩
def fileOf (pool : Array CpInfo) (this : Nat) (attrs : Array Attribute := #[]) (ms : Array MethodInfo := #[]) (fl : Nat := 33) (sup : Nat := 0) (ifs : Array Nat := #[]) (fds : Array FieldInfo := #[]) : ClassFile where
  minorVersion := 0
  majorVersion := 65
  constantPool := pool
  accessFlags := fl
  thisClass := this
  superClass := sup
  interfaces := ifs
  fields := fds
  methods := ms
  attributes := attrs
def plain (name : String) (sup : Option ClassId) : Class where
  name := name
  kind := .ordinary
  loader := none
  accessFlags := 33
  super := sup
  interfaces := #[]
  cf := none
  fields := #[]
  methods := #[]
  instanceTypes := #[]
  staticTypes := #[]
  resolved := #[]
  callSites := []
  init := .initialized
  statics := none
  mirror := none

def pool0 : Array CpInfo := pool [(5, u "<init>"), (0, u "()V"), (1, .class_ 10), (1, u "java/lang/Object")] 113

def k0c0 : Code := { maxStack := 0, maxLocals := 1, code := object_method_1_code, exceptionTable := #[], attributes := #[] }
def k0m0 : Method := { name := "<init>", desc := "()V", sig := { parameters := [], returnType := none }, accessFlags := 1, code := some k0c0 }
/-- java/lang/Object -/
def k0 : Class := { plain "java/lang/Object" none with
  accessFlags := 33
  interfaces := #[]
  cf := some (fileOf pool0 8 #[] #[{ accessFlags := 1, nameIndex := 5, descriptorIndex := 6, attributes := #[] }] 33 0 #[] #[])
  fields := #[]
  methods := #[k0m0]
  instanceTypes := #[]
  staticTypes := #[]
  resolved := Array.replicate 124 none
  statics := none }

def pool1 : Array CpInfo := pool [(2, .class_ 4), (1, u "java/lang/Object"), (0, u "<init>"), (0, u "()V"), (0, .long 281474976710655), (1, .long 65535), (1, .methodref 12 13), (0, .class_ 14), (0, .nameAndType 15 16), (0, u "com/example/lane4/lane4/model/JobId"), (0, u "of"), (0, u "(JJJ)Lcom/example/lane4/lane4/model/JobId;"), (0, .methodref 18 19), (0, .class_ 20), (0, .nameAndType 21 22), (0, u "com/example/lane4/lane4/model/JobIdOfPinLaw"), (0, u "ult"), (0, u "(JJ)Z"), (0, .methodref 12 24), (0, .nameAndType 25 26), (0, u "compareTo"), (0, u "(Lcom/example/lane4/lane4/model/JobId;)I"), (0, .methodref 18 28), (0, .nameAndType 29 30), (0, u "sign"), (0, u "(I)I"), (0, .methodref 12 32), (0, .nameAndType 33 34), (0, u "equals"), (0, u "(Ljava/lang/Object;)Z"), (0, .methodref 12 36), (0, .nameAndType 37 38), (0, u "toString"), (0, u "()Ljava/lang/String;"), (0, .methodref 40 41), (0, .class_ 42), (0, .nameAndType 43 44), (0, u "java/lang/String"), (0, u "length"), (0, u "()I"), (0, .methodref 40 46), (0, .nameAndType 47 48), (0, u "charAt"), (0, u "(I)C"), (0, .methodref 18 50), (0, .nameAndType 51 52), (0, u "digit"), (0, u "(J)C"), (0, .long 31), (3, .long 9223372036854775808), (1, .string 60), (0, u "0123456789ABCDEFGHJKMNPQRSTVWXYZ"), (2, u "law"), (0, u "(JJJJJI)Z")] 3

def k1m0 : Method := { name := "<init>", desc := "()V", sig := { parameters := [], returnType := none }, accessFlags := 1, code := none }
def k1c1 : Code := { maxStack := 6, maxLocals := 27, code := code, exceptionTable := #[], attributes := #[] }
def k1m1 : Method := { name := "law", desc := "(JJJJJI)Z", sig := { parameters := [.long, .long, .long, .long, .long, .int], returnType := some .boolean }, accessFlags := 9, code := some k1c1 }
def k1c2 : Code := { maxStack := 6, maxLocals := 4, code := method_3_code, exceptionTable := #[], attributes := #[] }
def k1m2 : Method := { name := "ult", desc := "(JJ)Z", sig := { parameters := [.long, .long], returnType := some .boolean }, accessFlags := 10, code := some k1c2 }
def k1c3 : Code := { maxStack := 1, maxLocals := 1, code := method_4_code, exceptionTable := #[], attributes := #[] }
def k1m3 : Method := { name := "sign", desc := "(I)I", sig := { parameters := [.int], returnType := some .int }, accessFlags := 10, code := some k1c3 }
def k1c4 : Code := { maxStack := 5, maxLocals := 2, code := method_5_code, exceptionTable := #[], attributes := #[] }
def k1m4 : Method := { name := "digit", desc := "(J)C", sig := { parameters := [.long], returnType := some .char }, accessFlags := 10, code := some k1c4 }
/-- com/example/lane4/lane4/model/JobIdOfPinLaw -/
def k1 : Class := { plain "com/example/lane4/lane4/model/JobIdOfPinLaw" (some 0) with
  accessFlags := 49
  interfaces := #[]
  cf := some (fileOf pool1 18 #[] #[{ accessFlags := 1, nameIndex := 5, descriptorIndex := 6, attributes := #[] }, { accessFlags := 9, nameIndex := 63, descriptorIndex := 64, attributes := #[] }, { accessFlags := 10, nameIndex := 21, descriptorIndex := 22, attributes := #[] }, { accessFlags := 10, nameIndex := 29, descriptorIndex := 30, attributes := #[] }, { accessFlags := 10, nameIndex := 51, descriptorIndex := 52, attributes := #[] }] 49 2 #[] #[])
  fields := #[]
  methods := #[k1m0, k1m1, k1m2, k1m3, k1m4]
  instanceTypes := #[]
  staticTypes := #[]
  resolved := Array.replicate 68 none
  statics := none }

def pool2 : Array CpInfo := pool [(1, .class_ 2), (0, u "java/lang/Comparable"), (0, .class_ 4), (0, u "java/lang/Object")] 7

/-- java/lang/Comparable -/
def k2 : Class := { plain "java/lang/Comparable" (some 0) with
  accessFlags := 1537
  interfaces := #[]
  cf := some (fileOf pool2 1 #[] #[] 1537 3 #[] #[])
  fields := #[]
  methods := #[]
  instanceTypes := #[]
  staticTypes := #[]
  resolved := Array.replicate 12 none
  statics := none }

def pool3 : Array CpInfo := pool [(1, .class_ 2), (0, u "java/lang/Long"), (0, .class_ 4), (0, u "com/example/lane4/lane4/model/JobId"), (0, .methodref 6 7), (0, .class_ 8), (0, .nameAndType 9 10), (0, u "java/lang/Object"), (0, u "<init>"), (0, u "()V"), (0, .fieldref 3 12), (0, .nameAndType 13 14), (0, u "high"), (0, u "J"), (0, .fieldref 3 16), (0, .nameAndType 17 14), (0, u "low"), (0, .methodref 3 19), (0, .nameAndType 9 20), (0, u "(JJ)V"), (0, .methodref 1 22), (0, .nameAndType 23 24), (0, u "compareUnsigned"), (0, u "(JJ)I"), (9, .class_ 36), (1, u "java/lang/String"), (10, .nameAndType 48 49), (0, u "charAt"), (0, u "(I)C"), (2, u "VALUES"), (0, u "[B"), (13, u "toString"), (0, u "()Ljava/lang/String;"), (0, .fieldref 3 70), (0, .nameAndType 71 72), (0, u "text"), (0, u "Ljava/lang/String;"), (10, .methodref 3 84), (0, .nameAndType 85 68), (0, u "write"), (0, .string 87), (0, u "0123456789ABCDEFGHJKMNPQRSTVWXYZ"), (0, .methodref 34 47), (0, .methodref 34 90), (0, .nameAndType 9 91), (0, u "([C)V"), (15, u "compareTo"), (0, u "(Lcom/example/lane4/lane4/model/JobId;)I"), (4, .class_ 114), (0, u "java/lang/Comparable"), (0, u "RANDOM_HIGH_BITS"), (0, u "I"), (2, u "MAX_TIMESTAMP"), (2, u "MAX_RANDOM_HIGH"), (2, u "ALPHABET"), (0, u "LENGTH"), (1, u "BITS_PER_CHARACTER"), (1, u "CHARACTER_MASK"), (1, u "MAX_FIRST_CHARACTER"), (3, u "of"), (0, u "(JJJ)Lcom/example/lane4/lane4/model/JobId;"), (6, u "equals"), (0, u "(Ljava/lang/Object;)Z")] 31

def k3c0 : Code := { maxStack := 3, maxLocals := 5, code := prog_11_method_1_code, exceptionTable := #[], attributes := #[] }
def k3m0 : Method := { name := "<init>", desc := "(JJ)V", sig := { parameters := [.long, .long], returnType := none }, accessFlags := 2, code := some k3c0 }
def k3c1 : Code := { maxStack := 6, maxLocals := 6, code := prog_11_method_2_code, exceptionTable := #[], attributes := #[] }
def k3m1 : Method := { name := "of", desc := "(JJJ)Lcom/example/lane4/lane4/model/JobId;", sig := { parameters := [.long, .long, .long], returnType := some (.object "com/example/lane4/lane4/model/JobId") }, accessFlags := 8, code := some k3c1 }
def k3c2 : Code := { maxStack := 4, maxLocals := 3, code := prog_11_method_7_code, exceptionTable := #[], attributes := #[] }
def k3m2 : Method := { name := "compareTo", desc := "(Lcom/example/lane4/lane4/model/JobId;)I", sig := { parameters := [(.object "com/example/lane4/lane4/model/JobId")], returnType := some .int }, accessFlags := 1, code := some k3c2 }
def k3c3 : Code := { maxStack := 4, maxLocals := 3, code := prog_11_method_8_code, exceptionTable := #[], attributes := #[] }
def k3m3 : Method := { name := "equals", desc := "(Ljava/lang/Object;)Z", sig := { parameters := [(.object "java/lang/Object")], returnType := some .boolean }, accessFlags := 1, code := some k3c3 }
def k3c4 : Code := { maxStack := 2, maxLocals := 2, code := prog_11_method_10_code, exceptionTable := #[], attributes := #[] }
def k3m4 : Method := { name := "toString", desc := "()Ljava/lang/String;", sig := { parameters := [], returnType := some (.object "java/lang/String") }, accessFlags := 1, code := some k3c4 }
def k3c5 : Code := { maxStack := 5, maxLocals := 6, code := prog_11_method_11_code, exceptionTable := #[], attributes := #[] }
def k3m5 : Method := { name := "write", desc := "()Ljava/lang/String;", sig := { parameters := [], returnType := some (.object "java/lang/String") }, accessFlags := 2, code := some k3c5 }
/-- com/example/lane4/lane4/model/JobId -/
def k3 : Class := { plain "com/example/lane4/lane4/model/JobId" (some 0) with
  accessFlags := 49
  interfaces := #[2]
  cf := some (fileOf pool3 3 #[] #[{ accessFlags := 2, nameIndex := 9, descriptorIndex := 20, attributes := #[] }, { accessFlags := 8, nameIndex := 136, descriptorIndex := 137, attributes := #[] }, { accessFlags := 1, nameIndex := 107, descriptorIndex := 108, attributes := #[] }, { accessFlags := 1, nameIndex := 144, descriptorIndex := 145, attributes := #[] }, { accessFlags := 1, nameIndex := 67, descriptorIndex := 68, attributes := #[] }, { accessFlags := 2, nameIndex := 85, descriptorIndex := 68, attributes := #[] }] 49 6 #[113] #[{ accessFlags := 26, nameIndex := 115, descriptorIndex := 116, attributes := #[] }, { accessFlags := 24, nameIndex := 119, descriptorIndex := 14, attributes := #[] }, { accessFlags := 24, nameIndex := 122, descriptorIndex := 14, attributes := #[] }, { accessFlags := 25, nameIndex := 125, descriptorIndex := 72, attributes := #[] }, { accessFlags := 26, nameIndex := 126, descriptorIndex := 116, attributes := #[] }, { accessFlags := 26, nameIndex := 128, descriptorIndex := 116, attributes := #[] }, { accessFlags := 26, nameIndex := 130, descriptorIndex := 116, attributes := #[] }, { accessFlags := 26, nameIndex := 132, descriptorIndex := 116, attributes := #[] }, { accessFlags := 26, nameIndex := 52, descriptorIndex := 53, attributes := #[] }, { accessFlags := 18, nameIndex := 13, descriptorIndex := 14, attributes := #[] }, { accessFlags := 18, nameIndex := 17, descriptorIndex := 14, attributes := #[] }, { accessFlags := 2, nameIndex := 71, descriptorIndex := 72, attributes := #[] }])
  fields := #[{ name := "RANDOM_HIGH_BITS", type := .int, accessFlags := 26, slot := 0, constantValue := 0 }, { name := "MAX_TIMESTAMP", type := .long, accessFlags := 24, slot := 1, constantValue := 0 }, { name := "MAX_RANDOM_HIGH", type := .long, accessFlags := 24, slot := 2, constantValue := 0 }, { name := "ALPHABET", type := (.object "java/lang/String"), accessFlags := 25, slot := 3, constantValue := 0 }, { name := "LENGTH", type := .int, accessFlags := 26, slot := 4, constantValue := 0 }, { name := "BITS_PER_CHARACTER", type := .int, accessFlags := 26, slot := 5, constantValue := 0 }, { name := "CHARACTER_MASK", type := .int, accessFlags := 26, slot := 6, constantValue := 0 }, { name := "MAX_FIRST_CHARACTER", type := .int, accessFlags := 26, slot := 7, constantValue := 0 }, { name := "VALUES", type := (.array .byte), accessFlags := 26, slot := 8, constantValue := 0 }, { name := "high", type := .long, accessFlags := 18, slot := 0, constantValue := 0 }, { name := "low", type := .long, accessFlags := 18, slot := 1, constantValue := 0 }, { name := "text", type := (.object "java/lang/String"), accessFlags := 2, slot := 2, constantValue := 0 }]
  methods := #[k3m0, k3m1, k3m2, k3m3, k3m4, k3m5]
  instanceTypes := #[.long, .long, (.object "java/lang/String")]
  staticTypes := #[.int, .long, .long, (.object "java/lang/String"), .int, .int, .int, .int, (.array .byte)]
  resolved := Array.replicate 177 none
  statics := none }

def pool4 : Array CpInfo := pool [(1, .class_ 2), (0, u "java/io/Serializable"), (0, .class_ 4), (0, u "java/lang/Object")] 2

/-- java/io/Serializable -/
def k4 : Class := { plain "java/io/Serializable" (some 0) with
  accessFlags := 1537
  interfaces := #[]
  cf := some (fileOf pool4 1 #[] #[] 1537 3 #[] #[])
  fields := #[]
  methods := #[]
  instanceTypes := #[]
  staticTypes := #[]
  resolved := Array.replicate 7 none
  statics := none }

def pool5 : Array CpInfo := pool [(2, .class_ 4), (1, u "java/lang/Object"), (0, u "<init>"), (0, u "()V"), (1, .class_ 10), (1, u "java/lang/Number"), (2, .class_ 14), (0, u "java/io/Serializable"), (0, u "serialVersionUID"), (0, u "J")] 20

def k5m0 : Method := { name := "<init>", desc := "()V", sig := { parameters := [], returnType := none }, accessFlags := 1, code := none }
/-- java/lang/Number -/
def k5 : Class := { plain "java/lang/Number" (some 0) with
  accessFlags := 1057
  interfaces := #[4]
  cf := some (fileOf pool5 8 #[] #[{ accessFlags := 1, nameIndex := 5, descriptorIndex := 6, attributes := #[] }] 1057 2 #[13] #[{ accessFlags := 26, nameIndex := 15, descriptorIndex := 16, attributes := #[] }])
  fields := #[{ name := "serialVersionUID", type := .long, accessFlags := 26, slot := 0, constantValue := 0 }]
  methods := #[k5m0]
  instanceTypes := #[]
  staticTypes := #[.long]
  resolved := Array.replicate 37 none
  statics := none }

def pool6 : Array CpInfo := pool [(1, .class_ 2), (0, u "java/lang/constant/Constable"), (0, .class_ 4), (0, u "java/lang/Object")] 6

/-- java/lang/constant/Constable -/
def k6 : Class := { plain "java/lang/constant/Constable" (some 0) with
  accessFlags := 1537
  interfaces := #[]
  cf := some (fileOf pool6 1 #[] #[] 1537 3 #[] #[])
  fields := #[]
  methods := #[]
  instanceTypes := #[]
  staticTypes := #[]
  resolved := Array.replicate 11 none
  statics := none }

def pool7 : Array CpInfo := pool [(1, .class_ 2), (0, u "java/lang/constant/ConstantDesc"), (0, .class_ 4), (0, u "java/lang/Object")] 32

/-- java/lang/constant/ConstantDesc -/
def k7 : Class := { plain "java/lang/constant/ConstantDesc" (some 0) with
  accessFlags := 1537
  interfaces := #[]
  cf := some (fileOf pool7 1 #[] #[] 1537 3 #[] #[])
  fields := #[]
  methods := #[]
  instanceTypes := #[]
  staticTypes := #[]
  resolved := Array.replicate 37 none
  statics := none }

def pool8 : Array CpInfo := pool [(1, .class_ 2), (0, u "java/lang/Long"), (165, .long 9223372036854775808), (66, .class_ 237), (1, u "java/lang/Long$LongCache"), (33, .class_ 272), (0, u "java/lang/Number"), (2, u "value"), (0, u "J"), (25, .methodref 1 303), (0, .nameAndType 304 305), (0, u "compare"), (0, u "(JJ)I"), (55, u "TYPE"), (0, u "Ljava/lang/Class;"), (0, .class_ 364), (0, u "java/lang/Comparable"), (0, .class_ 366), (0, u "java/lang/constant/Constable"), (0, .class_ 368), (0, u "java/lang/constant/ConstantDesc"), (0, u "MIN_VALUE"), (1, u "MAX_VALUE"), (4, u "SIZE"), (0, u "I"), (1, u "BYTES"), (1, u "serialVersionUID"), (87, u "compareUnsigned")] 54

def k8c0 : Code := { maxStack := 4, maxLocals := 4, code := jdk_35_method_42_code, exceptionTable := #[], attributes := #[] }
def k8m0 : Method := { name := "compare", desc := "(JJ)I", sig := { parameters := [.long, .long], returnType := some .int }, accessFlags := 9, code := some k8c0 }
def k8c1 : Code := { maxStack := 6, maxLocals := 4, code := jdk_35_method_43_code, exceptionTable := #[], attributes := #[] }
def k8m1 : Method := { name := "compareUnsigned", desc := "(JJ)I", sig := { parameters := [.long, .long], returnType := some .int }, accessFlags := 9, code := some k8c1 }
/-- java/lang/Long -/
def k8 : Class := { plain "java/lang/Long" (some 5) with
  accessFlags := 49
  interfaces := #[2, 6, 7]
  cf := some (fileOf pool8 1 #[.nestMembers #[235]] #[{ accessFlags := 9, nameIndex := 304, descriptorIndex := 305, attributes := #[] }, { accessFlags := 9, nameIndex := 469, descriptorIndex := 305, attributes := #[] }] 49 271 #[363, 365, 367] #[{ accessFlags := 25, nameIndex := 369, descriptorIndex := 276, attributes := #[] }, { accessFlags := 25, nameIndex := 371, descriptorIndex := 276, attributes := #[] }, { accessFlags := 25, nameIndex := 361, descriptorIndex := 362, attributes := #[] }, { accessFlags := 18, nameIndex := 275, descriptorIndex := 276, attributes := #[] }, { accessFlags := 25, nameIndex := 376, descriptorIndex := 377, attributes := #[] }, { accessFlags := 25, nameIndex := 379, descriptorIndex := 377, attributes := #[] }, { accessFlags := 26, nameIndex := 381, descriptorIndex := 276, attributes := #[] }])
  fields := #[{ name := "MIN_VALUE", type := .long, accessFlags := 25, slot := 0, constantValue := 0 }, { name := "MAX_VALUE", type := .long, accessFlags := 25, slot := 1, constantValue := 0 }, { name := "TYPE", type := (.object "java/lang/Class"), accessFlags := 25, slot := 2, constantValue := 0 }, { name := "value", type := .long, accessFlags := 18, slot := 0, constantValue := 0 }, { name := "SIZE", type := .int, accessFlags := 25, slot := 3, constantValue := 0 }, { name := "BYTES", type := .int, accessFlags := 25, slot := 4, constantValue := 0 }, { name := "serialVersionUID", type := .long, accessFlags := 26, slot := 5, constantValue := 0 }]
  methods := #[k8m0, k8m1]
  instanceTypes := #[.long]
  staticTypes := #[.long, .long, (.object "java/lang/Class"), .int, .int, .long]
  resolved := Array.replicate 524 none
  statics := none }

def pool9 : Array CpInfo := pool [(2, .class_ 4), (1, u "java/lang/CharSequence"), (42, .class_ 48), (0, u "java/lang/CharSequence$1CodePointIterator"), (10, .class_ 60), (0, u "java/lang/CharSequence$1CharIterator"), (5, .class_ 67), (0, u "java/lang/Object")] 63

/-- java/lang/CharSequence -/
def k9 : Class := { plain "java/lang/CharSequence" (some 0) with
  accessFlags := 1537
  interfaces := #[]
  cf := some (fileOf pool9 2 #[.nestMembers #[47, 59]] #[] 1537 66 #[] #[])
  fields := #[]
  methods := #[]
  instanceTypes := #[]
  staticTypes := #[]
  resolved := Array.replicate 131 none
  statics := none }

def pool10 : Array CpInfo := pool [(1, .methodref 2 3), (0, .class_ 4), (0, .nameAndType 5 6), (0, u "java/lang/Object"), (0, u "<init>"), (0, u "()V"), (2, .fieldref 10 11), (0, .class_ 12), (0, .nameAndType 13 14), (0, u "java/lang/String"), (0, u "value"), (0, u "[B"), (0, .fieldref 10 16), (0, .nameAndType 17 18), (0, u "coder"), (0, u "B"), (2, u "hash"), (0, u "I"), (2, u "hashIsZero"), (0, u "Z"), (0, .methodref 10 28), (0, .nameAndType 5 29), (0, u "([CIILjava/lang/Void;)V"), (8, .fieldref 10 39), (0, .nameAndType 40 26), (0, u "COMPACT_STRINGS"), (1, .class_ 44), (1, u "java/lang/StringUTF16"), (0, u "compress"), (1, .methodref 42 48), (0, .nameAndType 49 50), (0, u "coderFromArrayLen"), (0, u "([BI)B"), (56, .class_ 109), (1, u "java/lang/StringLatin1"), (32, u "()Z"), (34, .methodref 42 178), (0, .nameAndType 45 179), (0, u "([CII)[B"), (154, u "()I"), (0, .methodref 10 336), (0, .nameAndType 17 337), (0, u "()B"), (25, u "([BI)C"), (27, u "(II)V"), (35, u "(I)C"), (64, .methodref 10 493), (0, .nameAndType 494 142), (0, u "isLatin1"), (0, .methodref 107 496), (0, .nameAndType 497 363), (0, u "charAt"), (3, u "checkIndex"), (5, u "length"), (67, .class_ 576), (0, u "java/lang/CharSequence"), (22, u "CASE_INSENSITIVE_ORDER"), (0, u "Ljava/util/Comparator;"), (409, u "([C)V"), (42, .fieldref 1054 1055), (0, .class_ 1056), (0, .nameAndType 1057 1058), (0, u "jdk/internal/util/Preconditions"), (0, u "SIOOBE_FORMATTER"), (0, u "Ljava/util/function/BiFunction;"), (0, .methodref 1054 1060), (0, .nameAndType 501 1061), (0, u "(IILjava/util/function/BiFunction;)I"), (39, u "serialPersistentFields"), (0, u "[Ljava/io/ObjectStreamField;"), (0, .class_ 1104), (0, u "java/lang/String$CaseInsensitiveComparator"), (1, .class_ 1107), (0, u "java/io/Serializable"), (0, .class_ 1109), (0, u "java/lang/Comparable"), (0, .class_ 1111), (0, u "java/lang/constant/Constable"), (0, .class_ 1113), (0, u "java/lang/constant/ConstantDesc"), (2, u "serialVersionUID"), (0, u "J"), (3, u "REPL"), (0, u "C"), (2, u "LATIN1"), (1, u "UTF16")] 323

def k10m0 : Method := { name := "<init>", desc := "()V", sig := { parameters := [], returnType := none }, accessFlags := 1, code := none }
def k10c1 : Code := { maxStack := 5, maxLocals := 2, code := jdk_42_method_3_code, exceptionTable := #[], attributes := #[] }
def k10m1 : Method := { name := "<init>", desc := "([C)V", sig := { parameters := [(.array .char)], returnType := none }, accessFlags := 1, code := some k10c1 }
def k10c2 : Code := { maxStack := 2, maxLocals := 1, code := jdk_42_method_54_code, exceptionTable := #[], attributes := #[] }
def k10m2 : Method := { name := "length", desc := "()I", sig := { parameters := [], returnType := some .int }, accessFlags := 1, code := some k10c2 }
def k10c3 : Code := { maxStack := 2, maxLocals := 2, code := jdk_42_method_56_code, exceptionTable := #[], attributes := #[] }
def k10m3 : Method := { name := "charAt", desc := "(I)C", sig := { parameters := [.int], returnType := some .char }, accessFlags := 1, code := some k10c3 }
def k10c4 : Code := { maxStack := 4, maxLocals := 6, code := jdk_42_method_149_code, exceptionTable := #[], attributes := #[] }
def k10m4 : Method := { name := "<init>", desc := "([CIILjava/lang/Void;)V", sig := { parameters := [(.array .char), .int, .int, (.object "java/lang/Void")], returnType := none }, accessFlags := 2, code := some k10c4 }
def k10c5 : Code := { maxStack := 1, maxLocals := 1, code := jdk_42_method_152_code, exceptionTable := #[], attributes := #[] }
def k10m5 : Method := { name := "coder", desc := "()B", sig := { parameters := [], returnType := some .byte }, accessFlags := 0, code := some k10c5 }
def k10c6 : Code := { maxStack := 1, maxLocals := 1, code := jdk_42_method_154_code, exceptionTable := #[], attributes := #[] }
def k10m6 : Method := { name := "isLatin1", desc := "()Z", sig := { parameters := [], returnType := some .boolean }, accessFlags := 0, code := some k10c6 }
def k10c7 : Code := { maxStack := 3, maxLocals := 2, code := jdk_42_method_155_code, exceptionTable := #[], attributes := #[] }
def k10m7 : Method := { name := "checkIndex", desc := "(II)V", sig := { parameters := [.int, .int], returnType := none }, accessFlags := 8, code := some k10c7 }
/-- java/lang/String -/
def k10 : Class := { plain "java/lang/String" (some 0) with
  accessFlags := 49
  interfaces := #[4, 2, 9, 6, 7]
  cf := some (fileOf pool10 10 #[.nestMembers #[1103]] #[{ accessFlags := 1, nameIndex := 5, descriptorIndex := 6, attributes := #[] }, { accessFlags := 1, nameIndex := 5, descriptorIndex := 1010, attributes := #[] }, { accessFlags := 1, nameIndex := 507, descriptorIndex := 334, attributes := #[] }, { accessFlags := 1, nameIndex := 497, descriptorIndex := 427, attributes := #[] }, { accessFlags := 2, nameIndex := 5, descriptorIndex := 29, attributes := #[] }, { accessFlags := 0, nameIndex := 17, descriptorIndex := 337, attributes := #[] }, { accessFlags := 0, nameIndex := 494, descriptorIndex := 142, attributes := #[] }, { accessFlags := 8, nameIndex := 501, descriptorIndex := 391, attributes := #[] }] 49 2 #[1106, 1108, 575, 1110, 1112] #[{ accessFlags := 18, nameIndex := 13, descriptorIndex := 14, attributes := #[] }, { accessFlags := 18, nameIndex := 17, descriptorIndex := 18, attributes := #[] }, { accessFlags := 2, nameIndex := 21, descriptorIndex := 22, attributes := #[] }, { accessFlags := 2, nameIndex := 25, descriptorIndex := 26, attributes := #[] }, { accessFlags := 26, nameIndex := 1116, descriptorIndex := 1117, attributes := #[] }, { accessFlags := 24, nameIndex := 40, descriptorIndex := 26, attributes := #[] }, { accessFlags := 26, nameIndex := 1101, descriptorIndex := 1102, attributes := #[] }, { accessFlags := 26, nameIndex := 1121, descriptorIndex := 1122, attributes := #[] }, { accessFlags := 25, nameIndex := 599, descriptorIndex := 600, attributes := #[] }, { accessFlags := 24, nameIndex := 1125, descriptorIndex := 18, attributes := #[] }, { accessFlags := 24, nameIndex := 1127, descriptorIndex := 18, attributes := #[] }])
  fields := #[{ name := "value", type := (.array .byte), accessFlags := 18, slot := 0, constantValue := 0 }, { name := "coder", type := .byte, accessFlags := 18, slot := 1, constantValue := 0 }, { name := "hash", type := .int, accessFlags := 2, slot := 2, constantValue := 0 }, { name := "hashIsZero", type := .boolean, accessFlags := 2, slot := 3, constantValue := 0 }, { name := "serialVersionUID", type := .long, accessFlags := 26, slot := 0, constantValue := 0 }, { name := "COMPACT_STRINGS", type := .boolean, accessFlags := 24, slot := 1, constantValue := 0 }, { name := "serialPersistentFields", type := (.array (.object "java/io/ObjectStreamField")), accessFlags := 26, slot := 2, constantValue := 0 }, { name := "REPL", type := .char, accessFlags := 26, slot := 3, constantValue := 0 }, { name := "CASE_INSENSITIVE_ORDER", type := (.object "java/util/Comparator"), accessFlags := 25, slot := 4, constantValue := 0 }, { name := "LATIN1", type := .byte, accessFlags := 24, slot := 5, constantValue := 0 }, { name := "UTF16", type := .byte, accessFlags := 24, slot := 6, constantValue := 0 }]
  methods := #[k10m0, k10m1, k10m2, k10m3, k10m4, k10m5, k10m6, k10m7]
  instanceTypes := #[(.array .byte), .byte, .int, .boolean]
  staticTypes := #[.long, .boolean, (.array (.object "java/io/ObjectStreamField")), .char, (.object "java/util/Comparator"), .byte, .byte]
  resolved := Array.replicate 1451 none
  statics := some 0 }

def pool11 : Array CpInfo := pool [(1, .class_ 2), (0, u "java/lang/String"), (1, .class_ 6), (1, u "java/lang/Object"), (0, u "<init>"), (0, u "()V"), (0, .methodref 1 10), (0, .nameAndType 11 12), (0, u "checkIndex"), (0, u "(II)V"), (1, .class_ 16), (1, u "java/lang/StringLatin1"), (36, u "([BI)C"), (67, u "$assertionsDisabled"), (0, u "Z"), (98, .class_ 223), (1, u "java/lang/StringLatin1$LinesSpliterator"), (28, u "charAt"), (137, .class_ 391), (0, u "java/lang/StringLatin1$CharsSpliterator")] 3

def k11m0 : Method := { name := "<init>", desc := "()V", sig := { parameters := [], returnType := none }, accessFlags := 0, code := none }
def k11c1 : Code := { maxStack := 2, maxLocals := 2, code := jdk_43_method_2_code, exceptionTable := #[], attributes := #[] }
def k11m1 : Method := { name := "charAt", desc := "([BI)C", sig := { parameters := [(.array .byte), .int], returnType := some .char }, accessFlags := 9, code := some k11c1 }
/-- java/lang/StringLatin1 -/
def k11 : Class := { plain "java/lang/StringLatin1" (some 0) with
  accessFlags := 48
  interfaces := #[]
  cf := some (fileOf pool11 14 #[.nestMembers #[390, 221]] #[{ accessFlags := 0, nameIndex := 7, descriptorIndex := 8, attributes := #[] }, { accessFlags := 9, nameIndex := 252, descriptorIndex := 53, attributes := #[] }] 48 4 #[] #[{ accessFlags := 4120, nameIndex := 121, descriptorIndex := 122, attributes := #[] }])
  fields := #[{ name := "$assertionsDisabled", type := .boolean, accessFlags := 4120, slot := 0, constantValue := 0 }]
  methods := #[k11m0, k11m1]
  instanceTypes := #[]
  staticTypes := #[.boolean]
  resolved := Array.replicate 395 none
  statics := none }

def pool12 : Array CpInfo := pool [(2, .class_ 4), (1, u "java/lang/Object"), (0, u "<init>"), (0, u "()V"), (17, .class_ 26), (1, u "jdk/internal/util/Preconditions"), (6, u "checkIndex"), (21, .class_ 56), (0, u "jdk/internal/util/Preconditions$4"), (57, .class_ 115), (0, u "jdk/internal/util/Preconditions$1"), (7, u "SIOOBE_FORMATTER"), (0, u "Ljava/util/function/BiFunction;"), (0, .class_ 126), (0, u "jdk/internal/util/Preconditions$2"), (3, u "AIOOBE_FORMATTER"), (0, .class_ 132), (0, u "jdk/internal/util/Preconditions$3"), (3, u "IOOBE_FORMATTER"), (41, u "(IILjava/util/function/BiFunction;)I")] 15

def k12m0 : Method := { name := "<init>", desc := "()V", sig := { parameters := [], returnType := none }, accessFlags := 1, code := none }
def k12c1 : Code := { maxStack := 3, maxLocals := 3, code := jdk_41_method_11_code, exceptionTable := #[], attributes := #[] }
def k12m1 : Method := { name := "checkIndex", desc := "(IILjava/util/function/BiFunction;)I", sig := { parameters := [.int, .int, (.object "java/util/function/BiFunction")], returnType := some .int }, accessFlags := 9, code := some k12c1 }
/-- jdk/internal/util/Preconditions -/
def k12 : Class := { plain "jdk/internal/util/Preconditions" (some 0) with
  accessFlags := 33
  interfaces := #[]
  cf := some (fileOf pool12 24 #[.nestMembers #[55, 131, 125, 114]] #[{ accessFlags := 1, nameIndex := 5, descriptorIndex := 6, attributes := #[] }, { accessFlags := 9, nameIndex := 33, descriptorIndex := 178, attributes := #[] }] 33 2 #[] #[{ accessFlags := 25, nameIndex := 123, descriptorIndex := 124, attributes := #[] }, { accessFlags := 25, nameIndex := 130, descriptorIndex := 124, attributes := #[] }, { accessFlags := 25, nameIndex := 136, descriptorIndex := 124, attributes := #[] }])
  fields := #[{ name := "SIOOBE_FORMATTER", type := (.object "java/util/function/BiFunction"), accessFlags := 25, slot := 0, constantValue := 0 }, { name := "AIOOBE_FORMATTER", type := (.object "java/util/function/BiFunction"), accessFlags := 25, slot := 1, constantValue := 0 }, { name := "IOOBE_FORMATTER", type := (.object "java/util/function/BiFunction"), accessFlags := 25, slot := 2, constantValue := 0 }]
  methods := #[k12m0, k12m1]
  instanceTypes := #[]
  staticTypes := #[(.object "java/util/function/BiFunction"), (.object "java/util/function/BiFunction"), (.object "java/util/function/BiFunction")]
  resolved := Array.replicate 194 none
  statics := some 1 }

def pool13 : Array CpInfo := pool [(6, .class_ 8), (1, u "java/lang/Object"), (0, u "<init>"), (0, u "()V"), (1, .class_ 14), (1, u "java/lang/StringUTF16"), (31, u "$assertionsDisabled"), (0, u "Z"), (13, u "HI_BYTE_SHIFT"), (0, u "I"), (2, u "LO_BYTE_SHIFT"), (49, .methodref 12 116), (0, .nameAndType 117 118), (0, u "compress"), (0, u "([CI[BII)I"), (3, u "([CII)[B"), (138, u "coderFromArrayLen"), (0, u "([BI)B"), (106, .class_ 371), (1, u "java/lang/StringUTF16$LinesSpliterator"), (58, u "MAX_LENGTH"), (196, .class_ 628), (0, u "java/lang/StringUTF16$CodePointsSpliterator"), (0, .class_ 630), (0, u "java/lang/StringUTF16$CharsSpliterator")] 4

def k13m0 : Method := { name := "<init>", desc := "()V", sig := { parameters := [], returnType := none }, accessFlags := 0, code := none }
def k13c1 : Code := { maxStack := 2, maxLocals := 2, code := jdk_52_method_15_code, exceptionTable := #[], attributes := #[] }
def k13m1 : Method := { name := "coderFromArrayLen", desc := "([BI)B", sig := { parameters := [(.array .byte), .int], returnType := some .byte }, accessFlags := 8, code := some k13c1 }
def k13c2 : Code := { maxStack := 5, maxLocals := 6, code := jdk_52_method_16_code, exceptionTable := #[], attributes := #[] }
def k13m2 : Method := { name := "compress", desc := "([CII)[B", sig := { parameters := [(.array .char), .int, .int], returnType := some (.array .byte) }, accessFlags := 9, code := some k13c2 }
def k13c3 : Code := { maxStack := 3, maxLocals := 7, code := jdk_52_method_21_code, exceptionTable := #[], attributes := #[] }
def k13m3 : Method := { name := "compress", desc := "([CI[BII)I", sig := { parameters := [(.array .char), .int, (.array .byte), .int, .int], returnType := some .int }, accessFlags := 9, code := some k13c3 }
/-- java/lang/StringUTF16 -/
def k13 : Class := { plain "java/lang/StringUTF16" (some 0) with
  accessFlags := 48
  interfaces := #[]
  cf := some (fileOf pool13 12 #[.nestMembers #[627, 629, 369]] #[{ accessFlags := 0, nameIndex := 9, descriptorIndex := 10, attributes := #[] }, { accessFlags := 8, nameIndex := 261, descriptorIndex := 262, attributes := #[] }, { accessFlags := 9, nameIndex := 117, descriptorIndex := 122, attributes := #[] }, { accessFlags := 9, nameIndex := 117, descriptorIndex := 118, attributes := #[] }] 48 6 #[] #[{ accessFlags := 26, nameIndex := 61, descriptorIndex := 62, attributes := #[] }, { accessFlags := 26, nameIndex := 65, descriptorIndex := 62, attributes := #[] }, { accessFlags := 24, nameIndex := 430, descriptorIndex := 62, attributes := #[] }, { accessFlags := 4120, nameIndex := 46, descriptorIndex := 47, attributes := #[] }])
  fields := #[{ name := "HI_BYTE_SHIFT", type := .int, accessFlags := 26, slot := 0, constantValue := 0 }, { name := "LO_BYTE_SHIFT", type := .int, accessFlags := 26, slot := 1, constantValue := 0 }, { name := "MAX_LENGTH", type := .int, accessFlags := 24, slot := 2, constantValue := 0 }, { name := "$assertionsDisabled", type := .boolean, accessFlags := 4120, slot := 3, constantValue := 0 }]
  methods := #[k13m0, k13m1, k13m2, k13m3]
  instanceTypes := #[]
  staticTypes := #[.int, .int, .int, .boolean]
  resolved := Array.replicate 635 none
  statics := none }

def pool14 : Array CpInfo := pool [(9, u "<init>"), (6, .class_ 18), (1, u "java/lang/Object"), (0, u "()V"), (1, .class_ 23), (1, u "jdk/internal/util/ArraysSupport"), (0, u "LOG2_ARRAY_LONG_INDEX_SCALE"), (0, u "I"), (2, u "U"), (0, u "Ljdk/internal/misc/Unsafe;"), (8, u "BIG_ENDIAN"), (0, u "Z"), (8, u "LOG2_BYTE_BIT_SIZE"), (4, u "LOG2_ARRAY_INT_INDEX_SCALE"), (54, u "JLA"), (0, u "Ljdk/internal/access/JavaLangAccess;"), (11, u "LOG2_ARRAY_BOOLEAN_INDEX_SCALE"), (9, u "LOG2_ARRAY_BYTE_INDEX_SCALE"), (5, u "LOG2_ARRAY_CHAR_INDEX_SCALE"), (5, u "LOG2_ARRAY_SHORT_INDEX_SCALE"), (18, u "LOG2_ARRAY_FLOAT_INDEX_SCALE"), (24, u "LOG2_ARRAY_DOUBLE_INDEX_SCALE"), (89, u "T_BOOLEAN"), (2, u "T_CHAR"), (1, u "T_FLOAT"), (1, u "T_DOUBLE"), (1, u "T_BYTE"), (1, u "T_SHORT"), (1, u "T_INT"), (1, u "T_LONG"), (1, u "SOFT_MAX_ARRAY_LENGTH")] 83

def k14m0 : Method := { name := "<init>", desc := "()V", sig := { parameters := [], returnType := none }, accessFlags := 2, code := none }
/-- jdk/internal/util/ArraysSupport -/
def k14 : Class := { plain "jdk/internal/util/ArraysSupport" (some 0) with
  accessFlags := 33
  interfaces := #[]
  cf := some (fileOf pool14 21 #[] #[{ accessFlags := 2, nameIndex := 9, descriptorIndex := 19, attributes := #[] }] 33 16 #[] #[{ accessFlags := 24, nameIndex := 28, descriptorIndex := 29, attributes := #[] }, { accessFlags := 26, nameIndex := 38, descriptorIndex := 39, attributes := #[] }, { accessFlags := 25, nameIndex := 121, descriptorIndex := 25, attributes := #[] }, { accessFlags := 25, nameIndex := 131, descriptorIndex := 25, attributes := #[] }, { accessFlags := 25, nameIndex := 137, descriptorIndex := 25, attributes := #[] }, { accessFlags := 25, nameIndex := 143, descriptorIndex := 25, attributes := #[] }, { accessFlags := 25, nameIndex := 53, descriptorIndex := 25, attributes := #[] }, { accessFlags := 25, nameIndex := 24, descriptorIndex := 25, attributes := #[] }, { accessFlags := 25, nameIndex := 162, descriptorIndex := 25, attributes := #[] }, { accessFlags := 25, nameIndex := 187, descriptorIndex := 25, attributes := #[] }, { accessFlags := 26, nameIndex := 48, descriptorIndex := 25, attributes := #[] }, { accessFlags := 25, nameIndex := 277, descriptorIndex := 25, attributes := #[] }, { accessFlags := 25, nameIndex := 280, descriptorIndex := 25, attributes := #[] }, { accessFlags := 25, nameIndex := 282, descriptorIndex := 25, attributes := #[] }, { accessFlags := 25, nameIndex := 284, descriptorIndex := 25, attributes := #[] }, { accessFlags := 25, nameIndex := 286, descriptorIndex := 25, attributes := #[] }, { accessFlags := 25, nameIndex := 288, descriptorIndex := 25, attributes := #[] }, { accessFlags := 25, nameIndex := 290, descriptorIndex := 25, attributes := #[] }, { accessFlags := 25, nameIndex := 292, descriptorIndex := 25, attributes := #[] }, { accessFlags := 26, nameIndex := 108, descriptorIndex := 109, attributes := #[] }, { accessFlags := 25, nameIndex := 294, descriptorIndex := 25, attributes := #[] }])
  fields := #[{ name := "U", type := (.object "jdk/internal/misc/Unsafe"), accessFlags := 24, slot := 0, constantValue := 0 }, { name := "BIG_ENDIAN", type := .boolean, accessFlags := 26, slot := 1, constantValue := 0 }, { name := "LOG2_ARRAY_BOOLEAN_INDEX_SCALE", type := .int, accessFlags := 25, slot := 2, constantValue := 0 }, { name := "LOG2_ARRAY_BYTE_INDEX_SCALE", type := .int, accessFlags := 25, slot := 3, constantValue := 0 }, { name := "LOG2_ARRAY_CHAR_INDEX_SCALE", type := .int, accessFlags := 25, slot := 4, constantValue := 0 }, { name := "LOG2_ARRAY_SHORT_INDEX_SCALE", type := .int, accessFlags := 25, slot := 5, constantValue := 0 }, { name := "LOG2_ARRAY_INT_INDEX_SCALE", type := .int, accessFlags := 25, slot := 6, constantValue := 0 }, { name := "LOG2_ARRAY_LONG_INDEX_SCALE", type := .int, accessFlags := 25, slot := 7, constantValue := 0 }, { name := "LOG2_ARRAY_FLOAT_INDEX_SCALE", type := .int, accessFlags := 25, slot := 8, constantValue := 0 }, { name := "LOG2_ARRAY_DOUBLE_INDEX_SCALE", type := .int, accessFlags := 25, slot := 9, constantValue := 0 }, { name := "LOG2_BYTE_BIT_SIZE", type := .int, accessFlags := 26, slot := 10, constantValue := 0 }, { name := "T_BOOLEAN", type := .int, accessFlags := 25, slot := 11, constantValue := 0 }, { name := "T_CHAR", type := .int, accessFlags := 25, slot := 12, constantValue := 0 }, { name := "T_FLOAT", type := .int, accessFlags := 25, slot := 13, constantValue := 0 }, { name := "T_DOUBLE", type := .int, accessFlags := 25, slot := 14, constantValue := 0 }, { name := "T_BYTE", type := .int, accessFlags := 25, slot := 15, constantValue := 0 }, { name := "T_SHORT", type := .int, accessFlags := 25, slot := 16, constantValue := 0 }, { name := "T_INT", type := .int, accessFlags := 25, slot := 17, constantValue := 0 }, { name := "T_LONG", type := .int, accessFlags := 25, slot := 18, constantValue := 0 }, { name := "JLA", type := (.object "jdk/internal/access/JavaLangAccess"), accessFlags := 26, slot := 19, constantValue := 0 }, { name := "SOFT_MAX_ARRAY_LENGTH", type := .int, accessFlags := 25, slot := 20, constantValue := 0 }]
  methods := #[k14m0]
  instanceTypes := #[]
  staticTypes := #[(.object "jdk/internal/misc/Unsafe"), .boolean, .int, .int, .int, .int, .int, .int, .int, .int, .int, .int, .int, .int, .int, .int, .int, .int, .int, (.object "jdk/internal/access/JavaLangAccess"), .int]
  resolved := Array.replicate 378 none
  statics := none }

def pool15 : Array CpInfo := pool [(1, u "java/lang/Cloneable"), (0, .class_ 1), (0, u "java/lang/Object"), (0, .class_ 3)] 3

/-- java/lang/Cloneable -/
def k15 : Class := { plain "java/lang/Cloneable" (some 0) with
  accessFlags := 1537
  interfaces := #[]
  cf := some (fileOf pool15 2 #[] #[] 1537 4 #[] #[])
  fields := #[]
  methods := #[]
  instanceTypes := #[]
  staticTypes := #[]
  resolved := Array.replicate 8 none
  statics := none }

/-- the primitive byte -/
def k16 : Class := { plain "byte" none with kind := .primitive 'B', accessFlags := 0x411 }
/-- [B -/
def k17 : Class := { plain "[B" (some 0) with kind := .array 16 .byte, interfaces := #[15, 4], accessFlags := 1041 }

/-- the primitive char -/
def k18 : Class := { plain "char" none with kind := .primitive 'C', accessFlags := 0x411 }
/-- [C -/
def k19 : Class := { plain "[C" (some 0) with kind := .array 18 .char, interfaces := #[15, 4], accessFlags := 1041 }

/-- the primitive int -/
def k20 : Class := { plain "int" none with kind := .primitive 'I', accessFlags := 0x411 }
/-- [I -/
def k21 : Class := { plain "[I" (some 0) with kind := .array 20 .int, interfaces := #[15, 4], accessFlags := 1041 }

def heap : Heap := #[{ cls := 10, slots := #[.long 0, .int 1, .null, .int 0, .null, .int 0, .int 0], vm := .statics 10 },
  { cls := 12, slots := #[.null, .null, .null], vm := .statics 12 },
  { cls := 10, slots := #[.ref 3, .int 0, .int 0, .int 0], vm := .none },
  { cls := 17, slots := #[.int 48, .int 49, .int 50, .int 51, .int 52, .int 53, .int 54, .int 55, .int 56, .int 57, .int 65, .int 66, .int 67, .int 68, .int 69, .int 70, .int 71, .int 72, .int 74, .int 75, .int 77, .int 78, .int 80, .int 81, .int 82, .int 83, .int 84, .int 86, .int 87, .int 88, .int 89, .int 90], vm := .none }]
def classes : Array Class := #[k0, k1, k2, k3, k4, k5, k6, k7, k8, k9, k10, k11, k12, k13, k14, k15, k16, k17, k18, k19, k20, k21]
def interned : List (Array UInt16 × Addr) := [(#[48, 49, 50, 51, 52, 53, 54, 55, 56, 57, 65, 66, 67, 68, 69, 70, 71, 72, 74, 75, 77, 78, 80, 81, 82, 83, 84, 86, 87, 88, 89, 90], 2)]
def slotsUsed : Nat := 46
def theMethod : MethodId := ⟨1, 1⟩
def args0 : Array Value := #[.long 5, .long 7, .long 9, .long 11, .long 13, .int 3]
def aboutOver (below : List Frame) : State where
  vm := { classes := classes, interned := interned.toArray }
  heap := heap
  slotsUsed := slotsUsed
  threads := #[{ frames := .invoking theMethod args0 :: below }]
def below0 : List Frame := [.native { method := ⟨0, 0⟩, args := #[] }]
def about1 : State := aboutOver below0
def p0 : Program := .bare "" "" ""
def e0 : Env := launch0.env 0 0 0
theorem w_frames : about1.frames = Frame.invoking theMethod args0 :: below0 := rfl
set_option maxRecDepth 65536 in
theorem w_args : argsFit about1.vm theMethod args0 = true := by decide +kernel
set_option maxRecDepth 65536 in
theorem w_heap : heapFits about1 = true := by decide +kernel
set_option maxRecDepth 65536 in
theorem w_runnable : about1.curStatus? = some .runnable := by decide +kernel
set_option maxRecDepth 65536 in
theorem w_alone : about1.alone = true := by decide +kernel
set_option maxRecDepth 65536 in
theorem w_named : about1.methodNamed? x = some theMethod := by decide +kernel
set_option maxRecDepth 65536 in
theorem w_hears : about1.hears theMethod below0 = true := by decide +kernel
set_option maxRecDepth 65536 in
theorem w_ripe : about1.ripe theMethod args0 below0 = true := by decide +kernel
theorem w_running : about1.status = .running := rfl
set_option maxRecDepth 65536 in
theorem w_room : about1.hasRoom e0.platform room_1 = true :=
  launch0.hasRoom_least _ room_1 (by decide +kernel) (by decide +kernel) (by decide +kernel) (by decide +kernel) (by decide +kernel) (by decide +kernel)
theorem allAtoms_all (ts : List Jvm.Cond) (a : Array Jvm.Value) (st : Jvm.State) : (allAtoms ts).before a st = ts.all (fun c => c.before a st) := by
  induction ts with
  | nil => rfl
  | cons c t ih =>
    show (Jvm.Cond.and c (allAtoms t)).before a st = _
    rw [Jvm.Cond.before_and, ih, List.all_cons]
def words1 : List Jvm.Cond := Jvm.Cond.code x code maxLocals ret :: tables_1
/-- a 'code' word, met by the world's own term for the bytes: nothing is compared byte by byte -/
theorem code_word {y : MethodName} {bytes : ByteArray} {mx : Nat} {rt : Option FieldType} {a : Array Value} {s : State} {m : MethodId} {meth : Method} {c : Code} (h1 : s.methodNamed? y = some m) (h2 : s.vm.method? m = some meth) (h3 : meth.code = some c) (h4 : c.code = bytes)
    (h5 : (c.maxLocals == mx && c.exceptionTable.isEmpty && decide (c.maxStack ≤ mostOperands) && decide (meth.sig.returnType = rt) && !meth.locks && decide (parseMethodDescriptor y.desc = some meth.sig)) = true) : (Jvm.Cond.code y bytes mx rt).before a s = true := by
  simp only [Bool.and_eq_true, beq_iff_eq, Bool.not_eq_true', decide_eq_true_eq] at h5
  obtain ⟨⟨⟨⟨⟨g1, g2⟩, g3⟩, g4⟩, g5⟩, g6⟩ := h5
  simp [Cond.before, Cond.holds, Cond.value, h1, h2, h3, h4, g1, g2, g3, g4, g5, g6]
def isCode : Jvm.Cond → Bool
  | .code _ _ _ _ => true
  | _ => false
theorem all_split {L : List Jvm.Cond} {P : Jvm.Cond → Bool} (h1 : L.all (fun c => isCode c || P c) = true) (h2 : ∀ c ∈ L.filter isCode, P c = true) : L.all P = true := by
  refine List.all_eq_true.mpr fun c hc => ?_
  have h := List.all_eq_true.mp h1 c hc
  rcases Bool.eq_false_or_eq_true (isCode c) with hi | hi
  · exact h2 c (List.mem_filter.mpr ⟨hc, hi⟩)
  · simpa [hi] using h
set_option maxRecDepth 65536 in
theorem w_c0 : (Jvm.Cond.code x code maxLocals ret).before args0 about1 = true := code_word (m := ⟨1, 1⟩) (meth := k1m1) (c := k1c1) (by decide +kernel) rfl rfl rfl (by decide +kernel)
set_option maxRecDepth 65536 in
theorem w_c1 : (Jvm.Cond.code ({ cls := "com/example/lane4/lane4/model/JobId", name := "of", desc := "(JJJ)Lcom/example/lane4/lane4/model/JobId;" } : Jvm.MethodName) prog_11_method_2_code (6 : Nat) (Option.some (Jvm.ClassFile.FieldType.object "com/example/lane4/lane4/model/JobId"))).before args0 about1 = true := code_word (m := ⟨3, 1⟩) (meth := k3m1) (c := k3c1) (by decide +kernel) rfl rfl rfl (by decide +kernel)
set_option maxRecDepth 65536 in
theorem w_c2 : (Jvm.Cond.code ({ cls := "com/example/lane4/lane4/model/JobId", name := "<init>", desc := "(JJ)V" } : Jvm.MethodName) prog_11_method_1_code (5 : Nat) (Option.none : Option Jvm.ClassFile.FieldType)).before args0 about1 = true := code_word (m := ⟨3, 0⟩) (meth := k3m0) (c := k3c0) (by decide +kernel) rfl rfl rfl (by decide +kernel)
set_option maxRecDepth 65536 in
theorem w_c3 : (Jvm.Cond.code ({ cls := "java/lang/Object", name := "<init>", desc := "()V" } : Jvm.MethodName) object_method_1_code (1 : Nat) (Option.none : Option Jvm.ClassFile.FieldType)).before args0 about1 = true := code_word (m := ⟨0, 0⟩) (meth := k0m0) (c := k0c0) (by decide +kernel) rfl rfl rfl (by decide +kernel)
set_option maxRecDepth 65536 in
theorem w_c4 : (Jvm.Cond.code ({ cls := "com/example/lane4/lane4/model/JobIdOfPinLaw", name := "ult", desc := "(JJ)Z" } : Jvm.MethodName) method_3_code (4 : Nat) (Option.some Jvm.ClassFile.FieldType.boolean)).before args0 about1 = true := code_word (m := ⟨1, 2⟩) (meth := k1m2) (c := k1c2) (by decide +kernel) rfl rfl rfl (by decide +kernel)
set_option maxRecDepth 65536 in
theorem w_c5 : (Jvm.Cond.code ({ cls := "com/example/lane4/lane4/model/JobId", name := "compareTo", desc := "(Lcom/example/lane4/lane4/model/JobId;)I" } : Jvm.MethodName) prog_11_method_7_code (3 : Nat) (Option.some Jvm.ClassFile.FieldType.int)).before args0 about1 = true := code_word (m := ⟨3, 2⟩) (meth := k3m2) (c := k3c2) (by decide +kernel) rfl rfl rfl (by decide +kernel)
set_option maxRecDepth 65536 in
theorem w_c6 : (Jvm.Cond.code ({ cls := "java/lang/Long", name := "compareUnsigned", desc := "(JJ)I" } : Jvm.MethodName) jdk_35_method_43_code (4 : Nat) (Option.some Jvm.ClassFile.FieldType.int)).before args0 about1 = true := code_word (m := ⟨8, 1⟩) (meth := k8m1) (c := k8c1) (by decide +kernel) rfl rfl rfl (by decide +kernel)
set_option maxRecDepth 65536 in
theorem w_c7 : (Jvm.Cond.code ({ cls := "java/lang/Long", name := "compare", desc := "(JJ)I" } : Jvm.MethodName) jdk_35_method_42_code (4 : Nat) (Option.some Jvm.ClassFile.FieldType.int)).before args0 about1 = true := code_word (m := ⟨8, 0⟩) (meth := k8m0) (c := k8c0) (by decide +kernel) rfl rfl rfl (by decide +kernel)
set_option maxRecDepth 65536 in
theorem w_c8 : (Jvm.Cond.code ({ cls := "com/example/lane4/lane4/model/JobIdOfPinLaw", name := "sign", desc := "(I)I" } : Jvm.MethodName) method_4_code (1 : Nat) (Option.some Jvm.ClassFile.FieldType.int)).before args0 about1 = true := code_word (m := ⟨1, 3⟩) (meth := k1m3) (c := k1c3) (by decide +kernel) rfl rfl rfl (by decide +kernel)
set_option maxRecDepth 65536 in
theorem w_c9 : (Jvm.Cond.code ({ cls := "com/example/lane4/lane4/model/JobId", name := "equals", desc := "(Ljava/lang/Object;)Z" } : Jvm.MethodName) prog_11_method_8_code (3 : Nat) (Option.some Jvm.ClassFile.FieldType.boolean)).before args0 about1 = true := code_word (m := ⟨3, 3⟩) (meth := k3m3) (c := k3c3) (by decide +kernel) rfl rfl rfl (by decide +kernel)
set_option maxRecDepth 65536 in
theorem w_c10 : (Jvm.Cond.code ({ cls := "com/example/lane4/lane4/model/JobId", name := "toString", desc := "()Ljava/lang/String;" } : Jvm.MethodName) prog_11_method_10_code (2 : Nat) (Option.some (Jvm.ClassFile.FieldType.object "java/lang/String"))).before args0 about1 = true := code_word (m := ⟨3, 4⟩) (meth := k3m4) (c := k3c4) (by decide +kernel) rfl rfl rfl (by decide +kernel)
set_option maxRecDepth 65536 in
theorem w_c11 : (Jvm.Cond.code ({ cls := "com/example/lane4/lane4/model/JobId", name := "write", desc := "()Ljava/lang/String;" } : Jvm.MethodName) prog_11_method_11_code (6 : Nat) (Option.some (Jvm.ClassFile.FieldType.object "java/lang/String"))).before args0 about1 = true := code_word (m := ⟨3, 5⟩) (meth := k3m5) (c := k3c5) (by decide +kernel) rfl rfl rfl (by decide +kernel)
set_option maxRecDepth 65536 in
theorem w_c12 : (Jvm.Cond.code ({ cls := "java/lang/String", name := "charAt", desc := "(I)C" } : Jvm.MethodName) jdk_42_method_56_code (2 : Nat) (Option.some Jvm.ClassFile.FieldType.char)).before args0 about1 = true := code_word (m := ⟨10, 3⟩) (meth := k10m3) (c := k10c3) (by decide +kernel) rfl rfl rfl (by decide +kernel)
set_option maxRecDepth 65536 in
theorem w_c13 : (Jvm.Cond.code ({ cls := "java/lang/String", name := "isLatin1", desc := "()Z" } : Jvm.MethodName) jdk_42_method_154_code (1 : Nat) (Option.some Jvm.ClassFile.FieldType.boolean)).before args0 about1 = true := code_word (m := ⟨10, 6⟩) (meth := k10m6) (c := k10c6) (by decide +kernel) rfl rfl rfl (by decide +kernel)
set_option maxRecDepth 65536 in
theorem w_c14 : (Jvm.Cond.code ({ cls := "java/lang/StringLatin1", name := "charAt", desc := "([BI)C" } : Jvm.MethodName) jdk_43_method_2_code (2 : Nat) (Option.some Jvm.ClassFile.FieldType.char)).before args0 about1 = true := code_word (m := ⟨11, 1⟩) (meth := k11m1) (c := k11c1) (by decide +kernel) rfl rfl rfl (by decide +kernel)
set_option maxRecDepth 65536 in
theorem w_c15 : (Jvm.Cond.code ({ cls := "java/lang/String", name := "checkIndex", desc := "(II)V" } : Jvm.MethodName) jdk_42_method_155_code (2 : Nat) (Option.none : Option Jvm.ClassFile.FieldType)).before args0 about1 = true := code_word (m := ⟨10, 7⟩) (meth := k10m7) (c := k10c7) (by decide +kernel) rfl rfl rfl (by decide +kernel)
set_option maxRecDepth 65536 in
theorem w_c16 : (Jvm.Cond.code ({ cls := "jdk/internal/util/Preconditions", name := "checkIndex", desc := "(IILjava/util/function/BiFunction;)I" } : Jvm.MethodName) jdk_41_method_11_code (3 : Nat) (Option.some Jvm.ClassFile.FieldType.int)).before args0 about1 = true := code_word (m := ⟨12, 1⟩) (meth := k12m1) (c := k12c1) (by decide +kernel) rfl rfl rfl (by decide +kernel)
set_option maxRecDepth 65536 in
theorem w_c17 : (Jvm.Cond.code ({ cls := "java/lang/String", name := "<init>", desc := "([C)V" } : Jvm.MethodName) jdk_42_method_3_code (2 : Nat) (Option.none : Option Jvm.ClassFile.FieldType)).before args0 about1 = true := code_word (m := ⟨10, 1⟩) (meth := k10m1) (c := k10c1) (by decide +kernel) rfl rfl rfl (by decide +kernel)
set_option maxRecDepth 65536 in
theorem w_c18 : (Jvm.Cond.code ({ cls := "java/lang/String", name := "<init>", desc := "([CIILjava/lang/Void;)V" } : Jvm.MethodName) jdk_42_method_149_code (6 : Nat) (Option.none : Option Jvm.ClassFile.FieldType)).before args0 about1 = true := code_word (m := ⟨10, 4⟩) (meth := k10m4) (c := k10c4) (by decide +kernel) rfl rfl rfl (by decide +kernel)
set_option maxRecDepth 65536 in
theorem w_c19 : (Jvm.Cond.code ({ cls := "java/lang/StringUTF16", name := "compress", desc := "([CII)[B" } : Jvm.MethodName) jdk_52_method_16_code (6 : Nat) (Option.some (Jvm.ClassFile.FieldType.array Jvm.ClassFile.FieldType.byte))).before args0 about1 = true := code_word (m := ⟨13, 2⟩) (meth := k13m2) (c := k13c2) (by decide +kernel) rfl rfl rfl (by decide +kernel)
set_option maxRecDepth 65536 in
theorem w_c20 : (Jvm.Cond.code ({ cls := "java/lang/StringUTF16", name := "compress", desc := "([CI[BII)I" } : Jvm.MethodName) jdk_52_method_21_code (7 : Nat) (Option.some Jvm.ClassFile.FieldType.int)).before args0 about1 = true := code_word (m := ⟨13, 3⟩) (meth := k13m3) (c := k13c3) (by decide +kernel) rfl rfl rfl (by decide +kernel)
set_option maxRecDepth 65536 in
theorem w_c21 : (Jvm.Cond.code ({ cls := "java/lang/StringUTF16", name := "coderFromArrayLen", desc := "([BI)B" } : Jvm.MethodName) jdk_52_method_15_code (2 : Nat) (Option.some Jvm.ClassFile.FieldType.byte)).before args0 about1 = true := code_word (m := ⟨13, 1⟩) (meth := k13m1) (c := k13c1) (by decide +kernel) rfl rfl rfl (by decide +kernel)
set_option maxRecDepth 65536 in
theorem w_c22 : (Jvm.Cond.code ({ cls := "java/lang/String", name := "length", desc := "()I" } : Jvm.MethodName) jdk_42_method_54_code (1 : Nat) (Option.some Jvm.ClassFile.FieldType.int)).before args0 about1 = true := code_word (m := ⟨10, 2⟩) (meth := k10m2) (c := k10c2) (by decide +kernel) rfl rfl rfl (by decide +kernel)
set_option maxRecDepth 65536 in
theorem w_c23 : (Jvm.Cond.code ({ cls := "java/lang/String", name := "coder", desc := "()B" } : Jvm.MethodName) jdk_42_method_152_code (1 : Nat) (Option.some Jvm.ClassFile.FieldType.byte)).before args0 about1 = true := code_word (m := ⟨10, 5⟩) (meth := k10m5) (c := k10c5) (by decide +kernel) rfl rfl rfl (by decide +kernel)
set_option maxRecDepth 65536 in
theorem w_c24 : (Jvm.Cond.code ({ cls := "com/example/lane4/lane4/model/JobIdOfPinLaw", name := "digit", desc := "(J)C" } : Jvm.MethodName) method_5_code (2 : Nat) (Option.some Jvm.ClassFile.FieldType.char)).before args0 about1 = true := code_word (m := ⟨1, 4⟩) (meth := k1m4) (c := k1c4) (by decide +kernel) rfl rfl rfl (by decide +kernel)
def codes1 : List Jvm.Cond := [Jvm.Cond.code x code maxLocals ret, Jvm.Cond.code ({ cls := "com/example/lane4/lane4/model/JobId", name := "of", desc := "(JJJ)Lcom/example/lane4/lane4/model/JobId;" } : Jvm.MethodName) prog_11_method_2_code (6 : Nat) (Option.some (Jvm.ClassFile.FieldType.object "com/example/lane4/lane4/model/JobId")), Jvm.Cond.code ({ cls := "com/example/lane4/lane4/model/JobId", name := "<init>", desc := "(JJ)V" } : Jvm.MethodName) prog_11_method_1_code (5 : Nat) (Option.none : Option Jvm.ClassFile.FieldType), Jvm.Cond.code ({ cls := "java/lang/Object", name := "<init>", desc := "()V" } : Jvm.MethodName) object_method_1_code (1 : Nat) (Option.none : Option Jvm.ClassFile.FieldType), Jvm.Cond.code ({ cls := "com/example/lane4/lane4/model/JobIdOfPinLaw", name := "ult", desc := "(JJ)Z" } : Jvm.MethodName) method_3_code (4 : Nat) (Option.some Jvm.ClassFile.FieldType.boolean), Jvm.Cond.code ({ cls := "com/example/lane4/lane4/model/JobId", name := "compareTo", desc := "(Lcom/example/lane4/lane4/model/JobId;)I" } : Jvm.MethodName) prog_11_method_7_code (3 : Nat) (Option.some Jvm.ClassFile.FieldType.int), Jvm.Cond.code ({ cls := "java/lang/Long", name := "compareUnsigned", desc := "(JJ)I" } : Jvm.MethodName) jdk_35_method_43_code (4 : Nat) (Option.some Jvm.ClassFile.FieldType.int), Jvm.Cond.code ({ cls := "java/lang/Long", name := "compare", desc := "(JJ)I" } : Jvm.MethodName) jdk_35_method_42_code (4 : Nat) (Option.some Jvm.ClassFile.FieldType.int), Jvm.Cond.code ({ cls := "com/example/lane4/lane4/model/JobIdOfPinLaw", name := "sign", desc := "(I)I" } : Jvm.MethodName) method_4_code (1 : Nat) (Option.some Jvm.ClassFile.FieldType.int), Jvm.Cond.code ({ cls := "com/example/lane4/lane4/model/JobId", name := "equals", desc := "(Ljava/lang/Object;)Z" } : Jvm.MethodName) prog_11_method_8_code (3 : Nat) (Option.some Jvm.ClassFile.FieldType.boolean), Jvm.Cond.code ({ cls := "com/example/lane4/lane4/model/JobId", name := "toString", desc := "()Ljava/lang/String;" } : Jvm.MethodName) prog_11_method_10_code (2 : Nat) (Option.some (Jvm.ClassFile.FieldType.object "java/lang/String")), Jvm.Cond.code ({ cls := "com/example/lane4/lane4/model/JobId", name := "write", desc := "()Ljava/lang/String;" } : Jvm.MethodName) prog_11_method_11_code (6 : Nat) (Option.some (Jvm.ClassFile.FieldType.object "java/lang/String")), Jvm.Cond.code ({ cls := "java/lang/String", name := "charAt", desc := "(I)C" } : Jvm.MethodName) jdk_42_method_56_code (2 : Nat) (Option.some Jvm.ClassFile.FieldType.char), Jvm.Cond.code ({ cls := "java/lang/String", name := "isLatin1", desc := "()Z" } : Jvm.MethodName) jdk_42_method_154_code (1 : Nat) (Option.some Jvm.ClassFile.FieldType.boolean), Jvm.Cond.code ({ cls := "java/lang/StringLatin1", name := "charAt", desc := "([BI)C" } : Jvm.MethodName) jdk_43_method_2_code (2 : Nat) (Option.some Jvm.ClassFile.FieldType.char), Jvm.Cond.code ({ cls := "java/lang/String", name := "checkIndex", desc := "(II)V" } : Jvm.MethodName) jdk_42_method_155_code (2 : Nat) (Option.none : Option Jvm.ClassFile.FieldType), Jvm.Cond.code ({ cls := "jdk/internal/util/Preconditions", name := "checkIndex", desc := "(IILjava/util/function/BiFunction;)I" } : Jvm.MethodName) jdk_41_method_11_code (3 : Nat) (Option.some Jvm.ClassFile.FieldType.int), Jvm.Cond.code ({ cls := "java/lang/String", name := "<init>", desc := "([C)V" } : Jvm.MethodName) jdk_42_method_3_code (2 : Nat) (Option.none : Option Jvm.ClassFile.FieldType), Jvm.Cond.code ({ cls := "java/lang/String", name := "<init>", desc := "([CIILjava/lang/Void;)V" } : Jvm.MethodName) jdk_42_method_149_code (6 : Nat) (Option.none : Option Jvm.ClassFile.FieldType), Jvm.Cond.code ({ cls := "java/lang/StringUTF16", name := "compress", desc := "([CII)[B" } : Jvm.MethodName) jdk_52_method_16_code (6 : Nat) (Option.some (Jvm.ClassFile.FieldType.array Jvm.ClassFile.FieldType.byte)), Jvm.Cond.code ({ cls := "java/lang/StringUTF16", name := "compress", desc := "([CI[BII)I" } : Jvm.MethodName) jdk_52_method_21_code (7 : Nat) (Option.some Jvm.ClassFile.FieldType.int), Jvm.Cond.code ({ cls := "java/lang/StringUTF16", name := "coderFromArrayLen", desc := "([BI)B" } : Jvm.MethodName) jdk_52_method_15_code (2 : Nat) (Option.some Jvm.ClassFile.FieldType.byte), Jvm.Cond.code ({ cls := "java/lang/String", name := "length", desc := "()I" } : Jvm.MethodName) jdk_42_method_54_code (1 : Nat) (Option.some Jvm.ClassFile.FieldType.int), Jvm.Cond.code ({ cls := "java/lang/String", name := "coder", desc := "()B" } : Jvm.MethodName) jdk_42_method_152_code (1 : Nat) (Option.some Jvm.ClassFile.FieldType.byte), Jvm.Cond.code ({ cls := "com/example/lane4/lane4/model/JobIdOfPinLaw", name := "digit", desc := "(J)C" } : Jvm.MethodName) method_5_code (2 : Nat) (Option.some Jvm.ClassFile.FieldType.char)]
set_option maxRecDepth 65536 in
theorem codes_eq : words1.filter isCode = codes1 := rfl
theorem w_codes : ∀ c ∈ words1.filter isCode, c.before args0 about1 = true := by
  rw [codes_eq]
  intro c hc
  simp only [codes1, List.mem_cons, List.not_mem_nil, or_false] at hc
  rcases hc with rfl | rfl | rfl | rfl | rfl | rfl | rfl | rfl | rfl | rfl | rfl | rfl | rfl | rfl | rfl | rfl | rfl | rfl | rfl | rfl | rfl | rfl | rfl | rfl | rfl
  · exact w_c0
  · exact w_c1
  · exact w_c2
  · exact w_c3
  · exact w_c4
  · exact w_c5
  · exact w_c6
  · exact w_c7
  · exact w_c8
  · exact w_c9
  · exact w_c10
  · exact w_c11
  · exact w_c12
  · exact w_c13
  · exact w_c14
  · exact w_c15
  · exact w_c16
  · exact w_c17
  · exact w_c18
  · exact w_c19
  · exact w_c20
  · exact w_c21
  · exact w_c22
  · exact w_c23
  · exact w_c24
set_option maxRecDepth 65536 in
theorem w_t1 : (words1.take 24).all (fun c => isCode c || c.before args0 about1) = true := by decide +kernel
set_option maxRecDepth 65536 in
theorem w_t2 : ((words1.drop 24).take 24).all (fun c => isCode c || c.before args0 about1) = true := by decide +kernel
set_option maxRecDepth 65536 in
theorem w_t3 : (((words1.drop 24).drop 24).take 24).all (fun c => isCode c || c.before args0 about1) = true := by decide +kernel
set_option maxRecDepth 65536 in
theorem w_t4 : ((((words1.drop 24).drop 24).drop 24).take 24).all (fun c => isCode c || c.before args0 about1) = true := by decide +kernel
set_option maxRecDepth 65536 in
theorem w_t5 : (((((words1.drop 24).drop 24).drop 24).drop 24).take 24).all (fun c => isCode c || c.before args0 about1) = true := by decide +kernel
set_option maxRecDepth 65536 in
theorem w_t6 : (((((words1.drop 24).drop 24).drop 24).drop 24).drop 24).all (fun c => isCode c || c.before args0 about1) = true := by decide +kernel
theorem w_tables : (allAtoms (Jvm.Cond.code x code maxLocals ret :: tables_1)).before args0 about1 = true := by
  rw [allAtoms_all]
  show words1.all (fun c => c.before args0 about1) = true
  refine all_split ?_ w_codes
  rw [← List.take_append_drop 24 words1, List.all_append, w_t1, ← List.take_append_drop 24 (words1.drop 24), List.all_append, w_t2, ← List.take_append_drop 24 ((words1.drop 24).drop 24), List.all_append, w_t3, ← List.take_append_drop 24 (((words1.drop 24).drop 24).drop 24), List.all_append, w_t4, ← List.take_append_drop 24 ((((words1.drop 24).drop 24).drop 24).drop 24), List.all_append, w_t5, w_t6]
  rfl
set_option maxRecDepth 65536 in
theorem w_rest : rest_1_c.before args0 about1 = true := by decide +kernel
set_option maxRecDepth 65536 in
theorem w_case : (Jvm.Cond.and given_1 narrow_1).before args0 about1 = true := by decide +kernel
set_option maxRecDepth 65536 in
theorem w_consts : constsHeld consts_1 about1 := Jvm.Lit.constsHeldB_iff.mp (by decide +kernel)
theorem w_applies : (headSpec (Jvm.Cond.code x code maxLocals ret :: tables_1) room_1).applies x e0.platform about1 = true :=
  (Spec.applies_iff w_frames).mpr ⟨w_running, w_runnable, w_alone, w_named, w_hears, w_ripe, w_room, w_tables⟩
theorem atStart : AtStart classFile x code maxLocals ret World_1 tables_1 room_1 Calls_1 rest_1 Pre_1 launch0 p0 e0 about1 theMethod args0 below0 :=
  ⟨lists_1, trivial, launch0.admits_env _ _ _, launch0.least_env, fairChoices_fair.cas, fairChoices_fair.clock, w_frames, w_args, w_heap, w_applies, ⟨w_consts, trivial⟩, w_rest, w_case⟩
end start1
theorem witness_1 : WitnessClaimed_1 := ⟨start1.p0, start1.e0, start1.about1, start1.theMethod, start1.args0, start1.below0, start1.atStart⟩
end Jvm.Pilot.@@N@@
