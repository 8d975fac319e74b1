import JvmDerived
import JvmDerived.Pilot.@@N@@Statement
import JvmDerived.Pilot.@@N@@Code
set_option linter.unusedVariables false
set_option linter.unusedSimpArgs false
namespace Jvm.RoadKit
open Sem ClassFile Op Lib Jvm.Stand Jvm.Free Jvm.LawKit
section New
variable {p : Program} {l : Launch} {e : Env} {R : Room} {s : State} {m : MethodId} {args : Array Value} {below : List Frame} {meth : Method} {c : Code} {T : State} {locs : List Loc} {cells slots : Nat}
theorem retI (X : Stand p l e R s m args below meth c T locs cells slots) (hx : p.tables.exec = Jvm.exec) {pc : Nat} {Ls : Array Slot} {z : Int32} {rest : List Value} (hret : meth.sig.returnType = some .int) (hd : decode c.code pc = .ok (.ireturn, 1)) {fs : List Frame}
    (hl : ∀ (f : JFrame) (acts : List Action), f.method = m → f.locked = none → f.entered = [] → (doReturn e (T.setTop f) acts (some (.int z))).1 = T.setFrames fs) : Steps p.tables e below (T.setTop (mkF m pc Ls (.int z :: rest))) (T.setFrames fs) := by
  have hm' : T.vm.method? m = some meth := X.method'
  have hn : narrow .int (.int z) = .int z := rfl
  show Steps p.tables e below (T.setTop { method := m, pc := pc, locals := Ls, stack := _ :: rest, locked := none }) _
  jvm_step X.here [X.here.top, hx, hd, hm', hret, hn]
  first | (intro acts; rw [hl _ acts rfl rfl rfl]) | rw [hl _ _ rfl rfl rfl]
  exact Steps.refl _
/-- from here the walk comes to a good end -/
def Go (p : Program) (e : Env) (below : List Frame) (s : State) (Q : Option Value → Heap → List Loc → Prop) (C S : Nat) (T : State) (f : JFrame) : Prop :=
  ∃ s₂ o, Steps p.tables e below (T.setTop f) s₂ ∧ s₂.status = .running ∧ Ended s₂ below o ∧ ∃ v L, o = .returned v ∧ Q v s₂.heap L ∧ FrameEnd s o s₂ L C S
theorem Go.step {Q : Option Value → Heap → List Loc → Prop} {C S : Nat} {T' : State} {f f' : JFrame} (k : ∀ t, Steps p.tables e below (T'.setTop f') t → Steps p.tables e below (T.setTop f) t) (h : Go p e below s Q C S T' f') : Go p e below s Q C S T f := by
  obtain ⟨s₂, o, h1, h2⟩ := h
  exact ⟨s₂, o, k _ h1, h2⟩
theorem Go.cast {Q : Option Value → Heap → List Loc → Prop} {C S : Nat} {f f' : JFrame} (q : f = f') (h : Go p e below s Q C S T f') : Go p e below s Q C S T f := q ▸ h
theorem Go.fin (X : Stand p l e R s m args below meth c T locs cells slots) {Q : Option Value → Heap → List Loc → Prop} {C S : Nat} {f : JFrame} {v : Option Value} (hv : meth.sig.returnType = none → v = none) (hl : meth.locks = false) (hQ : Q v T.heap locs) (hc : cells ≤ C) (hs : slots ≤ S)
    (k : ∀ fs, (∀ (f : JFrame) (acts : List Action), f.method = m → f.locked = none → f.entered = [] → (doReturn e (T.setTop f) acts v).1 = T.setFrames fs) → Steps p.tables e below (T.setTop f) (T.setFrames fs)) : Go p e below s Q C S T f := by
  obtain ⟨fs, hr, hrun, hended, hW, hsame⟩ := X.leave (v := v) hv hl
  exact ⟨_, _, k fs hr, hrun, hended, v, locs, rfl, hQ, ⟨_, rfl⟩, hW, hsame.mono hc hs⟩
theorem own_lrem (x y : Int64) : x - (x / y) * y = x % y := lrem_mod x y
theorem own_irem (x y : Int32) : x - (x / y) * y = x % y := by
  apply Int32.toInt_inj.mp
  have h1 := Int32.le_toInt (x % y)
  have h2 := Int32.toInt_lt (x % y)
  rw [Int32.toInt_sub, Int32.toInt_mul, Int32.toInt_div, Int.bmod_mul_bmod, Int.sub_bmod_bmod, Int.mul_comm (x.toInt.tdiv y.toInt), ← Int.tmod_def, ← Int32.toInt_mod]
  exact Int.bmod_eq_of_le_mul_two (by omega) (by omega)
theorem own_fin {x : Int32} {n : Nat} (h0 : 0 ≤ x.toInt) (h1 : x.toInt < n) (h2 : n ≤ 2147483648) : ∃ k : Fin n, x = Int32.ofNat k.val := by
  refine ⟨⟨x.toInt.toNat, by omega⟩, Int32.toInt_inj.mp ?_⟩
  have q : (x.toInt.toNat).toInt32.toInt = x.toInt.toNat := len_toInt (by omega)
  show x.toInt = (x.toInt.toNat).toInt32.toInt
  rw [q]; omega
theorem own_i2c {x : Int32} (h0 : 0 ≤ x.toInt) (h1 : x.toInt < 65536) : x.toUInt32.toUInt16.toUInt32.toInt32 = x := Int32.toInt_inj.mp (by have := c_i2c x; omega)
theorem own_rem (x y : Int32) (h0 : 0 ≤ x.toInt) : (x % y).toInt = x.toInt % y.toInt := by rw [Int32.toInt_mod, (tr _ _).1 h0]
theorem own_remL (x y : Int64) (h0 : 0 ≤ x.toInt) : (x % y).toInt = x.toInt % y.toInt := by rw [Int64.toInt_mod, (tr _ _).1 h0]
theorem own_div (x y : Int32) (h0 : 0 ≤ x.toInt) (h1 : 0 < y.toInt) : (x / y).toInt = x.toInt / y.toInt := (c_idiv x y _ rfl (fun q => by rw [q] at h1; exact absurd h1 (by decide))).1 h0
theorem own_add {x y : Int32} (h0 : -2147483648 ≤ x.toInt + y.toInt) (h1 : x.toInt + y.toInt < 2147483648) : (x + y).toInt = x.toInt + y.toInt := by have := c_iadd x y; have := rng32 (x + y); omega
theorem own_sub {x y : Int32} (h0 : -2147483648 ≤ x.toInt - y.toInt) (h1 : x.toInt - y.toInt < 2147483648) : (x - y).toInt = x.toInt - y.toInt := by have := c_isub x y; have := rng32 (x - y); omega
theorem own_mul {x y : Int32} (h0 : -2147483648 ≤ x.toInt * y.toInt) (h1 : x.toInt * y.toInt < 2147483648) : (x * y).toInt = x.toInt * y.toInt := by have := c_imul x y; have := rng32 (x * y); omega
theorem own_nat {j : Int32} (h0 : 0 ≤ j.toInt) : (j.toNatClampNeg : Int) = j.toInt := by simp only [Int32.toNatClampNeg]; omega
section Heaps
variable {Z : State} {h h' : Heap} {a b : Addr} {ty : FieldType} {vs : List Value} {sl : Nat} {v : Value} {ws : List Addr}
/-- an array and all that lies in it -/
def VA (Z : State) (h : Heap) (a : Addr) (ty : FieldType) (vs : List Value) : Prop := ∃ c : Cell, Arr Z h a c ty ∧ c.slots.toList = vs ∧ vs.length < 2 ^ 31
theorem VA.lt (F : VA Z h a ty vs) : a < h.size := by obtain ⟨c, A, -⟩ := F; exact A.lt
theorem VA.len (F : VA Z h a ty vs) : vs.length < 2 ^ 31 := by obtain ⟨c, A, -, r⟩ := F; exact r
theorem VA.ext (F : VA Z h a ty vs) (E : Ext h h') : VA Z h' a ty vs := by obtain ⟨c, A, r⟩ := F; exact ⟨c, A.ext E, r⟩
theorem VA.other (F : VA Z h b ty vs) (W : Wr h h' a sl v) (q : b ≠ a) : VA Z h' b ty vs := by obtain ⟨c, A, r⟩ := F; exact ⟨c, A.other W q, r⟩
theorem VA.keep (F : VA Z h a ty vs) (K : Keep h h' ws) (q : a ∉ ws) : VA Z h' a ty vs := by obtain ⟨c, A, r⟩ := F; exact ⟨c, ⟨K.2.1 a c A.1 q, A.2⟩, r⟩
theorem VA.new {k : ClassId} {n : Int32} (A : Arr Z h a (newA k ty n) ty) (q : ¬ n < 0) : VA Z h a ty (List.replicate n.toNatClampNeg (defaultValue ty)) :=
  ⟨_, A, by simp [newA], by rw [List.length_replicate]; exact (back32 q).2⟩
theorem VA.inb (F : VA Z h a ty vs) {j : Int32} (h0 : 0 ≤ j.toInt) (h1 : j.toInt < vs.length) : ∃ c : Cell, Arr Z h a c ty ∧ ¬ (j < 0 ∨ c.slots.size ≤ j.toNatClampNeg) ∧ c.slots[j.toNatClampNeg]? = vs[j.toNatClampNeg]? ∧ ∀ h' v, Wr h h' a j.toNatClampNeg v → VA Z h' a ty (vs.set j.toNatClampNeg v) := by
  obtain ⟨c, A, rfl, r⟩ := F
  have hj := own_nat h0
  rw [Array.length_toList] at h1
  refine ⟨c, A, ?_, (Array.getElem?_toList ..).symm, fun h' v W => ⟨_, A.same W, ?_, ?_⟩⟩
  · rw [Int32.lt_iff_toInt_lt]
    have k0 : (0 : Int32).toInt = 0 := rfl
    omega
  · simp [Cell.setSlot]
  · rw [List.length_set]; exact r
theorem VA.ne_exa {C : String} {a0 : Array Value} {k : Nat} (F : VA Z h b ty vs) (G : Exa Z h a C) (wi : (Cond.instantiable C k).before a0 Z = true) : a ≠ b := by obtain ⟨c, A, -⟩ := F; exact ne_arr G wi A
end Heaps
theorem own_psel {y : MethodName} {n : Nat} (wi : (Cond.instantiable y.cls n).before args s = true) (hpriv : s.PrivateAt y) (hinst : (Cond.instanceMethod y).before args s = true) (hy : y.cls ≠ "java/lang/invoke/MethodHandle" ∧ y.cls ≠ "java/lang/invoke/VarHandle") : (Cond.selects y.cls y y).before args s = true := by
  obtain ⟨c, k, h1, h2, -, h4, -, -⟩ := Cond.instantiable_spec wi
  exact selects_self_of_private h1 h2 (by cases q : k.isInterface; rfl; rw [q] at h4; simp at h4) hpriv hinst hy
section Steps2
variable {Z : State} {h : Heap} {a : Addr} {a0 : Array Value}
theorem ldI (X : Stand p l e R s m args below meth c T locs cells slots) (hx : p.tables.exec = Jvm.exec) (hZ : Z.Warmed39 s.vm) (eT : T.heap = h) {vs : List Int32} (F : VA Z h a .int (vs.map Value.int)) {j : Int32} (h0 : 0 ≤ j.toInt) (h1 : j.toInt < vs.length)
    {g : JFrame} (hg : g.method = m) {rest : List Value} (hs : g.stack = .int j :: .ref a :: rest) (hd : decode c.code g.pc = .ok (.iaload, 1)) (target : State)
    (k : Steps p.tables e below (T.setTop { g with pc := g.pc + 1, stack := .int (vs.getD j.toNatClampNeg 0) :: rest }) target) : Steps p.tables e below (T.setTop g) target := by
  obtain ⟨cl, A, q1, q2, -⟩ := F.inb h0 (by rw [List.length_map]; exact h1)
  have hj := own_nat h0
  refine X.iaload hx (j := j) (v := .int (vs.getD j.toNatClampNeg 0)) (by rw [eT]; exact A.1) (State.isArrayOf_alike hZ.alike A.2.1) A.2.2 q1 ?_ hg hs hd target k
  rw [q2, List.getElem?_map, List.getD_eq_getElem?_getD, List.getElem?_eq_getElem (by omega)]; rfl
theorem ldJ (X : Stand p l e R s m args below meth c T locs cells slots) (hx : p.tables.exec = Jvm.exec) (hZ : Z.Warmed39 s.vm) (eT : T.heap = h) {vs : List Int64} (F : VA Z h a .long (vs.map Value.long)) {j : Int32} (h0 : 0 ≤ j.toInt) (h1 : j.toInt < vs.length)
    {g : JFrame} (hg : g.method = m) {rest : List Value} (hs : g.stack = .int j :: .ref a :: rest) (hd : decode c.code g.pc = .ok (.laload, 1)) (target : State)
    (k : Steps p.tables e below (T.setTop { g with pc := g.pc + 1, stack := .long (vs.getD j.toNatClampNeg 0) :: rest }) target) : Steps p.tables e below (T.setTop g) target := by
  obtain ⟨cl, A, q1, q2, -⟩ := F.inb h0 (by rw [List.length_map]; exact h1)
  have hj := own_nat h0
  refine X.laload hx (j := j) (v := .long (vs.getD j.toNatClampNeg 0)) (by rw [eT]; exact A.1) (State.isArrayOf_alike hZ.alike A.2.1) A.2.2 q1 ?_ hg hs hd target k
  rw [q2, List.getElem?_map, List.getD_eq_getElem?_getD, List.getElem?_eq_getElem (by omega)]; rfl
theorem ldB (X : Stand p l e R s m args below meth c T locs cells slots) (hx : p.tables.exec = Jvm.exec) (hZ : Z.Warmed39 s.vm) (eT : T.heap = h) {vs : List Int32} (F : VA Z h a .byte (vs.map Value.int)) {j : Int32} (h0 : 0 ≤ j.toInt) (h1 : j.toInt < vs.length)
    {g : JFrame} (hg : g.method = m) {rest : List Value} (hs : g.stack = .int j :: .ref a :: rest) (hd : decode c.code g.pc = .ok (.baload, 1)) (target : State)
    (k : Steps p.tables e below (T.setTop { g with pc := g.pc + 1, stack := .int (vs.getD j.toNatClampNeg 0) :: rest }) target) : Steps p.tables e below (T.setTop g) target := by
  obtain ⟨cl, A, q1, q2, -⟩ := F.inb h0 (by rw [List.length_map]; exact h1)
  have hj := own_nat h0
  refine X.baloadBytes hx (j := j) (v := .int (vs.getD j.toNatClampNeg 0)) (by rw [eT]; exact A.1) (State.isArrayOf_alike hZ.alike A.2.1) A.2.2 q1 ?_ hg hs hd target k
  rw [q2, List.getElem?_map, List.getD_eq_getElem?_getD, List.getElem?_eq_getElem (by omega)]; rfl
theorem ldR (X : Stand p l e R s m args below meth c T locs cells slots) (hx : p.tables.exec = Jvm.exec) (hZ : Z.Warmed39 s.vm) (eT : T.heap = h) {ty : FieldType} {vs : List Addr} (F : VA Z h a ty (vs.map Value.ref)) (hty : ty.isReference = true) {j : Int32} (h0 : 0 ≤ j.toInt) (h1 : j.toInt < vs.length)
    {g : JFrame} (hg : g.method = m) {rest : List Value} (hs : g.stack = .int j :: .ref a :: rest) (hd : decode c.code g.pc = .ok (.aaload, 1)) (target : State)
    (k : Steps p.tables e below (T.setTop { g with pc := g.pc + 1, stack := .ref (vs.getD j.toNatClampNeg 0) :: rest }) target) : Steps p.tables e below (T.setTop g) target := by
  obtain ⟨cl, A, q1, q2, -⟩ := F.inb h0 (by rw [List.length_map]; exact h1)
  have hj := own_nat h0
  refine X.aaload hx (j := j) (v := .ref (vs.getD j.toNatClampNeg 0)) (by rw [eT]; exact A.1) (State.isArrayOf_alike hZ.alike A.2.1) hty A.2.2 q1 ?_ hg hs hd target k
  rw [q2, List.getElem?_map, List.getD_eq_getElem?_getD, List.getElem?_eq_getElem (by omega)]; rfl
theorem lenA (X : Stand p l e R s m args below meth c T locs cells slots) (hx : p.tables.exec = Jvm.exec) (hZ : Z.Warmed39 s.vm) (eT : T.heap = h) {ty : FieldType} {vs : List Value} (F : VA Z h a ty vs) {n : Int32} (hn : (vs.length : Int) = n.toInt)
    {g : JFrame} (hg : g.method = m) {rest : List Value} (hs : g.stack = .ref a :: rest) (hd : decode c.code g.pc = .ok (.arraylength, 1)) (target : State)
    (k : Steps p.tables e below (T.setTop { g with pc := g.pc + 1, stack := .int n :: rest }) target) : Steps p.tables e below (T.setTop g) target := by
  obtain ⟨cl, A, rfl, r⟩ := F
  refine X.arraylength hx (by rw [eT]; exact A.1) (State.isArrayOf_alike hZ.alike A.2.1) hg hs hd target ?_
  have e : cl.slots.size.toInt32 = n := Int32.toInt_inj.mp (by rw [len_toInt (by rw [← Array.length_toList]; exact r), ← hn, Array.length_toList])
  rw [e]; exact k
theorem putI (X : Stand p l e R s m args below meth c T locs cells slots) (hx : p.tables.exec = Jvm.exec) (hZ : Z.Warmed39 s.vm) (eT : T.heap = h) {vs : List Int32} (F : VA Z h a .int (vs.map Value.int)) {j x : Int32} (h0 : 0 ≤ j.toInt) (h1 : j.toInt < vs.length)
    {g : JFrame} (hg : g.method = m) {rest : List Value} (hs : g.stack = .int x :: .int j :: .ref a :: rest) (hd : decode c.code g.pc = .ok (.iastore, 1)) :
    ∃ T' h', Stand p l e R s m args below meth c T' (locs ++ [⟨a, j.toNatClampNeg⟩]) cells slots ∧ T'.heap = h' ∧ Wr h h' a j.toNatClampNeg (.int x) ∧ VA Z h' a .int ((vs.set j.toNatClampNeg x).map Value.int) ∧ ∀ target, Steps p.tables e below (T'.setTop { g with pc := g.pc + 1, stack := rest }) target → Steps p.tables e below (T.setTop g) target := by
  obtain ⟨cl, A, q1, q2, q3⟩ := F.inb h0 (by rw [List.length_map]; exact h1)
  obtain ⟨T', h', X', e', W, st⟩ := stI X hx hZ eT A q1 hg hs hd
  exact ⟨T', h', X', e', W, by rw [List.map_set]; exact q3 _ _ W, st⟩
theorem putJ (X : Stand p l e R s m args below meth c T locs cells slots) (hx : p.tables.exec = Jvm.exec) (hZ : Z.Warmed39 s.vm) (eT : T.heap = h) {vs : List Int64} (F : VA Z h a .long (vs.map Value.long)) {j : Int32} {x : Int64} (h0 : 0 ≤ j.toInt) (h1 : j.toInt < vs.length)
    {g : JFrame} (hg : g.method = m) {rest : List Value} (hs : g.stack = .long x :: .int j :: .ref a :: rest) (hd : decode c.code g.pc = .ok (.lastore, 1)) :
    ∃ T' h', Stand p l e R s m args below meth c T' (locs ++ [⟨a, j.toNatClampNeg⟩]) cells slots ∧ T'.heap = h' ∧ Wr h h' a j.toNatClampNeg (.long x) ∧ VA Z h' a .long ((vs.set j.toNatClampNeg x).map Value.long) ∧ ∀ target, Steps p.tables e below (T'.setTop { g with pc := g.pc + 1, stack := rest }) target → Steps p.tables e below (T.setTop g) target := by
  obtain ⟨cl, A, q1, q2, q3⟩ := F.inb h0 (by rw [List.length_map]; exact h1)
  obtain ⟨T', h', X', e', W, st⟩ := stJ X hx hZ eT A q1 hg hs hd
  exact ⟨T', h', X', e', W, by rw [List.map_set]; exact q3 _ _ W, st⟩
theorem putB (X : Stand p l e R s m args below meth c T locs cells slots) (hx : p.tables.exec = Jvm.exec) (hZ : Z.Warmed39 s.vm) (eT : T.heap = h) {vs : List Int32} (F : VA Z h a .byte (vs.map Value.int)) {j x : Int32} (h0 : 0 ≤ j.toInt) (h1 : j.toInt < vs.length)
    {g : JFrame} (hg : g.method = m) {rest : List Value} (hs : g.stack = .int x :: .int j :: .ref a :: rest) (hd : decode c.code g.pc = .ok (.bastore, 1)) :
    ∃ T' h', Stand p l e R s m args below meth c T' (locs ++ [⟨a, j.toNatClampNeg⟩]) cells slots ∧ T'.heap = h' ∧ Wr h h' a j.toNatClampNeg (.int (nar .byte x)) ∧ VA Z h' a .byte ((vs.set j.toNatClampNeg (nar .byte x)).map Value.int) ∧ ∀ target, Steps p.tables e below (T'.setTop { g with pc := g.pc + 1, stack := rest }) target → Steps p.tables e below (T.setTop g) target := by
  obtain ⟨cl, A, q1, q2, q3⟩ := F.inb h0 (by rw [List.length_map]; exact h1)
  obtain ⟨T', h', X', e', W, st⟩ := stB X hx hZ eT A q1 hg hs hd
  exact ⟨T', h', X', e', W, by rw [List.map_set]; exact q3 _ _ W, st⟩
theorem newI (X : Stand p l e R s m args below meth c T locs cells slots) (hx : p.tables.exec = Jvm.exec) (hZ : Z.Warmed39 s.vm) (w : (Cond.arrayClass .int).before a0 Z = true) (eT : T.heap = h) {g : JFrame} (hg : g.method = m) (hd : decode c.code g.pc = .ok (.newarray .int, 2)) {n : Int32} {rest : List Value} (hs : g.stack = .int n :: rest)
    (hn : 0 ≤ n.toInt) {cap : Nat} (hcap : n.toInt ≤ cap) (hb : cap * 8 ≤ 536870912) (hc : cells + 1 ≤ R.cells) (hl : slots + cap ≤ R.slots) :
    ∃ T' h', Stand p l e R s m args below meth c T' locs (cells + 1) (slots + cap) ∧ T'.heap = h' ∧ Ext h h' ∧ VA Z h' h.size .int ((List.replicate n.toInt.toNat (0 : Int32)).map Value.int) ∧
      ∀ target, Steps p.tables e below (T'.setTop { g with pc := g.pc + 2, stack := .ref h.size :: rest }) target → Steps p.tables e below (T.setTop g) target := by
  have q : ¬ n < 0 := by rw [Int32.lt_iff_toInt_lt]; have k0 : (0 : Int32).toInt = 0 := rfl; omega
  have en : n.toNatClampNeg = n.toInt.toNat := rfl
  obtain ⟨T', h', cA, X', e', E, A, st⟩ := newP X hx hZ (aty := .int) w eT hg hd hs q (cap := cap) (by rw [en]; omega) hb hc hl
  have V1 : VA Z h' h.size .int (List.replicate n.toNatClampNeg (Value.int (0 : Int32))) := VA.new A q
  rw [en] at V1
  refine ⟨T', h', X', e', E, ?_, st⟩
  rw [List.map_replicate]
  exact V1
theorem newJ (X : Stand p l e R s m args below meth c T locs cells slots) (hx : p.tables.exec = Jvm.exec) (hZ : Z.Warmed39 s.vm) (w : (Cond.arrayClass .long).before a0 Z = true) (eT : T.heap = h) {g : JFrame} (hg : g.method = m) (hd : decode c.code g.pc = .ok (.newarray .long, 2)) {n : Int32} {rest : List Value} (hs : g.stack = .int n :: rest)
    (hn : 0 ≤ n.toInt) {cap : Nat} (hcap : n.toInt ≤ cap) (hb : cap * 8 ≤ 536870912) (hc : cells + 1 ≤ R.cells) (hl : slots + cap ≤ R.slots) :
    ∃ T' h', Stand p l e R s m args below meth c T' locs (cells + 1) (slots + cap) ∧ T'.heap = h' ∧ Ext h h' ∧ VA Z h' h.size .long ((List.replicate n.toInt.toNat (0 : Int64)).map Value.long) ∧
      ∀ target, Steps p.tables e below (T'.setTop { g with pc := g.pc + 2, stack := .ref h.size :: rest }) target → Steps p.tables e below (T.setTop g) target := by
  have q : ¬ n < 0 := by rw [Int32.lt_iff_toInt_lt]; have k0 : (0 : Int32).toInt = 0 := rfl; omega
  have en : n.toNatClampNeg = n.toInt.toNat := rfl
  obtain ⟨T', h', cA, X', e', E, A, st⟩ := newP X hx hZ (aty := .long) w eT hg hd hs q (cap := cap) (by rw [en]; omega) hb hc hl
  have V1 : VA Z h' h.size .long (List.replicate n.toNatClampNeg (Value.long (0 : Int64))) := VA.new A q
  rw [en] at V1
  refine ⟨T', h', X', e', E, ?_, st⟩
  rw [List.map_replicate]
  exact V1
theorem newB (X : Stand p l e R s m args below meth c T locs cells slots) (hx : p.tables.exec = Jvm.exec) (hZ : Z.Warmed39 s.vm) (w : (Cond.arrayClass .byte).before a0 Z = true) (eT : T.heap = h) {g : JFrame} (hg : g.method = m) (hd : decode c.code g.pc = .ok (.newarray .byte, 2)) {n : Int32} {rest : List Value} (hs : g.stack = .int n :: rest)
    (hn : 0 ≤ n.toInt) {cap : Nat} (hcap : n.toInt ≤ cap) (hb : cap * 8 ≤ 536870912) (hc : cells + 1 ≤ R.cells) (hl : slots + cap ≤ R.slots) :
    ∃ T' h', Stand p l e R s m args below meth c T' locs (cells + 1) (slots + cap) ∧ T'.heap = h' ∧ Ext h h' ∧ VA Z h' h.size .byte ((List.replicate n.toInt.toNat (0 : Int32)).map Value.int) ∧
      ∀ target, Steps p.tables e below (T'.setTop { g with pc := g.pc + 2, stack := .ref h.size :: rest }) target → Steps p.tables e below (T.setTop g) target := by
  have q : ¬ n < 0 := by rw [Int32.lt_iff_toInt_lt]; have k0 : (0 : Int32).toInt = 0 := rfl; omega
  have en : n.toNatClampNeg = n.toInt.toNat := rfl
  obtain ⟨T', h', cA, X', e', E, A, st⟩ := newP X hx hZ (aty := .byte) w eT hg hd hs q (cap := cap) (by rw [en]; omega) hb hc hl
  have V1 : VA Z h' h.size .byte (List.replicate n.toNatClampNeg (Value.int (0 : Int32))) := VA.new A q
  rw [en] at V1
  refine ⟨T', h', X', e', E, ?_, st⟩
  rw [List.map_replicate]
  exact V1
theorem ldZ (X : Stand p l e R s m args below meth c T locs cells slots) (hx : p.tables.exec = Jvm.exec) (hZ : Z.Warmed39 s.vm) (eT : T.heap = h) {vs : List Int32} (F : VA Z h a .boolean (vs.map Value.int)) {j : Int32} (h0 : 0 ≤ j.toInt) (h1 : j.toInt < vs.length)
    {g : JFrame} (hg : g.method = m) {rest : List Value} (hs : g.stack = .int j :: .ref a :: rest) (hd : decode c.code g.pc = .ok (.baload, 1)) (target : State)
    (k : Steps p.tables e below (T.setTop { g with pc := g.pc + 1, stack := .int (vs.getD j.toNatClampNeg 0) :: rest }) target) : Steps p.tables e below (T.setTop g) target := by
  obtain ⟨cl, A, q1, q2, -⟩ := F.inb h0 (by rw [List.length_map]; exact h1)
  have hj := own_nat h0
  refine X.baloadBooleans hx (j := j) (v := .int (vs.getD j.toNatClampNeg 0)) (by rw [eT]; exact A.1) (State.isArrayOf_alike hZ.alike A.2.1) A.2.2 q1 ?_ hg hs hd target k
  rw [q2, List.getElem?_map, List.getD_eq_getElem?_getD, List.getElem?_eq_getElem (by omega)]; rfl
theorem putZ (X : Stand p l e R s m args below meth c T locs cells slots) (hx : p.tables.exec = Jvm.exec) (hZ : Z.Warmed39 s.vm) (eT : T.heap = h) {vs : List Int32} (F : VA Z h a .boolean (vs.map Value.int)) {j x : Int32} (h0 : 0 ≤ j.toInt) (h1 : j.toInt < vs.length)
    {g : JFrame} (hg : g.method = m) {rest : List Value} (hs : g.stack = .int x :: .int j :: .ref a :: rest) (hd : decode c.code g.pc = .ok (.bastore, 1)) :
    ∃ T' h', Stand p l e R s m args below meth c T' (locs ++ [⟨a, j.toNatClampNeg⟩]) cells slots ∧ T'.heap = h' ∧ Wr h h' a j.toNatClampNeg (.int (nar .boolean x)) ∧ VA Z h' a .boolean ((vs.set j.toNatClampNeg (nar .boolean x)).map Value.int) ∧ ∀ target, Steps p.tables e below (T'.setTop { g with pc := g.pc + 1, stack := rest }) target → Steps p.tables e below (T.setTop g) target := by
  obtain ⟨cl, A, q1, q2, q3⟩ := F.inb h0 (by rw [List.length_map]; exact h1)
  obtain ⟨T', h', X', e', W, st⟩ := stZ X hx hZ eT A q1 hg hs hd
  exact ⟨T', h', X', e', W, by rw [List.map_set]; exact q3 _ _ W, st⟩
theorem newZ (X : Stand p l e R s m args below meth c T locs cells slots) (hx : p.tables.exec = Jvm.exec) (hZ : Z.Warmed39 s.vm) (w : (Cond.arrayClass .boolean).before a0 Z = true) (eT : T.heap = h) {g : JFrame} (hg : g.method = m) (hd : decode c.code g.pc = .ok (.newarray .boolean, 2)) {n : Int32} {rest : List Value} (hs : g.stack = .int n :: rest)
    (hn : 0 ≤ n.toInt) {cap : Nat} (hcap : n.toInt ≤ cap) (hb : cap * 8 ≤ 536870912) (hc : cells + 1 ≤ R.cells) (hl : slots + cap ≤ R.slots) :
    ∃ T' h', Stand p l e R s m args below meth c T' locs (cells + 1) (slots + cap) ∧ T'.heap = h' ∧ Ext h h' ∧ VA Z h' h.size .boolean ((List.replicate n.toInt.toNat (0 : Int32)).map Value.int) ∧
      ∀ target, Steps p.tables e below (T'.setTop { g with pc := g.pc + 2, stack := .ref h.size :: rest }) target → Steps p.tables e below (T.setTop g) target := by
  have q : ¬ n < 0 := by rw [Int32.lt_iff_toInt_lt]; have k0 : (0 : Int32).toInt = 0 := rfl; omega
  have en : n.toNatClampNeg = n.toInt.toNat := rfl
  obtain ⟨T', h', cA, X', e', E, A, st⟩ := newP X hx hZ (aty := .boolean) w eT hg hd hs q (cap := cap) (by rw [en]; omega) hb hc hl
  have V1 : VA Z h' h.size .boolean (List.replicate n.toNatClampNeg (Value.int (0 : Int32))) := VA.new A q
  rw [en] at V1
  refine ⟨T', h', X', e', E, ?_, st⟩
  rw [List.map_replicate]
  exact V1
end Steps2
end New
end Jvm.RoadKit
namespace Jvm.Pilot.@@N@@
open Jvm Jvm.ClassFile Sem Op Lib Jvm.Free Jvm.Stand Jvm.LawKit Jvm.RoadKit Bundle Jvm.Pilot.@@N@@.Jvm.D
theorem own_arv {Z : State} {h : Heap} {a : Addr} {l : List Int32} (F : VA Z h a .byte (l.map Value.int)) (hf : ∀ x ∈ l, fits .byte (.int x) = true) : ∃ k, Arv Z h a k .byte l.length.toInt32 (l.map Value.int) (.int 0) ∧ l.length.toInt32.toNatClampNeg = l.length := by
  obtain ⟨c, A, e, r⟩ := F
  rw [List.length_map] at r
  have hs : c.slots.size = l.length := by rw [← Array.length_toList, e, List.length_map]
  have hn : l.length.toInt32.toInt = l.length := len_toInt r
  have hc : l.length.toInt32.toNatClampNeg = l.length := by simp only [Int32.toNatClampNeg, hn]; omega
  refine ⟨c.cls, ⟨c, A, rfl, by rw [hs, hc], ?_, ?_, ?_⟩, hc⟩
  · rw [Int32.lt_iff_toInt_lt, hn]
    have k0 : (0 : Int32).toInt = 0 := rfl
    omega
  · intro k hk
    have q : c.slots[k]? = (l.map Value.int)[k]? := by rw [← e, Array.getElem?_toList]
    rw [q, List.getD_eq_getElem?_getD, List.getElem?_eq_getElem (by rw [List.length_map]; omega)]; rfl
  · intro i hi
    rw [List.getD_eq_getElem?_getD, List.getElem?_eq_getElem (by rw [List.length_map]; omega), Option.getD_some, List.getElem_map]
    exact hf _ (List.getElem_mem _)
theorem own_va {Z : State} {h : Heap} {b : Addr} {k : ClassId} {ty : FieldType} {z : Int32} {vs : List Value} {d : Value} (F : Arv Z h b k ty z vs d) (hl : vs.length = z.toNatClampNeg) : VA Z h b ty vs := by
  obtain ⟨c, A, -, S, q, H, -⟩ := F
  refine ⟨c, A, ?_, by rw [hl]; exact (back32 q).2⟩
  apply List.ext_getElem?
  intro i
  by_cases hi : i < c.slots.size
  · rw [Array.getElem?_toList, H i hi, List.getD_eq_getElem?_getD, List.getElem?_eq_getElem (by omega)]; rfl
  · rw [List.getElem?_eq_none (by rw [Array.length_toList]; omega), List.getElem?_eq_none (by omega)]
theorem own_us (l : List Int32) (s n : Nat) (h : s + n ≤ l.length) : (List.range n).map (fun i => (l.map Value.int).getD (s + i) (.int 0)) = ((l.drop s).take n).map Value.int := by
  apply List.ext_getElem
  · simp; omega
  · intro i h1 h2
    simp only [List.length_map, List.length_range] at h1
    simp only [List.getElem_map, List.getElem_range, List.getElem_take, List.getElem_drop]
    rw [List.getD_eq_getElem?_getD, List.getElem?_eq_getElem (by rw [List.length_map]; omega), Option.getD_some, List.getElem_map]
theorem cpB {p : Program} {l : Launch} {e : Env} {R : Room} {s : State} {m : MethodId} {args : Array Value} {below : List Frame} {meth : Method} {c : Code} {T : State} {locs : List Loc} {cells slots : Nat} {Z : State} {h : Heap} {a b : Addr}
    (X : Stand p l e R s m args below meth c T locs cells slots) (hx : p.tables.exec = Jvm.exec) (hZ : Z.Warmed39 s.vm) {a0 : Array Value} {own : String} {index : Nat} (hown : s.vm.findClass own = some m.cls)
    (w1 : (Cond.methodLink own index Jvm.Stand.acN).before a0 Z = true) (w2 : (Cond.native Jvm.Stand.acN).before a0 Z = true) (w3 : (Cond.static Jvm.Stand.acN).before a0 Z = true) (w4 : (Cond.initialized "java/lang/System").before a0 Z = true) (eT : T.heap = h)
    {l1 l2 : List Int32} (A : VA Z h a .byte (l1.map Value.int)) (B : VA Z h b .byte (l2.map Value.int)) (hf : (∀ x ∈ l1, fits .byte (.int x) = true) ∧ (∀ x ∈ l2, fits .byte (.int x) = true)) {sp dp nn : Int32}
    (hb : 0 ≤ sp.toInt ∧ 0 ≤ dp.toInt ∧ 0 ≤ nn.toInt ∧ sp.toInt + nn.toInt ≤ l1.length ∧ dp.toInt + nn.toInt ≤ l2.length) {n0 : Nat} (N : Fr n0 locs) (ge : n0 ≤ b)
    {g : JFrame} (hg : g.method = m) (hsize : g.locals.size = c.maxLocals) {rest : List Value} (hs : g.stack = .int nn :: .int dp :: .ref b :: .int sp :: .ref a :: rest) (hd : decode c.code g.pc = .ok (.invokestatic index, 3))
    (hfr : 1 ≤ R.frames) {W : Nat} (hW : 2 * g.monitorRoom + (rest.map fun v => v.category).sum ≤ W) (hlo : W + (nativeFrameWords "java/lang/System" "arraycopy" 5 + 11) ≤ R.locals) :
    ∃ T' h' L, Stand p l e R s m args below meth c T' L cells slots ∧ T'.heap = h' ∧ Fr n0 L ∧ Keep h h' [b] ∧ VA Z h' b .byte ((l2.take dp.toNatClampNeg ++ (l1.drop sp.toNatClampNeg).take nn.toNatClampNeg ++ l2.drop (dp.toNatClampNeg + nn.toNatClampNeg)).map Value.int) ∧
      ∀ target, Steps p.tables e below (T'.setTop { g with pc := g.pc + 3, stack := rest }) target → Steps p.tables e below (T.setTop g) target := by
  obtain ⟨k1, A1, c1⟩ := own_arv A hf.1
  obtain ⟨k2, B1, c2⟩ := own_arv B hf.2
  obtain ⟨b1, b2, b3, b4, b5⟩ := hb
  have n1 := own_nat b1
  have n2 := own_nat b2
  have n3 := own_nat b3
  have k0 : (0 : Int32).toInt = 0 := rfl
  obtain ⟨T', h', L, X', e', N', K', V', st⟩ := cpA X hx hZ hown w1 w2 w3 w4 eT A1 B1 (Or.inl ⟨rfl, rfl⟩) (sp := sp) (dp := dp) (nn := nn) (by rw [Int32.lt_iff_toInt_lt]; omega) (by rw [Int32.lt_iff_toInt_lt]; omega) (by rw [Int32.lt_iff_toInt_lt]; omega) (by rw [c1]; omega) (by rw [c2]; omega) rfl (by rw [List.length_map]; omega) N ge hg hsize hs hd hfr hW hlo
  refine ⟨T', h', L, X', e', N', K', ?_, st⟩
  rw [own_us l1 _ _ (by omega)] at V'
  have V2 := own_va V' (by rw [c2]; simp only [List.length_append, List.length_take, List.length_drop, List.length_map]; omega)
  simpa only [List.map_append, List.map_take, List.map_drop] using V2

theorem own_il {k n : Int32} {l : List Int32} (h0 : 0 ≤ k.toInt) (h : k < n) (hl : (l.length : Int) = n.toInt) : 0 ≤ k.toInt ∧ k.toInt < (l.length : Int) := ⟨h0, by rw [hl]; exact Int32.lt_iff_toInt_lt.mp h⟩
theorem own_rep {n : Int32} (h : 0 ≤ n.toInt ∧ n.toInt ≤ 3) : ((List.replicate n.toInt.toNat (0 : Int32)).length : Int) = n.toInt := by rw [List.length_replicate]; omega
theorem own_st {n v : Int32} {l : List Int32} {i : Nat} (hl : (l.length : Int) = n.toInt) : ((l.set i v).length : Int) = n.toInt := by rw [List.length_set]; exact hl
theorem d1_0 : decode method_3_code 0 = .ok (.iload_n 0, 1) := by decide +kernel
theorem d1_1 : decode method_3_code 1 = .ok (.newarray .byte, 2) := by decide +kernel
theorem d1_3 : decode method_3_code 3 = .ok (.astore_n 2, 1) := by decide +kernel
theorem d1_4 : decode method_3_code 4 = .ok (.iload_n 0, 1) := by decide +kernel
theorem d1_5 : decode method_3_code 5 = .ok (.ifCond .le 8, 3) := by decide +kernel
theorem d1_8 : decode method_3_code 8 = .ok (.aload_n 2, 1) := by decide +kernel
theorem d1_9 : decode method_3_code 9 = .ok (.iconst 0, 1) := by decide +kernel
theorem d1_10 : decode method_3_code 10 = .ok (.iload_n 1, 1) := by decide +kernel
theorem d1_11 : decode method_3_code 11 = .ok (.i2b, 1) := by decide +kernel
theorem d1_12 : decode method_3_code 12 = .ok (.bastore, 1) := by decide +kernel
theorem d1_13 : decode method_3_code 13 = .ok (.iload_n 0, 1) := by decide +kernel
theorem d1_14 : decode method_3_code 14 = .ok (.iconst 1, 1) := by decide +kernel
theorem d1_15 : decode method_3_code 15 = .ok (.if_icmp .le 11, 3) := by decide +kernel
theorem d1_18 : decode method_3_code 18 = .ok (.aload_n 2, 1) := by decide +kernel
theorem d1_19 : decode method_3_code 19 = .ok (.iconst 1, 1) := by decide +kernel
theorem d1_20 : decode method_3_code 20 = .ok (.iload_n 1, 1) := by decide +kernel
theorem d1_21 : decode method_3_code 21 = .ok (.bipush 8, 2) := by decide +kernel
theorem d1_23 : decode method_3_code 23 = .ok (.iushr, 1) := by decide +kernel
theorem d1_24 : decode method_3_code 24 = .ok (.i2b, 1) := by decide +kernel
theorem d1_25 : decode method_3_code 25 = .ok (.bastore, 1) := by decide +kernel
theorem d1_26 : decode method_3_code 26 = .ok (.iload_n 0, 1) := by decide +kernel
theorem d1_27 : decode method_3_code 27 = .ok (.iconst 2, 1) := by decide +kernel
theorem d1_28 : decode method_3_code 28 = .ok (.if_icmp .le 11, 3) := by decide +kernel
theorem d1_31 : decode method_3_code 31 = .ok (.aload_n 2, 1) := by decide +kernel
theorem d1_32 : decode method_3_code 32 = .ok (.iconst 2, 1) := by decide +kernel
theorem d1_33 : decode method_3_code 33 = .ok (.iload_n 1, 1) := by decide +kernel
theorem d1_34 : decode method_3_code 34 = .ok (.bipush 16, 2) := by decide +kernel
theorem d1_36 : decode method_3_code 36 = .ok (.iushr, 1) := by decide +kernel
theorem d1_37 : decode method_3_code 37 = .ok (.i2b, 1) := by decide +kernel
theorem d1_38 : decode method_3_code 38 = .ok (.bastore, 1) := by decide +kernel
theorem d1_39 : decode method_3_code 39 = .ok (.aload_n 2, 1) := by decide +kernel
theorem d1_40 : decode method_3_code 40 = .ok (.areturn, 1) := by decide +kernel
theorem pn_0 : plainName "com/example/lane4/lane4/store/SharedFieldsWaitingEntryPinLaw" = true := by first | (simp [plainName, overriddenIn]; done) | decide +kernel
theorem ef_makF (m : MethodId) (x0 : Int32) (x1 : Int32) : entryFrame m #[(.int x0), (.int x1)] 3 = mkF m 0 #[.val (.int x0), .val (.int x1), .unset] [] := by first | (simp [entryFrame, mkF, argsToLocals, Value.category]; done) | rfl
def makF_39  (y0 : List Int32) : List Int32 := y0
def makF_26 (p1 : Int32) (p2 : Int32) (y0 : List Int32) : List Int32 := (if (2 : Int32) < p1 then (makF_39  (y0.set 2 (nar .byte (((p2.toUInt32 >>> ((16 : Int32) &&& 31).toUInt32).toInt32).toInt8.toInt32)))) else (makF_39  y0))
def makF_13 (p1 : Int32) (p2 : Int32) (y0 : List Int32) : List Int32 := (if (1 : Int32) < p1 then (makF_26 p1 p2 (y0.set 1 (nar .byte (((p2.toUInt32 >>> ((8 : Int32) &&& 31).toUInt32).toInt32).toInt8.toInt32)))) else (makF_26 p1 p2 y0))
def makF (p1 : Int32) (p2 : Int32) : List Int32 := (if (0 : Int32) < p1 then (makF_13 p1 p2 ((List.replicate p1.toInt.toNat (0 : Int32)).set 0 (nar .byte (p2.toInt8.toInt32)))) else (makF_13 p1 p2 (List.replicate p1.toInt.toNat (0 : Int32))))
def QmakF (Z : State) (p1 : Int32) (p2 : Int32)  (RES : List Int32) (h0 : Heap) (n0 : Nat) (v : Option Value) (h : Heap) (L : List Loc) : Prop := ∃ b : Addr, v = some (.ref b) ∧ Fr n0 L ∧ Keep h0 h [] ∧ h0.size ≤ b ∧ VA Z h b .byte (RES.map Value.int)
set_option maxRecDepth 65536 in
set_option maxHeartbeats 40000000 in
theorem rm_makF (l : Launch) (Z : State) (a0 : Array Value) (hw : ∀ d ∈ tables_1, d.before a0 Z = true) (ws : List Jvm.Cond) (p1 : Int32) (p2 : Int32)  (h0 : Heap) (n0 : Nat) (Z0 : n0 ≤ h0.size) (hlen : 0 ≤ p1.toInt ∧ p1.toInt ≤ 3) :
    MetFree l (⟨"com/example/lane4/lane4/store/SharedFieldsWaitingEntryPinLaw", "make", "(II)[B"⟩ : MethodName) (head1 (Jvm.Cond.code (⟨"com/example/lane4/lane4/store/SharedFieldsWaitingEntryPinLaw", "make", "(II)[B"⟩ : MethodName) method_3_code 3 (some (.array .byte)) :: ws) ({ frames := 0, cells := 1, slots := 3, locals := 0 } : Room)) (fun A_ U => A_ = #[(.int p1), (.int p2)] ∧ Z.Warmed39 U.vm ∧ U.heap = h0) (fun _ _ _ _ _ => True) (fun _ U o U' => ∃ v L, o = .returned v ∧ QmakF Z p1 p2 (makF p1 p2) h0 n0 v U'.heap L ∧ FrameEnd U o U' L ({ frames := 0, cells := 1, slots := 3, locals := 0 } : Room).cells ({ frames := 0, cells := 1, slots := 3, locals := 0 } : Room).slots) := by
  refine MetFree.of_bodySF (plainFor_of_name pn_0) hisR ?_
  intro p e s m args below meth c s₁ Bd hml0 hP hK
  obtain ⟨rfl, hZ, hh⟩ := hP
  have hx := Bd.exec
  have hby := Bd.bytes
  have hml : c.maxLocals = 3 := hml0
  have hown : s.vm.findClass "com/example/lane4/lane4/store/SharedFieldsWaitingEntryPinLaw" = some m.cls := findClass_of_methodNamed Bd.named
  have hnm := (name_of_methodNamed Bd.named Bd.method).1
  have X0 : Stand p l e ({ frames := 0, cells := 1, slots := 3, locals := 0 } : Room) s m #[(.int p1), (.int p2)] below meth c s₁ [] 0 0 := Stand.of_body Bd
  have e0 : s₁.heap = h0 := by rw [← hh, Bd.state]; rfl
  have N0 := Fr.nil n0
  obtain ⟨RES, hf⟩ : ∃ z, z = makF p1 p2 := ⟨_, rfl⟩
  rw [← hf]
  rw [makF] at hf
  suffices HGO : Go p e below s (QmakF Z p1 p2 RES h0 n0) ({ frames := 0, cells := 1, slots := 3, locals := 0 } : Room).cells ({ frames := 0, cells := 1, slots := 3, locals := 0 } : Room).slots s₁ (mkF m 0 #[.val (.int p1), .val (.int p2), .unset] []) from Go.cast (ef_makF m p1 p2) HGO
  have S39 : ∀ (T : State) (locs : List Loc) (cells slots : Nat) (X : Stand p l e ({ frames := 0, cells := 1, slots := 3, locals := 0 } : Room) s m #[(.int p1), (.int p2)] below meth c T locs cells slots) (hcl : cells ≤ 1) (hsl : slots ≤ 3) (h : Heap) (eT : T.heap = h) (N : Fr n0 locs)   (b1 : Addr) (y0 : List Int32) (K : Keep h0 h []) (fc0 : VA Z h b1 .byte (y0.map Value.int)) (g_b1 : n0 ≤ b1) (sz_b1 : h0.size ≤ b1) (hl : (y0.length : Int) = p1.toInt) (hf : RES = makF_39  y0), Go p e below s (QmakF Z p1 p2 RES h0 n0) ({ frames := 0, cells := 1, slots := 3, locals := 0 } : Room).cells ({ frames := 0, cells := 1, slots := 3, locals := 0 } : Room).slots T (mkF m 39 #[.val (.int p1), .val (.int p2), .val (.ref b1)] []) := by
    intro T locs cells slots X hcl hsl h eT N b1 y0 K fc0 g_b1 sz_b1 hl hf
    have Zh : n0 ≤ h.size := Nat.le_trans Z0 K.1
    rw [makF_39] at hf
    refine Go.step (T' := T) (f' := (mkF m 40 #[.val (.int p1), .val (.int p2), .val (.ref b1)] [(.ref b1)])) (fun t kt => ?_) ?_
    · show Steps p.tables e below (T.setTop (mkF m 39 #[.val (.int p1), .val (.int p2), .val (.ref b1)] [])) _
      refine XS.aloadN X.here hx rfl (hb hby d1_39) rfl rfl ?_
      exact kt
    refine Go.fin X (v := some (.ref b1)) (fun h => by rw [Bd.returns] at h; cases h) Bd.notSynchronized ?_ (Nat.le_trans hcl (by decide)) (Nat.le_trans hsl (by decide)) (fun fs hr => X.areturnOut hx rfl Bd.returns rfl (hb hby d1_40) hr)
    · show QmakF Z p1 p2 RES h0 n0 _ T.heap _
      rw [eT, hf]
      exact ⟨b1, rfl, N, K, sz_b1, fc0⟩
  have S26 : ∀ (T : State) (locs : List Loc) (cells slots : Nat) (X : Stand p l e ({ frames := 0, cells := 1, slots := 3, locals := 0 } : Room) s m #[(.int p1), (.int p2)] below meth c T locs cells slots) (hcl : cells ≤ 1) (hsl : slots ≤ 3) (h : Heap) (eT : T.heap = h) (N : Fr n0 locs)   (b1 : Addr) (y0 : List Int32) (K : Keep h0 h []) (fc0 : VA Z h b1 .byte (y0.map Value.int)) (g_b1 : n0 ≤ b1) (sz_b1 : h0.size ≤ b1) (hl : (y0.length : Int) = p1.toInt) (hf : RES = makF_26 p1 p2 y0), Go p e below s (QmakF Z p1 p2 RES h0 n0) ({ frames := 0, cells := 1, slots := 3, locals := 0 } : Room).cells ({ frames := 0, cells := 1, slots := 3, locals := 0 } : Room).slots T (mkF m 26 #[.val (.int p1), .val (.int p2), .val (.ref b1)] []) := by
    intro T locs cells slots X hcl hsl h eT N b1 y0 K fc0 g_b1 sz_b1 hl hf
    have Zh : n0 ≤ h.size := Nat.le_trans Z0 K.1
    rw [makF_26] at hf
    refine Go.step (T' := T) (f' := (mkF m 28 #[.val (.int p1), .val (.int p2), .val (.ref b1)] [(.int (2 : Int32)), (.int p1)])) (fun t kt => ?_) ?_
    · show Steps p.tables e below (T.setTop (mkF m 26 #[.val (.int p1), .val (.int p2), .val (.ref b1)] [])) _
      refine XS.iloadN X.here hx rfl (hb hby d1_26) rfl ?_
      show Steps p.tables e below (T.setTop (mkF m 27 #[.val (.int p1), .val (.int p2), .val (.ref b1)] [(.int p1)])) _
      refine XS.iconst X.here hx rfl (hb hby d1_27) ?_
      exact kt
    by_cases hc1 : (2 : Int32) < p1
    · rw [if_pos hc1] at hf
      refine Go.step (T' := T) (f' := (mkF m 31 #[.val (.int p1), .val (.int p2), .val (.ref b1)] [])) (fun t kt => ?_) ?_
      · show Steps p.tables e below (T.setTop (mkF m 28 #[.val (.int p1), .val (.int p2), .val (.ref b1)] [(.int (2 : Int32)), (.int p1)])) _
        refine XS.icmpNo X.here hx rfl (hb hby d1_28) rfl (tlt hc1).2.2.2 ?_
        exact kt
      have ix2 : 0 ≤ ((2 : Int32)).toInt ∧ ((2 : Int32)).toInt < ((y0).length : Int) := (own_il (by decide) (by assumption) hl)
      obtain ⟨T3, h3, X3, e3, W3, V3, st3⟩ := putB X hx hZ eT fc0 ix2.1 ix2.2 (g := (mkF m 38 #[.val (.int p1), .val (.int p2), .val (.ref b1)] [(.int (((p2.toUInt32 >>> ((16 : Int32) &&& 31).toUInt32).toInt32).toInt8.toInt32)), (.int (2 : Int32)), (.ref b1)])) rfl rfl (hb hby d1_38)
      have G4 : VA Z h3 b1 .byte ((y0.set 2 (nar .byte (((p2.toUInt32 >>> ((16 : Int32) &&& 31).toUInt32).toInt32).toInt8.toInt32))).map Value.int) := V3
      have N3 := Fr.snoc X3 N g_b1
      have K3 : Keep h0 h3 [] := Keep.wr K W3 (Or.inr sz_b1)
      have Z3 : n0 ≤ h3.size := Nat.le_trans Z0 K3.1
      refine Go.step (T' := T3) (f' := (mkF m 39 #[.val (.int p1), .val (.int p2), .val (.ref b1)] [])) (fun t kt => ?_) ?_
      · show Steps p.tables e below (T.setTop (mkF m 31 #[.val (.int p1), .val (.int p2), .val (.ref b1)] [])) _
        refine XS.aloadN X.here hx rfl (hb hby d1_31) rfl rfl ?_
        show Steps p.tables e below (T.setTop (mkF m 32 #[.val (.int p1), .val (.int p2), .val (.ref b1)] [(.ref b1)])) _
        refine XS.iconst X.here hx rfl (hb hby d1_32) ?_
        show Steps p.tables e below (T.setTop (mkF m 33 #[.val (.int p1), .val (.int p2), .val (.ref b1)] [(.int (2 : Int32)), (.ref b1)])) _
        refine XS.iloadN X.here hx rfl (hb hby d1_33) rfl ?_
        show Steps p.tables e below (T.setTop (mkF m 34 #[.val (.int p1), .val (.int p2), .val (.ref b1)] [(.int p2), (.int (2 : Int32)), (.ref b1)])) _
        refine XS.bipush X.here hx rfl (hb hby d1_34) ?_
        show Steps p.tables e below (T.setTop (mkF m 36 #[.val (.int p1), .val (.int p2), .val (.ref b1)] [(.int (16 : Int32)), (.int p2), (.int (2 : Int32)), (.ref b1)])) _
        refine XS.iushr X.here hx rfl (hb hby d1_36) rfl ?_
        show Steps p.tables e below (T.setTop (mkF m 37 #[.val (.int p1), .val (.int p2), .val (.ref b1)] [(.int ((p2.toUInt32 >>> ((16 : Int32) &&& 31).toUInt32).toInt32)), (.int (2 : Int32)), (.ref b1)])) _
        refine XS.i2b X.here hx rfl (hb hby d1_37) rfl ?_
        show Steps p.tables e below (T.setTop (mkF m 38 #[.val (.int p1), .val (.int p2), .val (.ref b1)] [(.int (((p2.toUInt32 >>> ((16 : Int32) &&& 31).toUInt32).toInt32).toInt8.toInt32)), (.int (2 : Int32)), (.ref b1)])) _
        refine st3 _ ?_
        exact kt
      exact S39 _ _ _ _ X3 (Nat.le_trans hcl (by decide)) (Nat.le_trans hsl (by decide)) h3 e3 N3 b1 (y0.set 2 (nar .byte (((p2.toUInt32 >>> ((16 : Int32) &&& 31).toUInt32).toInt32).toInt8.toInt32))) K3 G4 g_b1 sz_b1 (own_st hl) hf
    · rw [if_neg hc1] at hf
      refine Go.step (T' := T) (f' := (mkF m 39 #[.val (.int p1), .val (.int p2), .val (.ref b1)] [])) (fun t kt => ?_) ?_
      · show Steps p.tables e below (T.setTop (mkF m 28 #[.val (.int p1), .val (.int p2), .val (.ref b1)] [(.int (2 : Int32)), (.int p1)])) _
        refine XS.icmpYes X.here hx rfl (pc0 := 28) (pc' := 39) rfl (hb hby d1_28) rfl (flt hc1).2.2.2 (by decide) (by decide) ?_
        exact kt
      exact S39 _ _ _ _ X (Nat.le_trans hcl (by decide)) (Nat.le_trans hsl (by decide)) h eT N b1 y0 K fc0 g_b1 sz_b1 hl hf
  have S13 : ∀ (T : State) (locs : List Loc) (cells slots : Nat) (X : Stand p l e ({ frames := 0, cells := 1, slots := 3, locals := 0 } : Room) s m #[(.int p1), (.int p2)] below meth c T locs cells slots) (hcl : cells ≤ 1) (hsl : slots ≤ 3) (h : Heap) (eT : T.heap = h) (N : Fr n0 locs)   (b1 : Addr) (y0 : List Int32) (K : Keep h0 h []) (fc0 : VA Z h b1 .byte (y0.map Value.int)) (g_b1 : n0 ≤ b1) (sz_b1 : h0.size ≤ b1) (hl : (y0.length : Int) = p1.toInt) (hf : RES = makF_13 p1 p2 y0), Go p e below s (QmakF Z p1 p2 RES h0 n0) ({ frames := 0, cells := 1, slots := 3, locals := 0 } : Room).cells ({ frames := 0, cells := 1, slots := 3, locals := 0 } : Room).slots T (mkF m 13 #[.val (.int p1), .val (.int p2), .val (.ref b1)] []) := by
    intro T locs cells slots X hcl hsl h eT N b1 y0 K fc0 g_b1 sz_b1 hl hf
    have Zh : n0 ≤ h.size := Nat.le_trans Z0 K.1
    rw [makF_13] at hf
    refine Go.step (T' := T) (f' := (mkF m 15 #[.val (.int p1), .val (.int p2), .val (.ref b1)] [(.int (1 : Int32)), (.int p1)])) (fun t kt => ?_) ?_
    · show Steps p.tables e below (T.setTop (mkF m 13 #[.val (.int p1), .val (.int p2), .val (.ref b1)] [])) _
      refine XS.iloadN X.here hx rfl (hb hby d1_13) rfl ?_
      show Steps p.tables e below (T.setTop (mkF m 14 #[.val (.int p1), .val (.int p2), .val (.ref b1)] [(.int p1)])) _
      refine XS.iconst X.here hx rfl (hb hby d1_14) ?_
      exact kt
    by_cases hc5 : (1 : Int32) < p1
    · rw [if_pos hc5] at hf
      refine Go.step (T' := T) (f' := (mkF m 18 #[.val (.int p1), .val (.int p2), .val (.ref b1)] [])) (fun t kt => ?_) ?_
      · show Steps p.tables e below (T.setTop (mkF m 15 #[.val (.int p1), .val (.int p2), .val (.ref b1)] [(.int (1 : Int32)), (.int p1)])) _
        refine XS.icmpNo X.here hx rfl (hb hby d1_15) rfl (tlt hc5).2.2.2 ?_
        exact kt
      have ix6 : 0 ≤ ((1 : Int32)).toInt ∧ ((1 : Int32)).toInt < ((y0).length : Int) := (own_il (by decide) (by assumption) hl)
      obtain ⟨T7, h7, X7, e7, W7, V7, st7⟩ := putB X hx hZ eT fc0 ix6.1 ix6.2 (g := (mkF m 25 #[.val (.int p1), .val (.int p2), .val (.ref b1)] [(.int (((p2.toUInt32 >>> ((8 : Int32) &&& 31).toUInt32).toInt32).toInt8.toInt32)), (.int (1 : Int32)), (.ref b1)])) rfl rfl (hb hby d1_25)
      have G8 : VA Z h7 b1 .byte ((y0.set 1 (nar .byte (((p2.toUInt32 >>> ((8 : Int32) &&& 31).toUInt32).toInt32).toInt8.toInt32))).map Value.int) := V7
      have N7 := Fr.snoc X7 N g_b1
      have K7 : Keep h0 h7 [] := Keep.wr K W7 (Or.inr sz_b1)
      have Z7 : n0 ≤ h7.size := Nat.le_trans Z0 K7.1
      refine Go.step (T' := T7) (f' := (mkF m 26 #[.val (.int p1), .val (.int p2), .val (.ref b1)] [])) (fun t kt => ?_) ?_
      · show Steps p.tables e below (T.setTop (mkF m 18 #[.val (.int p1), .val (.int p2), .val (.ref b1)] [])) _
        refine XS.aloadN X.here hx rfl (hb hby d1_18) rfl rfl ?_
        show Steps p.tables e below (T.setTop (mkF m 19 #[.val (.int p1), .val (.int p2), .val (.ref b1)] [(.ref b1)])) _
        refine XS.iconst X.here hx rfl (hb hby d1_19) ?_
        show Steps p.tables e below (T.setTop (mkF m 20 #[.val (.int p1), .val (.int p2), .val (.ref b1)] [(.int (1 : Int32)), (.ref b1)])) _
        refine XS.iloadN X.here hx rfl (hb hby d1_20) rfl ?_
        show Steps p.tables e below (T.setTop (mkF m 21 #[.val (.int p1), .val (.int p2), .val (.ref b1)] [(.int p2), (.int (1 : Int32)), (.ref b1)])) _
        refine XS.bipush X.here hx rfl (hb hby d1_21) ?_
        show Steps p.tables e below (T.setTop (mkF m 23 #[.val (.int p1), .val (.int p2), .val (.ref b1)] [(.int (8 : Int32)), (.int p2), (.int (1 : Int32)), (.ref b1)])) _
        refine XS.iushr X.here hx rfl (hb hby d1_23) rfl ?_
        show Steps p.tables e below (T.setTop (mkF m 24 #[.val (.int p1), .val (.int p2), .val (.ref b1)] [(.int ((p2.toUInt32 >>> ((8 : Int32) &&& 31).toUInt32).toInt32)), (.int (1 : Int32)), (.ref b1)])) _
        refine XS.i2b X.here hx rfl (hb hby d1_24) rfl ?_
        show Steps p.tables e below (T.setTop (mkF m 25 #[.val (.int p1), .val (.int p2), .val (.ref b1)] [(.int (((p2.toUInt32 >>> ((8 : Int32) &&& 31).toUInt32).toInt32).toInt8.toInt32)), (.int (1 : Int32)), (.ref b1)])) _
        refine st7 _ ?_
        exact kt
      exact S26 _ _ _ _ X7 (Nat.le_trans hcl (by decide)) (Nat.le_trans hsl (by decide)) h7 e7 N7 b1 (y0.set 1 (nar .byte (((p2.toUInt32 >>> ((8 : Int32) &&& 31).toUInt32).toInt32).toInt8.toInt32))) K7 G8 g_b1 sz_b1 (own_st hl) hf
    · rw [if_neg hc5] at hf
      refine Go.step (T' := T) (f' := (mkF m 26 #[.val (.int p1), .val (.int p2), .val (.ref b1)] [])) (fun t kt => ?_) ?_
      · show Steps p.tables e below (T.setTop (mkF m 15 #[.val (.int p1), .val (.int p2), .val (.ref b1)] [(.int (1 : Int32)), (.int p1)])) _
        refine XS.icmpYes X.here hx rfl (pc0 := 15) (pc' := 26) rfl (hb hby d1_15) rfl (flt hc5).2.2.2 (by decide) (by decide) ?_
        exact kt
      exact S26 _ _ _ _ X (Nat.le_trans hcl (by decide)) (Nat.le_trans hsl (by decide)) h eT N b1 y0 K fc0 g_b1 sz_b1 hl hf
  obtain ⟨T9, h9, X9, e9, E9, A9, st9⟩ := newB X0 hx hZ (hw _ (List.mem_of_getElem? (i := 4) rfl)) e0 (g := (mkF m 1 #[.val (.int p1), .val (.int p2), .unset] [(.int p1)])) rfl (hb hby d1_1) rfl hlen.1 (cap := 3) (by omega) (by decide) (Nat.le_trans (Nat.add_le_add_right (Nat.le_refl 0) 1) (by decide)) (Nat.le_trans (Nat.add_le_add_right (Nat.le_refl 0) 3) (by decide))
  obtain ⟨b9, g9⟩ : ∃ z, z = h0.size := ⟨_, rfl⟩
  rw [← g9] at A9 st9
  have g_b9 : n0 ≤ b9 := Nat.le_trans Z0 (Nat.le_of_eq g9.symm)
  have sz_b9 : h0.size ≤ b9 := Nat.le_trans (Keep.refl h0 []).1 (Nat.le_of_eq g9.symm)
  have K9 : Keep h0 h9 [] := Keep.ext (Keep.refl h0 []) E9
  have Z9 : n0 ≤ h9.size := Nat.le_trans Z0 K9.1
  have G10 : VA Z h9 b9 .byte ((List.replicate p1.toInt.toNat (0 : Int32)).map Value.int) := A9
  refine Go.step (T' := T9) (f' := (mkF m 5 #[.val (.int p1), .val (.int p2), .val (.ref b9)] [(.int p1)])) (fun t kt => ?_) ?_
  · show Steps p.tables e below (s₁.setTop (mkF m 0 #[.val (.int p1), .val (.int p2), .unset] [])) _
    refine XS.iloadN X0.here hx rfl (hb hby d1_0) rfl ?_
    show Steps p.tables e below (s₁.setTop (mkF m 1 #[.val (.int p1), .val (.int p2), .unset] [(.int p1)])) _
    refine st9 _ ?_
    show Steps p.tables e below (T9.setTop (mkF m 3 #[.val (.int p1), .val (.int p2), .unset] [(.ref b9)])) _
    refine XS.astoreN X9.here hx rfl (hb hby d1_3) rfl rfl (l' := #[.val (.int p1), .val (.int p2), .val (.ref b9)]) rfl ?_
    show Steps p.tables e below (T9.setTop (mkF m 4 #[.val (.int p1), .val (.int p2), .val (.ref b9)] [])) _
    refine XS.iloadN X9.here hx rfl (hb hby d1_4) rfl ?_
    exact kt
  by_cases hc11 : (0 : Int32) < p1
  · rw [if_pos hc11] at hf
    refine Go.step (T' := T9) (f' := (mkF m 8 #[.val (.int p1), .val (.int p2), .val (.ref b9)] [])) (fun t kt => ?_) ?_
    · show Steps p.tables e below (T9.setTop (mkF m 5 #[.val (.int p1), .val (.int p2), .val (.ref b9)] [(.int p1)])) _
      refine XS.ifNo X9.here hx rfl (hb hby d1_5) rfl ((if0 _ _).trans (tlt hc11).2.2.2) ?_
      exact kt
    have ix12 : 0 ≤ ((0 : Int32)).toInt ∧ ((0 : Int32)).toInt < (((List.replicate p1.toInt.toNat (0 : Int32))).length : Int) := (own_il (by decide) (by assumption) (own_rep hlen))
    obtain ⟨T13, h13, X13, e13, W13, V13, st13⟩ := putB X9 hx hZ e9 G10 ix12.1 ix12.2 (g := (mkF m 12 #[.val (.int p1), .val (.int p2), .val (.ref b9)] [(.int (p2.toInt8.toInt32)), (.int (0 : Int32)), (.ref b9)])) rfl rfl (hb hby d1_12)
    have G14 : VA Z h13 b9 .byte (((List.replicate p1.toInt.toNat (0 : Int32)).set 0 (nar .byte (p2.toInt8.toInt32))).map Value.int) := V13
    have N13 := Fr.snoc X13 N0 g_b9
    have K13 : Keep h0 h13 [] := Keep.wr K9 W13 (Or.inr sz_b9)
    have Z13 : n0 ≤ h13.size := Nat.le_trans Z0 K13.1
    refine Go.step (T' := T13) (f' := (mkF m 13 #[.val (.int p1), .val (.int p2), .val (.ref b9)] [])) (fun t kt => ?_) ?_
    · show Steps p.tables e below (T9.setTop (mkF m 8 #[.val (.int p1), .val (.int p2), .val (.ref b9)] [])) _
      refine XS.aloadN X9.here hx rfl (hb hby d1_8) rfl rfl ?_
      show Steps p.tables e below (T9.setTop (mkF m 9 #[.val (.int p1), .val (.int p2), .val (.ref b9)] [(.ref b9)])) _
      refine XS.iconst X9.here hx rfl (hb hby d1_9) ?_
      show Steps p.tables e below (T9.setTop (mkF m 10 #[.val (.int p1), .val (.int p2), .val (.ref b9)] [(.int (0 : Int32)), (.ref b9)])) _
      refine XS.iloadN X9.here hx rfl (hb hby d1_10) rfl ?_
      show Steps p.tables e below (T9.setTop (mkF m 11 #[.val (.int p1), .val (.int p2), .val (.ref b9)] [(.int p2), (.int (0 : Int32)), (.ref b9)])) _
      refine XS.i2b X9.here hx rfl (hb hby d1_11) rfl ?_
      show Steps p.tables e below (T9.setTop (mkF m 12 #[.val (.int p1), .val (.int p2), .val (.ref b9)] [(.int (p2.toInt8.toInt32)), (.int (0 : Int32)), (.ref b9)])) _
      refine st13 _ ?_
      exact kt
    exact S13 _ _ _ _ X13 (Nat.le_trans (Nat.add_le_add_right (Nat.le_refl 0) 1) (by decide)) (Nat.le_trans (Nat.add_le_add_right (Nat.le_refl 0) 3) (by decide)) h13 e13 N13 b9 ((List.replicate p1.toInt.toNat (0 : Int32)).set 0 (nar .byte (p2.toInt8.toInt32))) K13 G14 g_b9 sz_b9 (own_st (own_rep hlen)) hf
  · rw [if_neg hc11] at hf
    refine Go.step (T' := T9) (f' := (mkF m 13 #[.val (.int p1), .val (.int p2), .val (.ref b9)] [])) (fun t kt => ?_) ?_
    · show Steps p.tables e below (T9.setTop (mkF m 5 #[.val (.int p1), .val (.int p2), .val (.ref b9)] [(.int p1)])) _
      refine XS.ifYes X9.here hx rfl (pc0 := 5) (pc' := 13) rfl (hb hby d1_5) rfl ((if0 _ _).trans (flt hc11).2.2.2) (by decide) (by decide) ?_
      exact kt
    exact S13 _ _ _ _ X9 (Nat.le_trans (Nat.add_le_add_right (Nat.le_refl 0) 1) (by decide)) (Nat.le_trans (Nat.add_le_add_right (Nat.le_refl 0) 3) (by decide)) h9 e9 N0 b9 (List.replicate p1.toInt.toNat (0 : Int32)) K9 G10 g_b9 sz_b9 (own_rep hlen) hf
theorem own_L {l : List Int32} (h : l.length ≤ 7) : l.length.toInt32.toInt = l.length ∧ l.length.toInt32.toNatClampNeg = l.length := by
  have q : l.length.toInt32.toInt = l.length := len_toInt (by omega)
  exact ⟨q, by simp only [Int32.toNatClampNeg, q]; omega⟩
theorem own_L1 {l : List Int32} (h : l.length ≤ 3) : (l.length.toInt32 + (1 : Int32)).toInt = l.length + 1 ∧ (l.length.toInt32 + (1 : Int32)).toNatClampNeg = l.length + 1 := by
  have q := (own_L (l := l) (by omega)).1
  have k1 : (1 : Int32).toInt = 1 := rfl
  have e : (l.length.toInt32 + (1 : Int32)).toInt = l.length + 1 := by rw [own_add (by omega) (by omega)]; omega
  exact ⟨e, by simp only [Int32.toNatClampNeg, e]; omega⟩
theorem own_wn {lp ls : List Int32} (hp : lp.length ≤ 3) (hs : ls.length ≤ 3) : ((lp.length.toInt32 + (1 : Int32)) + ls.length.toInt32).toInt = lp.length + 1 + ls.length := by
  have q := (own_L1 hp).1
  have r := (own_L (l := ls) (by omega)).1
  rw [own_add (by omega) (by omega)]; omega
theorem own_nv {Z : State} {h : Heap} {a : Addr} {n : Nat} {z : Int32} (e : z.toInt = n) (F : VA Z h a .byte ((List.replicate z.toInt.toNat (0 : Int32)).map Value.int)) : VA Z h a .byte ((List.replicate n (0 : Int32)).map Value.int) := by
  rw [e] at F; exact F
theorem own_fz (n : Nat) : ∀ x ∈ List.replicate n (0 : Int32), fits .byte (.int x) = true := fun x hx => by rw [List.eq_of_mem_replicate hx]; rfl
theorem own_fa {l1 l2 : List Int32} (h1 : ∀ x ∈ l1, fits .byte (.int x) = true) (h2 : ∀ x ∈ l2, fits .byte (.int x) = true) : ∀ x ∈ l1 ++ l2, fits .byte (.int x) = true := fun x hx => (List.mem_append.mp hx).elim (h1 x) (h2 x)
theorem own_fs {l : List Int32} (h : ∀ x ∈ l, fits .byte (.int x) = true) (i : Nat) : ∀ x ∈ l.set i 0, fits .byte (.int x) = true := fun x hx => (List.mem_or_eq_of_mem_set hx).elim (h x) (fun q => by rw [q]; rfl)
theorem own_c1 {lp ls : List Int32} (hp : lp.length ≤ 3) : 0 ≤ (0 : Int32).toInt ∧ 0 ≤ (0 : Int32).toInt ∧ 0 ≤ (lp.length.toInt32).toInt ∧ (0 : Int32).toInt + (lp.length.toInt32).toInt ≤ (lp.length : Int) ∧ (0 : Int32).toInt + (lp.length.toInt32).toInt ≤ ((List.replicate (lp.length + 1 + ls.length) (0 : Int32)).length : Int) := by
  have q := (own_L (l := lp) (by omega)).1
  have k0 : (0 : Int32).toInt = 0 := rfl
  rw [List.length_replicate]
  omega
theorem own_e1 {lp ls : List Int32} (hp : lp.length ≤ 3) : (List.replicate (lp.length + 1 + ls.length) (0 : Int32)).take (0 : Int32).toNatClampNeg ++ (lp.drop (0 : Int32).toNatClampNeg).take (lp.length.toInt32).toNatClampNeg ++ (List.replicate (lp.length + 1 + ls.length) (0 : Int32)).drop ((0 : Int32).toNatClampNeg + (lp.length.toInt32).toNatClampNeg) = lp ++ List.replicate (1 + ls.length) (0 : Int32) := by
  have q := (own_L (l := lp) (by omega)).2
  have k0 : (0 : Int32).toNatClampNeg = 0 := rfl
  rw [q, k0]
  simp only [List.take_zero, List.nil_append, List.drop_zero, List.take_length, Nat.zero_add, List.drop_replicate]
  congr 2
  omega
theorem own_i1 {lp ls : List Int32} (hp : lp.length ≤ 3) : 0 ≤ (lp.length.toInt32).toInt ∧ (lp.length.toInt32).toInt < ((lp ++ List.replicate (1 + ls.length) (0 : Int32)).length : Int) := by
  have q := (own_L (l := lp) (by omega)).1
  rw [List.length_append, List.length_replicate]
  omega
theorem own_c2 {lp ls : List Int32} (hp : lp.length ≤ 3) (hs : ls.length ≤ 3) : 0 ≤ (0 : Int32).toInt ∧ 0 ≤ (lp.length.toInt32 + (1 : Int32)).toInt ∧ 0 ≤ (ls.length.toInt32).toInt ∧ (0 : Int32).toInt + (ls.length.toInt32).toInt ≤ (ls.length : Int) ∧ (lp.length.toInt32 + (1 : Int32)).toInt + (ls.length.toInt32).toInt ≤ (((lp ++ List.replicate (1 + ls.length) (0 : Int32)).set (lp.length.toInt32).toNatClampNeg (0 : Int32)).length : Int) := by
  have q := (own_L1 hp).1
  have r := (own_L (l := ls) (by omega)).1
  have k0 : (0 : Int32).toInt = 0 := rfl
  rw [List.length_set, List.length_append, List.length_replicate]
  omega
theorem own_e2 {lp ls : List Int32} (hp : lp.length ≤ 3) (hs : ls.length ≤ 3) : ((lp ++ List.replicate (1 + ls.length) (0 : Int32)).set (lp.length.toInt32).toNatClampNeg (0 : Int32)).take (lp.length.toInt32 + (1 : Int32)).toNatClampNeg ++ (ls.drop (0 : Int32).toNatClampNeg).take (ls.length.toInt32).toNatClampNeg ++ ((lp ++ List.replicate (1 + ls.length) (0 : Int32)).set (lp.length.toInt32).toNatClampNeg (0 : Int32)).drop ((lp.length.toInt32 + (1 : Int32)).toNatClampNeg + (ls.length.toInt32).toNatClampNeg) = lp ++ (0 : Int32) :: ls := by
  have q := (own_L (l := lp) (by omega)).2
  have q1 := (own_L1 hp).2
  have r := (own_L (l := ls) (by omega)).2
  have k0 : (0 : Int32).toNatClampNeg = 0 := rfl
  rw [q, q1, r, k0]
  have e : (lp ++ List.replicate (1 + ls.length) (0 : Int32)).set lp.length (0 : Int32) = lp ++ (0 : Int32) :: List.replicate ls.length (0 : Int32) := by
    rw [Nat.add_comm 1 ls.length, List.replicate_succ, List.set_append_right _ _ (Nat.le_refl _), Nat.sub_self]; rfl
  rw [e, List.drop_zero, List.take_length]
  have t : (lp ++ (0 : Int32) :: List.replicate ls.length (0 : Int32)).take (lp.length + 1) = lp ++ [0] := by
    rw [List.take_append, List.take_of_length_le (by omega), Nat.add_sub_cancel_left]; rfl
  have d : (lp ++ (0 : Int32) :: List.replicate ls.length (0 : Int32)).drop (lp.length + 1 + ls.length) = [] := by
    apply List.drop_eq_nil_of_le; simp; omega
  rw [t, d, List.append_nil, List.append_assoc]; rfl
theorem d2_0 : decode prog_37_method_3_code 0 = .ok (.aload_n 0, 1) := by decide +kernel
theorem d2_1 : decode prog_37_method_3_code 1 = .ok (.arraylength, 1) := by decide +kernel
theorem d2_2 : decode prog_37_method_3_code 2 = .ok (.iconst 1, 1) := by decide +kernel
theorem d2_3 : decode prog_37_method_3_code 3 = .ok (.iadd, 1) := by decide +kernel
theorem d2_4 : decode prog_37_method_3_code 4 = .ok (.aload_n 1, 1) := by decide +kernel
theorem d2_5 : decode prog_37_method_3_code 5 = .ok (.arraylength, 1) := by decide +kernel
theorem d2_6 : decode prog_37_method_3_code 6 = .ok (.iadd, 1) := by decide +kernel
theorem d2_7 : decode prog_37_method_3_code 7 = .ok (.newarray .byte, 2) := by decide +kernel
theorem d2_9 : decode prog_37_method_3_code 9 = .ok (.astore_n 2, 1) := by decide +kernel
theorem d2_10 : decode prog_37_method_3_code 10 = .ok (.aload_n 0, 1) := by decide +kernel
theorem d2_11 : decode prog_37_method_3_code 11 = .ok (.iconst 0, 1) := by decide +kernel
theorem d2_12 : decode prog_37_method_3_code 12 = .ok (.aload_n 2, 1) := by decide +kernel
theorem d2_13 : decode prog_37_method_3_code 13 = .ok (.iconst 0, 1) := by decide +kernel
theorem d2_14 : decode prog_37_method_3_code 14 = .ok (.aload_n 0, 1) := by decide +kernel
theorem d2_15 : decode prog_37_method_3_code 15 = .ok (.arraylength, 1) := by decide +kernel
theorem d2_16 : decode prog_37_method_3_code 16 = .ok (.invokestatic 64, 3) := by decide +kernel
theorem d2_19 : decode prog_37_method_3_code 19 = .ok (.aload_n 2, 1) := by decide +kernel
theorem d2_20 : decode prog_37_method_3_code 20 = .ok (.aload_n 0, 1) := by decide +kernel
theorem d2_21 : decode prog_37_method_3_code 21 = .ok (.arraylength, 1) := by decide +kernel
theorem d2_22 : decode prog_37_method_3_code 22 = .ok (.iconst 0, 1) := by decide +kernel
theorem d2_23 : decode prog_37_method_3_code 23 = .ok (.bastore, 1) := by decide +kernel
theorem d2_24 : decode prog_37_method_3_code 24 = .ok (.aload_n 1, 1) := by decide +kernel
theorem d2_25 : decode prog_37_method_3_code 25 = .ok (.iconst 0, 1) := by decide +kernel
theorem d2_26 : decode prog_37_method_3_code 26 = .ok (.aload_n 2, 1) := by decide +kernel
theorem d2_27 : decode prog_37_method_3_code 27 = .ok (.aload_n 0, 1) := by decide +kernel
theorem d2_28 : decode prog_37_method_3_code 28 = .ok (.arraylength, 1) := by decide +kernel
theorem d2_29 : decode prog_37_method_3_code 29 = .ok (.iconst 1, 1) := by decide +kernel
theorem d2_30 : decode prog_37_method_3_code 30 = .ok (.iadd, 1) := by decide +kernel
theorem d2_31 : decode prog_37_method_3_code 31 = .ok (.aload_n 1, 1) := by decide +kernel
theorem d2_32 : decode prog_37_method_3_code 32 = .ok (.arraylength, 1) := by decide +kernel
theorem d2_33 : decode prog_37_method_3_code 33 = .ok (.invokestatic 64, 3) := by decide +kernel
theorem d2_36 : decode prog_37_method_3_code 36 = .ok (.aload_n 2, 1) := by decide +kernel
theorem d2_37 : decode prog_37_method_3_code 37 = .ok (.areturn, 1) := by decide +kernel
theorem pn_1 : plainName "com/example/lane4/lane4/store/SharedFields" = true := by first | (simp [plainName, overriddenIn]; done) | decide +kernel
theorem ef_waiF (m : MethodId) (x0 : Addr) (x1 : Addr) : entryFrame m #[(.ref x0), (.ref x1)] 3 = mkF m 0 #[.val (.ref x0), .val (.ref x1), .unset] [] := by first | (simp [entryFrame, mkF, argsToLocals, Value.category]; done) | rfl
def QwaiF (Z : State) (a : Addr) (b : Addr) (lp : List Int32) (ls : List Int32) (h0 : Heap) (n0 : Nat) (v : Option Value) (h : Heap) (L : List Loc) : Prop := ∃ (r : Addr), v = some (.ref r) ∧ Fr n0 L ∧ Keep h0 h [] ∧ h0.size ≤ r ∧ VA Z h r .byte ((lp ++ (0 : Int32) :: ls).map Value.int)
set_option maxRecDepth 65536 in
set_option maxHeartbeats 40000000 in
theorem rm_waiF (l : Launch) (Z : State) (a0 : Array Value) (hw : ∀ d ∈ tables_1, d.before a0 Z = true) (ws : List Jvm.Cond) (a : Addr) (b : Addr) (lp : List Int32) (ls : List Int32) (h0 : Heap) (n0 : Nat) (Z0 : n0 ≤ h0.size) (F0 : VA Z h0 a .byte (lp.map Value.int)) (F1 : VA Z h0 b .byte (ls.map Value.int)) (hp : lp.length ≤ 3) (hs : ls.length ≤ 3) (fp : ∀ x ∈ lp, fits .byte (.int x) = true) (fs : ∀ x ∈ ls, fits .byte (.int x) = true) :
    MetFree l (⟨"com/example/lane4/lane4/store/SharedFields", "waitingEntry", "([B[B)[B"⟩ : MethodName) (head1 (Jvm.Cond.code (⟨"com/example/lane4/lane4/store/SharedFields", "waitingEntry", "([B[B)[B"⟩ : MethodName) prog_37_method_3_code 3 (some (.array .byte)) :: ws) ({ frames := 1, cells := 1, slots := 7, locals := 18 } : Room)) (fun A_ U => A_ = #[(.ref a), (.ref b)] ∧ Z.Warmed39 U.vm ∧ U.heap = h0) (fun _ _ _ _ _ => True) (fun _ U o U' => ∃ v L, o = .returned v ∧ QwaiF Z a b lp ls h0 n0 v U'.heap L ∧ FrameEnd U o U' L ({ frames := 1, cells := 1, slots := 7, locals := 18 } : Room).cells ({ frames := 1, cells := 1, slots := 7, locals := 18 } : Room).slots) := by
  refine MetFree.of_bodySF (plainFor_of_name pn_1) hisR ?_
  intro p e s m args below meth c s₁ Bd hml0 hP hK
  obtain ⟨rfl, hZ, hh⟩ := hP
  have hx := Bd.exec
  have hby := Bd.bytes
  have hml : c.maxLocals = 3 := hml0
  have hown : s.vm.findClass "com/example/lane4/lane4/store/SharedFields" = some m.cls := findClass_of_methodNamed Bd.named
  have hnm := (name_of_methodNamed Bd.named Bd.method).1
  have X0 : Stand p l e ({ frames := 1, cells := 1, slots := 7, locals := 18 } : Room) s m #[(.ref a), (.ref b)] below meth c s₁ [] 0 0 := Stand.of_body Bd
  have e0 : s₁.heap = h0 := by rw [← hh, Bd.state]; rfl
  have N0 := Fr.nil n0
  suffices HGO : Go p e below s (QwaiF Z a b lp ls h0 n0) ({ frames := 1, cells := 1, slots := 7, locals := 18 } : Room).cells ({ frames := 1, cells := 1, slots := 7, locals := 18 } : Room).slots s₁ (mkF m 0 #[.val (.ref a), .val (.ref b), .unset] []) from Go.cast (ef_waiF m a b) HGO
  have ln1 : ((lp.map Value.int).length : Int) = ((lp.length.toInt32)).toInt := (by have q := F0.len; rw [List.length_map] at q; rw [len_toInt q, List.length_map])
  have ln2 : ((ls.map Value.int).length : Int) = ((ls.length.toInt32)).toInt := (by have q := F1.len; rw [List.length_map] at q; rw [len_toInt q, List.length_map])
  obtain ⟨T3, h3, X3, e3, E3, A3, st3⟩ := newB X0 hx hZ (hw _ (List.mem_of_getElem? (i := 4) rfl)) e0 (g := (mkF m 7 #[.val (.ref a), .val (.ref b), .unset] [(.int (((lp.length.toInt32) + (1 : Int32)) + (ls.length.toInt32)))])) rfl (hb hby d2_7) rfl (by rw [own_wn hp hs]; omega) (cap := 7) (by rw [own_wn hp hs]; omega) (by decide) (Nat.le_trans (Nat.add_le_add_right (Nat.le_refl 0) 1) (by decide)) (Nat.le_trans (Nat.add_le_add_right (Nat.le_refl 0) 7) (by decide))
  obtain ⟨b3, g3⟩ : ∃ z, z = h0.size := ⟨_, rfl⟩
  rw [← g3] at A3 st3
  have ne_a_b3 : a ≠ b3 := Nat.ne_of_lt (Nat.lt_of_lt_of_le F0.lt (Nat.le_of_eq g3.symm))
  have ne_b_b3 : b ≠ b3 := Nat.ne_of_lt (Nat.lt_of_lt_of_le F1.lt (Nat.le_of_eq g3.symm))
  have G4 : VA Z h3 a .byte (lp.map Value.int) := F0.ext E3
  have G5 : VA Z h3 b .byte (ls.map Value.int) := F1.ext E3
  have g_b3 : n0 ≤ b3 := Nat.le_trans Z0 (Nat.le_of_eq g3.symm)
  have sz_b3 : h0.size ≤ b3 := Nat.le_trans (Keep.refl h0 []).1 (Nat.le_of_eq g3.symm)
  have K3 : Keep h0 h3 [] := Keep.ext (Keep.refl h0 []) E3
  have Z3 : n0 ≤ h3.size := Nat.le_trans Z0 K3.1
  have G6 : VA Z h3 b3 .byte ((List.replicate (lp.length + 1 + ls.length) (0 : Int32)).map Value.int) := own_nv (by rw [own_wn hp hs]; omega) A3
  have ln7 : ((lp.map Value.int).length : Int) = ((lp.length.toInt32)).toInt := (by have q := G4.len; rw [List.length_map] at q; rw [len_toInt q, List.length_map])
  have cb8 := own_c1 (ls := ls) hp
  obtain ⟨T8, h8, L8, X8, e8, N8, Kq8, V8, st8⟩ := cpB X3 hx hZ hown (hw _ (List.mem_of_getElem? (i := 9) rfl)) (hw _ (List.mem_of_getElem? (i := 12) rfl)) (hw _ (List.mem_of_getElem? (i := 10) rfl)) (hw _ (List.mem_of_getElem? (i := 11) rfl)) e3 G4 G6 ⟨fp, own_fz _⟩ (sp := (0 : Int32)) (dp := (0 : Int32)) (nn := (lp.length.toInt32)) cb8 N0 g_b3 (g := (mkF m 16 #[.val (.ref a), .val (.ref b), .val (.ref b3)] [(.int (lp.length.toInt32)), (.int (0 : Int32)), (.ref b3), (.int (0 : Int32)), (.ref a)])) rfl (by rw [hml]; rfl) rfl (hb hby d2_16) (by decide) (W := 0) (by show 2 * 0 + _ ≤ _; exact Nat.le_of_eq rfl) (by decide)
  have G9 : VA Z h8 a .byte (lp.map Value.int) := G4.keep Kq8 (ninS ne_a_b3 nin0)
  have G10 : VA Z h8 b .byte (ls.map Value.int) := G5.keep Kq8 (ninS ne_b_b3 nin0)
  have G11 : VA Z h8 b3 .byte ((lp ++ List.replicate (1 + ls.length) (0 : Int32)).map Value.int) := (by have q := V8; rw [own_e1 hp] at q; exact q)
  have K8 : Keep h0 h8 [] := Keep.trans K3 Kq8 (allS (Or.inr sz_b3) all0)
  have Z8 : n0 ≤ h8.size := Nat.le_trans Z0 K8.1
  have ln12 : ((lp.map Value.int).length : Int) = ((lp.length.toInt32)).toInt := (by have q := G9.len; rw [List.length_map] at q; rw [len_toInt q, List.length_map])
  have ix13 : 0 ≤ ((lp.length.toInt32)).toInt ∧ ((lp.length.toInt32)).toInt < (((lp ++ List.replicate (1 + ls.length) (0 : Int32))).length : Int) := own_i1 hp
  obtain ⟨T14, h14, X14, e14, W14, V14, st14⟩ := putB X8 hx hZ e8 G11 ix13.1 ix13.2 (g := (mkF m 23 #[.val (.ref a), .val (.ref b), .val (.ref b3)] [(.int (0 : Int32)), (.int (lp.length.toInt32)), (.ref b3)])) rfl rfl (hb hby d2_23)
  have G15 : VA Z h14 a .byte (lp.map Value.int) := G9.other W14 ne_a_b3
  have G16 : VA Z h14 b .byte (ls.map Value.int) := G10.other W14 ne_b_b3
  have G17 : VA Z h14 b3 .byte (((lp ++ List.replicate (1 + ls.length) (0 : Int32)).set (lp.length.toInt32).toNatClampNeg (0 : Int32)).map Value.int) := V14
  have N14 := Fr.snoc X14 N8 g_b3
  have K14 : Keep h0 h14 [] := Keep.wr K8 W14 (Or.inr sz_b3)
  have Z14 : n0 ≤ h14.size := Nat.le_trans Z0 K14.1
  have ln18 : ((lp.map Value.int).length : Int) = ((lp.length.toInt32)).toInt := (by have q := G15.len; rw [List.length_map] at q; rw [len_toInt q, List.length_map])
  have ln19 : ((ls.map Value.int).length : Int) = ((ls.length.toInt32)).toInt := (by have q := G16.len; rw [List.length_map] at q; rw [len_toInt q, List.length_map])
  have cb20 := own_c2 hp hs
  obtain ⟨T20, h20, L20, X20, e20, N20, Kq20, V20, st20⟩ := cpB X14 hx hZ hown (hw _ (List.mem_of_getElem? (i := 9) rfl)) (hw _ (List.mem_of_getElem? (i := 12) rfl)) (hw _ (List.mem_of_getElem? (i := 10) rfl)) (hw _ (List.mem_of_getElem? (i := 11) rfl)) e14 G16 G17 ⟨fs, own_fs (own_fa fp (own_fz _)) _⟩ (sp := (0 : Int32)) (dp := ((lp.length.toInt32) + (1 : Int32))) (nn := (ls.length.toInt32)) cb20 N14 g_b3 (g := (mkF m 33 #[.val (.ref a), .val (.ref b), .val (.ref b3)] [(.int (ls.length.toInt32)), (.int ((lp.length.toInt32) + (1 : Int32))), (.ref b3), (.int (0 : Int32)), (.ref b)])) rfl (by rw [hml]; rfl) rfl (hb hby d2_33) (by decide) (W := 0) (by show 2 * 0 + _ ≤ _; exact Nat.le_of_eq rfl) (by decide)
  have G21 : VA Z h20 a .byte (lp.map Value.int) := G15.keep Kq20 (ninS ne_a_b3 nin0)
  have G22 : VA Z h20 b .byte (ls.map Value.int) := G16.keep Kq20 (ninS ne_b_b3 nin0)
  have G23 : VA Z h20 b3 .byte ((lp ++ (0 : Int32) :: ls).map Value.int) := (by have q := V20; rw [own_e2 hp hs] at q; exact q)
  have K20 : Keep h0 h20 [] := Keep.trans K14 Kq20 (allS (Or.inr sz_b3) all0)
  have Z20 : n0 ≤ h20.size := Nat.le_trans Z0 K20.1
  refine Go.step (T' := T20) (f' := (mkF m 37 #[.val (.ref a), .val (.ref b), .val (.ref b3)] [(.ref b3)])) (fun t kt => ?_) ?_
  · show Steps p.tables e below (s₁.setTop (mkF m 0 #[.val (.ref a), .val (.ref b), .unset] [])) _
    refine XS.aloadN X0.here hx rfl (hb hby d2_0) rfl rfl ?_
    show Steps p.tables e below (s₁.setTop (mkF m 1 #[.val (.ref a), .val (.ref b), .unset] [(.ref a)])) _
    refine lenA X0 hx hZ e0 F0 (n := (lp.length.toInt32)) ln1 (g := (mkF m 1 #[.val (.ref a), .val (.ref b), .unset] [(.ref a)])) rfl rfl (hb hby d2_1) _ ?_
    show Steps p.tables e below (s₁.setTop (mkF m 2 #[.val (.ref a), .val (.ref b), .unset] [(.int (lp.length.toInt32))])) _
    refine XS.iconst X0.here hx rfl (hb hby d2_2) ?_
    show Steps p.tables e below (s₁.setTop (mkF m 3 #[.val (.ref a), .val (.ref b), .unset] [(.int (1 : Int32)), (.int (lp.length.toInt32))])) _
    refine XS.iadd X0.here hx rfl (hb hby d2_3) rfl ?_
    show Steps p.tables e below (s₁.setTop (mkF m 4 #[.val (.ref a), .val (.ref b), .unset] [(.int ((lp.length.toInt32) + (1 : Int32)))])) _
    refine XS.aloadN X0.here hx rfl (hb hby d2_4) rfl rfl ?_
    show Steps p.tables e below (s₁.setTop (mkF m 5 #[.val (.ref a), .val (.ref b), .unset] [(.ref b), (.int ((lp.length.toInt32) + (1 : Int32)))])) _
    refine lenA X0 hx hZ e0 F1 (n := (ls.length.toInt32)) ln2 (g := (mkF m 5 #[.val (.ref a), .val (.ref b), .unset] [(.ref b), (.int ((lp.length.toInt32) + (1 : Int32)))])) rfl rfl (hb hby d2_5) _ ?_
    show Steps p.tables e below (s₁.setTop (mkF m 6 #[.val (.ref a), .val (.ref b), .unset] [(.int (ls.length.toInt32)), (.int ((lp.length.toInt32) + (1 : Int32)))])) _
    refine XS.iadd X0.here hx rfl (hb hby d2_6) rfl ?_
    show Steps p.tables e below (s₁.setTop (mkF m 7 #[.val (.ref a), .val (.ref b), .unset] [(.int (((lp.length.toInt32) + (1 : Int32)) + (ls.length.toInt32)))])) _
    refine st3 _ ?_
    show Steps p.tables e below (T3.setTop (mkF m 9 #[.val (.ref a), .val (.ref b), .unset] [(.ref b3)])) _
    refine XS.astoreN X3.here hx rfl (hb hby d2_9) rfl rfl (l' := #[.val (.ref a), .val (.ref b), .val (.ref b3)]) rfl ?_
    show Steps p.tables e below (T3.setTop (mkF m 10 #[.val (.ref a), .val (.ref b), .val (.ref b3)] [])) _
    refine XS.aloadN X3.here hx rfl (hb hby d2_10) rfl rfl ?_
    show Steps p.tables e below (T3.setTop (mkF m 11 #[.val (.ref a), .val (.ref b), .val (.ref b3)] [(.ref a)])) _
    refine XS.iconst X3.here hx rfl (hb hby d2_11) ?_
    show Steps p.tables e below (T3.setTop (mkF m 12 #[.val (.ref a), .val (.ref b), .val (.ref b3)] [(.int (0 : Int32)), (.ref a)])) _
    refine XS.aloadN X3.here hx rfl (hb hby d2_12) rfl rfl ?_
    show Steps p.tables e below (T3.setTop (mkF m 13 #[.val (.ref a), .val (.ref b), .val (.ref b3)] [(.ref b3), (.int (0 : Int32)), (.ref a)])) _
    refine XS.iconst X3.here hx rfl (hb hby d2_13) ?_
    show Steps p.tables e below (T3.setTop (mkF m 14 #[.val (.ref a), .val (.ref b), .val (.ref b3)] [(.int (0 : Int32)), (.ref b3), (.int (0 : Int32)), (.ref a)])) _
    refine XS.aloadN X3.here hx rfl (hb hby d2_14) rfl rfl ?_
    show Steps p.tables e below (T3.setTop (mkF m 15 #[.val (.ref a), .val (.ref b), .val (.ref b3)] [(.ref a), (.int (0 : Int32)), (.ref b3), (.int (0 : Int32)), (.ref a)])) _
    refine lenA X3 hx hZ e3 G4 (n := (lp.length.toInt32)) ln7 (g := (mkF m 15 #[.val (.ref a), .val (.ref b), .val (.ref b3)] [(.ref a), (.int (0 : Int32)), (.ref b3), (.int (0 : Int32)), (.ref a)])) rfl rfl (hb hby d2_15) _ ?_
    show Steps p.tables e below (T3.setTop (mkF m 16 #[.val (.ref a), .val (.ref b), .val (.ref b3)] [(.int (lp.length.toInt32)), (.int (0 : Int32)), (.ref b3), (.int (0 : Int32)), (.ref a)])) _
    refine st8 _ ?_
    show Steps p.tables e below (T8.setTop (mkF m 19 #[.val (.ref a), .val (.ref b), .val (.ref b3)] [])) _
    refine XS.aloadN X8.here hx rfl (hb hby d2_19) rfl rfl ?_
    show Steps p.tables e below (T8.setTop (mkF m 20 #[.val (.ref a), .val (.ref b), .val (.ref b3)] [(.ref b3)])) _
    refine XS.aloadN X8.here hx rfl (hb hby d2_20) rfl rfl ?_
    show Steps p.tables e below (T8.setTop (mkF m 21 #[.val (.ref a), .val (.ref b), .val (.ref b3)] [(.ref a), (.ref b3)])) _
    refine lenA X8 hx hZ e8 G9 (n := (lp.length.toInt32)) ln12 (g := (mkF m 21 #[.val (.ref a), .val (.ref b), .val (.ref b3)] [(.ref a), (.ref b3)])) rfl rfl (hb hby d2_21) _ ?_
    show Steps p.tables e below (T8.setTop (mkF m 22 #[.val (.ref a), .val (.ref b), .val (.ref b3)] [(.int (lp.length.toInt32)), (.ref b3)])) _
    refine XS.iconst X8.here hx rfl (hb hby d2_22) ?_
    show Steps p.tables e below (T8.setTop (mkF m 23 #[.val (.ref a), .val (.ref b), .val (.ref b3)] [(.int (0 : Int32)), (.int (lp.length.toInt32)), (.ref b3)])) _
    refine st14 _ ?_
    show Steps p.tables e below (T14.setTop (mkF m 24 #[.val (.ref a), .val (.ref b), .val (.ref b3)] [])) _
    refine XS.aloadN X14.here hx rfl (hb hby d2_24) rfl rfl ?_
    show Steps p.tables e below (T14.setTop (mkF m 25 #[.val (.ref a), .val (.ref b), .val (.ref b3)] [(.ref b)])) _
    refine XS.iconst X14.here hx rfl (hb hby d2_25) ?_
    show Steps p.tables e below (T14.setTop (mkF m 26 #[.val (.ref a), .val (.ref b), .val (.ref b3)] [(.int (0 : Int32)), (.ref b)])) _
    refine XS.aloadN X14.here hx rfl (hb hby d2_26) rfl rfl ?_
    show Steps p.tables e below (T14.setTop (mkF m 27 #[.val (.ref a), .val (.ref b), .val (.ref b3)] [(.ref b3), (.int (0 : Int32)), (.ref b)])) _
    refine XS.aloadN X14.here hx rfl (hb hby d2_27) rfl rfl ?_
    show Steps p.tables e below (T14.setTop (mkF m 28 #[.val (.ref a), .val (.ref b), .val (.ref b3)] [(.ref a), (.ref b3), (.int (0 : Int32)), (.ref b)])) _
    refine lenA X14 hx hZ e14 G15 (n := (lp.length.toInt32)) ln18 (g := (mkF m 28 #[.val (.ref a), .val (.ref b), .val (.ref b3)] [(.ref a), (.ref b3), (.int (0 : Int32)), (.ref b)])) rfl rfl (hb hby d2_28) _ ?_
    show Steps p.tables e below (T14.setTop (mkF m 29 #[.val (.ref a), .val (.ref b), .val (.ref b3)] [(.int (lp.length.toInt32)), (.ref b3), (.int (0 : Int32)), (.ref b)])) _
    refine XS.iconst X14.here hx rfl (hb hby d2_29) ?_
    show Steps p.tables e below (T14.setTop (mkF m 30 #[.val (.ref a), .val (.ref b), .val (.ref b3)] [(.int (1 : Int32)), (.int (lp.length.toInt32)), (.ref b3), (.int (0 : Int32)), (.ref b)])) _
    refine XS.iadd X14.here hx rfl (hb hby d2_30) rfl ?_
    show Steps p.tables e below (T14.setTop (mkF m 31 #[.val (.ref a), .val (.ref b), .val (.ref b3)] [(.int ((lp.length.toInt32) + (1 : Int32))), (.ref b3), (.int (0 : Int32)), (.ref b)])) _
    refine XS.aloadN X14.here hx rfl (hb hby d2_31) rfl rfl ?_
    show Steps p.tables e below (T14.setTop (mkF m 32 #[.val (.ref a), .val (.ref b), .val (.ref b3)] [(.ref b), (.int ((lp.length.toInt32) + (1 : Int32))), (.ref b3), (.int (0 : Int32)), (.ref b)])) _
    refine lenA X14 hx hZ e14 G16 (n := (ls.length.toInt32)) ln19 (g := (mkF m 32 #[.val (.ref a), .val (.ref b), .val (.ref b3)] [(.ref b), (.int ((lp.length.toInt32) + (1 : Int32))), (.ref b3), (.int (0 : Int32)), (.ref b)])) rfl rfl (hb hby d2_32) _ ?_
    show Steps p.tables e below (T14.setTop (mkF m 33 #[.val (.ref a), .val (.ref b), .val (.ref b3)] [(.int (ls.length.toInt32)), (.int ((lp.length.toInt32) + (1 : Int32))), (.ref b3), (.int (0 : Int32)), (.ref b)])) _
    refine st20 _ ?_
    show Steps p.tables e below (T20.setTop (mkF m 36 #[.val (.ref a), .val (.ref b), .val (.ref b3)] [])) _
    refine XS.aloadN X20.here hx rfl (hb hby d2_36) rfl rfl ?_
    exact kt
  refine Go.fin X20 (v := some (.ref b3)) (fun h => by rw [Bd.returns] at h; cases h) Bd.notSynchronized ?_ (Nat.le_trans (Nat.add_le_add_right (Nat.le_refl 0) 1) (by decide)) (Nat.le_trans (Nat.add_le_add_right (Nat.le_refl 0) 7) (by decide)) (fun fs hr => X20.areturnOut hx rfl Bd.returns rfl (hb hby d2_37) hr)
  · show QwaiF Z a b lp ls h0 n0 _ T20.heap _
    rw [e20]
    exact ⟨b3, rfl, N20, K20, sz_b3, G23⟩
theorem own_ilt {k : Int32} {l : List Int32} (h0 : 0 ≤ k.toInt) (hl : l.length ≤ 7) (h : k < l.length.toInt32) : 0 ≤ k.toInt ∧ k.toInt < (l.length : Int) := by
  rw [Int32.lt_iff_toInt_lt, (own_L hl).1] at h; exact ⟨h0, h⟩
theorem own_ix2 {k : Int32} {lp ls : List Int32} (hk : 0 ≤ k.toInt) (hp : lp.length ≤ 3) (hs : ls.length ≤ 3) (hkl : k.toInt < (lp.length : Int) + 1 + ls.length) (h1 : ¬ k < lp.length.toInt32) (h2 : ¬ k = lp.length.toInt32) : ((k - lp.length.toInt32) - (1 : Int32)).toInt = k.toInt - lp.length - 1 ∧ 0 ≤ ((k - lp.length.toInt32) - (1 : Int32)).toInt ∧ ((k - lp.length.toInt32) - (1 : Int32)).toInt < (ls.length : Int) := by
  have q := (own_L (l := lp) (by omega)).1
  rw [Int32.lt_iff_toInt_lt, q] at h1
  have h2' : ¬ k.toInt = lp.length := fun e => h2 (Int32.toInt_inj.mp (by rw [e, q]))
  have k1 : (1 : Int32).toInt = 1 := rfl
  have e1 : (k - lp.length.toInt32).toInt = k.toInt - lp.length := by rw [own_sub (by omega) (by omega), q]
  have e2 : ((k - lp.length.toInt32) - (1 : Int32)).toInt = k.toInt - lp.length - 1 := by rw [own_sub (by omega) (by omega), e1, k1]
  omega
theorem d4_0 : decode method_4_code 0 = .ok (.iload_n 2, 1) := by decide +kernel
theorem d4_1 : decode method_4_code 1 = .ok (.aload_n 0, 1) := by decide +kernel
theorem d4_2 : decode method_4_code 2 = .ok (.arraylength, 1) := by decide +kernel
theorem d4_3 : decode method_4_code 3 = .ok (.if_icmp .ge 7, 3) := by decide +kernel
theorem d4_6 : decode method_4_code 6 = .ok (.aload_n 0, 1) := by decide +kernel
theorem d4_7 : decode method_4_code 7 = .ok (.iload_n 2, 1) := by decide +kernel
theorem d4_8 : decode method_4_code 8 = .ok (.baload, 1) := by decide +kernel
theorem d4_9 : decode method_4_code 9 = .ok (.ireturn, 1) := by decide +kernel
theorem d4_10 : decode method_4_code 10 = .ok (.iload_n 2, 1) := by decide +kernel
theorem d4_11 : decode method_4_code 11 = .ok (.aload_n 0, 1) := by decide +kernel
theorem d4_12 : decode method_4_code 12 = .ok (.arraylength, 1) := by decide +kernel
theorem d4_13 : decode method_4_code 13 = .ok (.if_icmp .ne 5, 3) := by decide +kernel
theorem d4_16 : decode method_4_code 16 = .ok (.iconst 0, 1) := by decide +kernel
theorem d4_17 : decode method_4_code 17 = .ok (.ireturn, 1) := by decide +kernel
theorem d4_18 : decode method_4_code 18 = .ok (.aload_n 1, 1) := by decide +kernel
theorem d4_19 : decode method_4_code 19 = .ok (.iload_n 2, 1) := by decide +kernel
theorem d4_20 : decode method_4_code 20 = .ok (.aload_n 0, 1) := by decide +kernel
theorem d4_21 : decode method_4_code 21 = .ok (.arraylength, 1) := by decide +kernel
theorem d4_22 : decode method_4_code 22 = .ok (.isub, 1) := by decide +kernel
theorem d4_23 : decode method_4_code 23 = .ok (.iconst 1, 1) := by decide +kernel
theorem d4_24 : decode method_4_code 24 = .ok (.isub, 1) := by decide +kernel
theorem d4_25 : decode method_4_code 25 = .ok (.baload, 1) := by decide +kernel
theorem d4_26 : decode method_4_code 26 = .ok (.ireturn, 1) := by decide +kernel
theorem ef_expF (m : MethodId) (x0 : Addr) (x1 : Addr) (x2 : Int32) : entryFrame m #[(.ref x0), (.ref x1), (.int x2)] 3 = mkF m 0 #[.val (.ref x0), .val (.ref x1), .val (.int x2)] [] := by first | (simp [entryFrame, mkF, argsToLocals, Value.category]; done) | rfl
def expF (k : Int32) (lp : List Int32) (ls : List Int32) : Int32 := (if k < (lp.length.toInt32) then (lp.getD k.toNatClampNeg (0 : Int32)) else (if k = (lp.length.toInt32) then (0 : Int32) else (ls.getD ((k - (lp.length.toInt32)) - (1 : Int32)).toNatClampNeg (0 : Int32))))
def QexpF (Z : State) (a : Addr) (b : Addr) (k : Int32) (lp : List Int32) (ls : List Int32) (RES : Int32) (h0 : Heap) (n0 : Nat) (v : Option Value) (h : Heap) (L : List Loc) : Prop := v = some (.int RES) ∧ Fr n0 L ∧ h = h0
set_option maxRecDepth 65536 in
set_option maxHeartbeats 40000000 in
theorem rm_expF (l : Launch) (Z : State) (a0 : Array Value) (hw : ∀ d ∈ tables_1, d.before a0 Z = true) (ws : List Jvm.Cond) (a : Addr) (b : Addr) (k : Int32) (lp : List Int32) (ls : List Int32) (h0 : Heap) (n0 : Nat) (Z0 : n0 ≤ h0.size) (F0 : VA Z h0 a .byte (lp.map Value.int)) (F1 : VA Z h0 b .byte (ls.map Value.int)) (hp : lp.length ≤ 3) (hs : ls.length ≤ 3) (hk : 0 ≤ k.toInt) (hkl : k.toInt < (lp.length : Int) + 1 + ls.length) :
    MetFree l (⟨"com/example/lane4/lane4/store/SharedFieldsWaitingEntryPinLaw", "expected", "([B[BI)I"⟩ : MethodName) (head1 (Jvm.Cond.code (⟨"com/example/lane4/lane4/store/SharedFieldsWaitingEntryPinLaw", "expected", "([B[BI)I"⟩ : MethodName) method_4_code 3 (some .int) :: ws) ({ frames := 0, cells := 0, slots := 0, locals := 0 } : Room)) (fun A_ U => A_ = #[(.ref a), (.ref b), (.int k)] ∧ Z.Warmed39 U.vm ∧ U.heap = h0) (fun _ _ _ _ _ => True) (fun _ U o U' => ∃ v L, o = .returned v ∧ QexpF Z a b k lp ls (expF k lp ls) h0 n0 v U'.heap L ∧ FrameEnd U o U' L ({ frames := 0, cells := 0, slots := 0, locals := 0 } : Room).cells ({ frames := 0, cells := 0, slots := 0, locals := 0 } : Room).slots) := by
  refine MetFree.of_bodySF (plainFor_of_name pn_0) hisR ?_
  intro p e s m args below meth c s₁ Bd hml0 hP hK
  obtain ⟨rfl, hZ, hh⟩ := hP
  have hx := Bd.exec
  have hby := Bd.bytes
  have hml : c.maxLocals = 3 := hml0
  have hown : s.vm.findClass "com/example/lane4/lane4/store/SharedFieldsWaitingEntryPinLaw" = some m.cls := findClass_of_methodNamed Bd.named
  have hnm := (name_of_methodNamed Bd.named Bd.method).1
  have X0 : Stand p l e ({ frames := 0, cells := 0, slots := 0, locals := 0 } : Room) s m #[(.ref a), (.ref b), (.int k)] below meth c s₁ [] 0 0 := Stand.of_body Bd
  have e0 : s₁.heap = h0 := by rw [← hh, Bd.state]; rfl
  have N0 := Fr.nil n0
  obtain ⟨RES, hf⟩ : ∃ z, z = expF k lp ls := ⟨_, rfl⟩
  rw [← hf]
  rw [expF] at hf
  suffices HGO : Go p e below s (QexpF Z a b k lp ls RES h0 n0) ({ frames := 0, cells := 0, slots := 0, locals := 0 } : Room).cells ({ frames := 0, cells := 0, slots := 0, locals := 0 } : Room).slots s₁ (mkF m 0 #[.val (.ref a), .val (.ref b), .val (.int k)] []) from Go.cast (ef_expF m a b k) HGO
  have ln1 : ((lp.map Value.int).length : Int) = ((lp.length.toInt32)).toInt := (by have q := F0.len; rw [List.length_map] at q; rw [len_toInt q, List.length_map])
  refine Go.step (T' := s₁) (f' := (mkF m 3 #[.val (.ref a), .val (.ref b), .val (.int k)] [(.int (lp.length.toInt32)), (.int k)])) (fun t kt => ?_) ?_
  · show Steps p.tables e below (s₁.setTop (mkF m 0 #[.val (.ref a), .val (.ref b), .val (.int k)] [])) _
    refine XS.iloadN X0.here hx rfl (hb hby d4_0) rfl ?_
    show Steps p.tables e below (s₁.setTop (mkF m 1 #[.val (.ref a), .val (.ref b), .val (.int k)] [(.int k)])) _
    refine XS.aloadN X0.here hx rfl (hb hby d4_1) rfl rfl ?_
    show Steps p.tables e below (s₁.setTop (mkF m 2 #[.val (.ref a), .val (.ref b), .val (.int k)] [(.ref a), (.int k)])) _
    refine lenA X0 hx hZ e0 F0 (n := (lp.length.toInt32)) ln1 (g := (mkF m 2 #[.val (.ref a), .val (.ref b), .val (.int k)] [(.ref a), (.int k)])) rfl rfl (hb hby d4_2) _ ?_
    exact kt
  by_cases hc2 : k < (lp.length.toInt32)
  · rw [if_pos hc2] at hf
    refine Go.step (T' := s₁) (f' := (mkF m 6 #[.val (.ref a), .val (.ref b), .val (.int k)] [])) (fun t kt => ?_) ?_
    · show Steps p.tables e below (s₁.setTop (mkF m 3 #[.val (.ref a), .val (.ref b), .val (.int k)] [(.int (lp.length.toInt32)), (.int k)])) _
      refine XS.icmpNo X0.here hx rfl (hb hby d4_3) rfl (tlt hc2).2.1 ?_
      exact kt
    have ix3 : 0 ≤ (k).toInt ∧ (k).toInt < ((lp).length : Int) := own_ilt hk (by omega) (by assumption)
    refine Go.step (T' := s₁) (f' := (mkF m 9 #[.val (.ref a), .val (.ref b), .val (.int k)] [(.int (lp.getD k.toNatClampNeg (0 : Int32)))])) (fun t kt => ?_) ?_
    · show Steps p.tables e below (s₁.setTop (mkF m 6 #[.val (.ref a), .val (.ref b), .val (.int k)] [])) _
      refine XS.aloadN X0.here hx rfl (hb hby d4_6) rfl rfl ?_
      show Steps p.tables e below (s₁.setTop (mkF m 7 #[.val (.ref a), .val (.ref b), .val (.int k)] [(.ref a)])) _
      refine XS.iloadN X0.here hx rfl (hb hby d4_7) rfl ?_
      show Steps p.tables e below (s₁.setTop (mkF m 8 #[.val (.ref a), .val (.ref b), .val (.int k)] [(.int k), (.ref a)])) _
      refine ldB X0 hx hZ e0 F0 ix3.1 ix3.2 (g := (mkF m 8 #[.val (.ref a), .val (.ref b), .val (.int k)] [(.int k), (.ref a)])) rfl rfl (hb hby d4_8) _ ?_
      exact kt
    refine Go.fin X0 (v := some (.int (lp.getD k.toNatClampNeg (0 : Int32)))) (fun h => by rw [Bd.returns] at h; cases h) Bd.notSynchronized ?_ (Nat.le_trans (Nat.le_refl 0) (by decide)) (Nat.le_trans (Nat.le_refl 0) (by decide)) (fun fs hr => retI X0 hx Bd.returns (hb hby d4_9) hr)
    · exact ⟨by rw [hf], N0, e0⟩
  · rw [if_neg hc2] at hf
    refine Go.step (T' := s₁) (f' := (mkF m 10 #[.val (.ref a), .val (.ref b), .val (.int k)] [])) (fun t kt => ?_) ?_
    · show Steps p.tables e below (s₁.setTop (mkF m 3 #[.val (.ref a), .val (.ref b), .val (.int k)] [(.int (lp.length.toInt32)), (.int k)])) _
      refine XS.icmpYes X0.here hx rfl (pc0 := 3) (pc' := 10) rfl (hb hby d4_3) rfl (flt hc2).2.1 (by decide) (by decide) ?_
      exact kt
    have ln4 : ((lp.map Value.int).length : Int) = ((lp.length.toInt32)).toInt := (by have q := F0.len; rw [List.length_map] at q; rw [len_toInt q, List.length_map])
    refine Go.step (T' := s₁) (f' := (mkF m 13 #[.val (.ref a), .val (.ref b), .val (.int k)] [(.int (lp.length.toInt32)), (.int k)])) (fun t kt => ?_) ?_
    · show Steps p.tables e below (s₁.setTop (mkF m 10 #[.val (.ref a), .val (.ref b), .val (.int k)] [])) _
      refine XS.iloadN X0.here hx rfl (hb hby d4_10) rfl ?_
      show Steps p.tables e below (s₁.setTop (mkF m 11 #[.val (.ref a), .val (.ref b), .val (.int k)] [(.int k)])) _
      refine XS.aloadN X0.here hx rfl (hb hby d4_11) rfl rfl ?_
      show Steps p.tables e below (s₁.setTop (mkF m 12 #[.val (.ref a), .val (.ref b), .val (.int k)] [(.ref a), (.int k)])) _
      refine lenA X0 hx hZ e0 F0 (n := (lp.length.toInt32)) ln4 (g := (mkF m 12 #[.val (.ref a), .val (.ref b), .val (.int k)] [(.ref a), (.int k)])) rfl rfl (hb hby d4_12) _ ?_
      exact kt
    by_cases hc5 : k = (lp.length.toInt32)
    · rw [if_pos hc5] at hf
      refine Go.step (T' := s₁) (f' := (mkF m 16 #[.val (.ref a), .val (.ref b), .val (.int k)] [])) (fun t kt => ?_) ?_
      · show Steps p.tables e below (s₁.setTop (mkF m 13 #[.val (.ref a), .val (.ref b), .val (.int k)] [(.int (lp.length.toInt32)), (.int k)])) _
        refine XS.icmpNo X0.here hx rfl (hb hby d4_13) rfl (teq hc5).2 ?_
        exact kt
      refine Go.step (T' := s₁) (f' := (mkF m 17 #[.val (.ref a), .val (.ref b), .val (.int k)] [(.int (0 : Int32))])) (fun t kt => ?_) ?_
      · show Steps p.tables e below (s₁.setTop (mkF m 16 #[.val (.ref a), .val (.ref b), .val (.int k)] [])) _
        refine XS.iconst X0.here hx rfl (hb hby d4_16) ?_
        exact kt
      refine Go.fin X0 (v := some (.int (0 : Int32))) (fun h => by rw [Bd.returns] at h; cases h) Bd.notSynchronized ?_ (Nat.le_trans (Nat.le_refl 0) (by decide)) (Nat.le_trans (Nat.le_refl 0) (by decide)) (fun fs hr => retI X0 hx Bd.returns (hb hby d4_17) hr)
      · exact ⟨by rw [hf], N0, e0⟩
    · rw [if_neg hc5] at hf
      refine Go.step (T' := s₁) (f' := (mkF m 18 #[.val (.ref a), .val (.ref b), .val (.int k)] [])) (fun t kt => ?_) ?_
      · show Steps p.tables e below (s₁.setTop (mkF m 13 #[.val (.ref a), .val (.ref b), .val (.int k)] [(.int (lp.length.toInt32)), (.int k)])) _
        refine XS.icmpYes X0.here hx rfl (pc0 := 13) (pc' := 18) rfl (hb hby d4_13) rfl (feq hc5).2 (by decide) (by decide) ?_
        exact kt
      have ln6 : ((lp.map Value.int).length : Int) = ((lp.length.toInt32)).toInt := (by have q := F0.len; rw [List.length_map] at q; rw [len_toInt q, List.length_map])
      have ix7 : 0 ≤ (((k - (lp.length.toInt32)) - (1 : Int32))).toInt ∧ (((k - (lp.length.toInt32)) - (1 : Int32))).toInt < ((ls).length : Int) := (own_ix2 hk hp hs hkl (by assumption) (by assumption)).2
      refine Go.step (T' := s₁) (f' := (mkF m 26 #[.val (.ref a), .val (.ref b), .val (.int k)] [(.int (ls.getD ((k - (lp.length.toInt32)) - (1 : Int32)).toNatClampNeg (0 : Int32)))])) (fun t kt => ?_) ?_
      · show Steps p.tables e below (s₁.setTop (mkF m 18 #[.val (.ref a), .val (.ref b), .val (.int k)] [])) _
        refine XS.aloadN X0.here hx rfl (hb hby d4_18) rfl rfl ?_
        show Steps p.tables e below (s₁.setTop (mkF m 19 #[.val (.ref a), .val (.ref b), .val (.int k)] [(.ref b)])) _
        refine XS.iloadN X0.here hx rfl (hb hby d4_19) rfl ?_
        show Steps p.tables e below (s₁.setTop (mkF m 20 #[.val (.ref a), .val (.ref b), .val (.int k)] [(.int k), (.ref b)])) _
        refine XS.aloadN X0.here hx rfl (hb hby d4_20) rfl rfl ?_
        show Steps p.tables e below (s₁.setTop (mkF m 21 #[.val (.ref a), .val (.ref b), .val (.int k)] [(.ref a), (.int k), (.ref b)])) _
        refine lenA X0 hx hZ e0 F0 (n := (lp.length.toInt32)) ln6 (g := (mkF m 21 #[.val (.ref a), .val (.ref b), .val (.int k)] [(.ref a), (.int k), (.ref b)])) rfl rfl (hb hby d4_21) _ ?_
        show Steps p.tables e below (s₁.setTop (mkF m 22 #[.val (.ref a), .val (.ref b), .val (.int k)] [(.int (lp.length.toInt32)), (.int k), (.ref b)])) _
        refine XS.isub X0.here hx rfl (hb hby d4_22) rfl ?_
        show Steps p.tables e below (s₁.setTop (mkF m 23 #[.val (.ref a), .val (.ref b), .val (.int k)] [(.int (k - (lp.length.toInt32))), (.ref b)])) _
        refine XS.iconst X0.here hx rfl (hb hby d4_23) ?_
        show Steps p.tables e below (s₁.setTop (mkF m 24 #[.val (.ref a), .val (.ref b), .val (.int k)] [(.int (1 : Int32)), (.int (k - (lp.length.toInt32))), (.ref b)])) _
        refine XS.isub X0.here hx rfl (hb hby d4_24) rfl ?_
        show Steps p.tables e below (s₁.setTop (mkF m 25 #[.val (.ref a), .val (.ref b), .val (.int k)] [(.int ((k - (lp.length.toInt32)) - (1 : Int32))), (.ref b)])) _
        refine ldB X0 hx hZ e0 F1 ix7.1 ix7.2 (g := (mkF m 25 #[.val (.ref a), .val (.ref b), .val (.int k)] [(.int ((k - (lp.length.toInt32)) - (1 : Int32))), (.ref b)])) rfl rfl (hb hby d4_25) _ ?_
        exact kt
      refine Go.fin X0 (v := some (.int (ls.getD ((k - (lp.length.toInt32)) - (1 : Int32)).toNatClampNeg (0 : Int32)))) (fun h => by rw [Bd.returns] at h; cases h) Bd.notSynchronized ?_ (Nat.le_trans (Nat.le_refl 0) (by decide)) (Nat.le_trans (Nat.le_refl 0) (by decide)) (fun fs hr => retI X0 hx Bd.returns (hb hby d4_26) hr)
      · exact ⟨by rw [hf], N0, e0⟩
theorem pd_0 : parseMethodDescriptor "([B[BI)I" = some ⟨[(.array .byte), (.array .byte), .int], some .int⟩ := by decide +kernel
theorem d3_0 : decode method_5_code 0 = .ok (.iload_n 3, 1) := by decide +kernel
theorem d3_1 : decode method_5_code 1 = .ok (.aload_n 0, 1) := by decide +kernel
theorem d3_2 : decode method_5_code 2 = .ok (.arraylength, 1) := by decide +kernel
theorem d3_3 : decode method_5_code 3 = .ok (.if_icmp .lt 5, 3) := by decide +kernel
theorem d3_6 : decode method_5_code 6 = .ok (.iconst 1, 1) := by decide +kernel
theorem d3_7 : decode method_5_code 7 = .ok (.ireturn, 1) := by decide +kernel
theorem d3_8 : decode method_5_code 8 = .ok (.aload_n 0, 1) := by decide +kernel
theorem d3_9 : decode method_5_code 9 = .ok (.iload_n 3, 1) := by decide +kernel
theorem d3_10 : decode method_5_code 10 = .ok (.baload, 1) := by decide +kernel
theorem d3_11 : decode method_5_code 11 = .ok (.aload_n 1, 1) := by decide +kernel
theorem d3_12 : decode method_5_code 12 = .ok (.aload_n 2, 1) := by decide +kernel
theorem d3_13 : decode method_5_code 13 = .ok (.iload_n 3, 1) := by decide +kernel
theorem d3_14 : decode method_5_code 14 = .ok (.invokestatic 27, 3) := by decide +kernel
theorem d3_17 : decode method_5_code 17 = .ok (.if_icmp .ne 7, 3) := by decide +kernel
theorem d3_20 : decode method_5_code 20 = .ok (.iconst 1, 1) := by decide +kernel
theorem d3_21 : decode method_5_code 21 = .ok (.goto 4, 3) := by decide +kernel
theorem d3_24 : decode method_5_code 24 = .ok (.iconst 0, 1) := by decide +kernel
theorem d3_25 : decode method_5_code 25 = .ok (.ireturn, 1) := by decide +kernel
theorem ef_atF (m : MethodId) (x0 : Addr) (x1 : Addr) (x2 : Addr) (x3 : Int32) : entryFrame m #[(.ref x0), (.ref x1), (.ref x2), (.int x3)] 4 = mkF m 0 #[.val (.ref x0), .val (.ref x1), .val (.ref x2), .val (.int x3)] [] := by first | (simp [entryFrame, mkF, argsToLocals, Value.category]; done) | rfl
def atF (k : Int32) (le : List Int32) (lp : List Int32) (ls : List Int32) : Int32 := (if k < (le.length.toInt32) then (if (le.getD k.toNatClampNeg (0 : Int32)) = (expF k lp ls) then (1 : Int32) else (0 : Int32)) else (1 : Int32))
def QatF (Z : State) (a : Addr) (b : Addr) (d : Addr) (k : Int32) (le : List Int32) (lp : List Int32) (ls : List Int32) (RES : Int32) (h0 : Heap) (n0 : Nat) (v : Option Value) (h : Heap) (L : List Loc) : Prop := v = some (.int RES) ∧ Fr n0 L ∧ h = h0
set_option maxRecDepth 65536 in
set_option maxHeartbeats 40000000 in
theorem rm_atF (l : Launch) (Z : State) (a0 : Array Value) (hw : ∀ d ∈ tables_1, d.before a0 Z = true) (ws : List Jvm.Cond) (a : Addr) (b : Addr) (d : Addr) (k : Int32) (le : List Int32) (lp : List Int32) (ls : List Int32) (h0 : Heap) (n0 : Nat) (Z0 : n0 ≤ h0.size) (F0 : VA Z h0 a .byte (le.map Value.int)) (F1 : VA Z h0 b .byte (lp.map Value.int)) (F2 : VA Z h0 d .byte (ls.map Value.int)) (hp : lp.length ≤ 3) (hs : ls.length ≤ 3) (hk : 0 ≤ k.toInt) (hle : le.length = lp.length + 1 + ls.length) :
    MetFree l (⟨"com/example/lane4/lane4/store/SharedFieldsWaitingEntryPinLaw", "at", "([B[B[BI)Z"⟩ : MethodName) (head1 (Jvm.Cond.code (⟨"com/example/lane4/lane4/store/SharedFieldsWaitingEntryPinLaw", "at", "([B[B[BI)Z"⟩ : MethodName) method_5_code 4 (some .boolean) :: ws) ({ frames := 1, cells := 0, slots := 0, locals := 15 } : Room)) (fun A_ U => A_ = #[(.ref a), (.ref b), (.ref d), (.int k)] ∧ Z.Warmed39 U.vm ∧ U.heap = h0) (fun _ _ _ _ _ => True) (fun _ U o U' => ∃ v L, o = .returned v ∧ QatF Z a b d k le lp ls (atF k le lp ls) h0 n0 v U'.heap L ∧ FrameEnd U o U' L ({ frames := 1, cells := 0, slots := 0, locals := 15 } : Room).cells ({ frames := 1, cells := 0, slots := 0, locals := 15 } : Room).slots) := by
  refine MetFree.of_bodySF (plainFor_of_name pn_0) hisR ?_
  intro p e s m args below meth c s₁ Bd hml0 hP hK
  obtain ⟨rfl, hZ, hh⟩ := hP
  have hx := Bd.exec
  have hby := Bd.bytes
  have hml : c.maxLocals = 4 := hml0
  have hown : s.vm.findClass "com/example/lane4/lane4/store/SharedFieldsWaitingEntryPinLaw" = some m.cls := findClass_of_methodNamed Bd.named
  have hnm := (name_of_methodNamed Bd.named Bd.method).1
  have X0 : Stand p l e ({ frames := 1, cells := 0, slots := 0, locals := 15 } : Room) s m #[(.ref a), (.ref b), (.ref d), (.int k)] below meth c s₁ [] 0 0 := Stand.of_body Bd
  have e0 : s₁.heap = h0 := by rw [← hh, Bd.state]; rfl
  have N0 := Fr.nil n0
  obtain ⟨RES, hf⟩ : ∃ z, z = atF k le lp ls := ⟨_, rfl⟩
  rw [← hf]
  rw [atF] at hf
  suffices HGO : Go p e below s (QatF Z a b d k le lp ls RES h0 n0) ({ frames := 1, cells := 0, slots := 0, locals := 15 } : Room).cells ({ frames := 1, cells := 0, slots := 0, locals := 15 } : Room).slots s₁ (mkF m 0 #[.val (.ref a), .val (.ref b), .val (.ref d), .val (.int k)] []) from Go.cast (ef_atF m a b d k) HGO
  have ln1 : ((le.map Value.int).length : Int) = ((le.length.toInt32)).toInt := (by have q := F0.len; rw [List.length_map] at q; rw [len_toInt q, List.length_map])
  refine Go.step (T' := s₁) (f' := (mkF m 3 #[.val (.ref a), .val (.ref b), .val (.ref d), .val (.int k)] [(.int (le.length.toInt32)), (.int k)])) (fun t kt => ?_) ?_
  · show Steps p.tables e below (s₁.setTop (mkF m 0 #[.val (.ref a), .val (.ref b), .val (.ref d), .val (.int k)] [])) _
    refine XS.iloadN X0.here hx rfl (hb hby d3_0) rfl ?_
    show Steps p.tables e below (s₁.setTop (mkF m 1 #[.val (.ref a), .val (.ref b), .val (.ref d), .val (.int k)] [(.int k)])) _
    refine XS.aloadN X0.here hx rfl (hb hby d3_1) rfl rfl ?_
    show Steps p.tables e below (s₁.setTop (mkF m 2 #[.val (.ref a), .val (.ref b), .val (.ref d), .val (.int k)] [(.ref a), (.int k)])) _
    refine lenA X0 hx hZ e0 F0 (n := (le.length.toInt32)) ln1 (g := (mkF m 2 #[.val (.ref a), .val (.ref b), .val (.ref d), .val (.int k)] [(.ref a), (.int k)])) rfl rfl (hb hby d3_2) _ ?_
    exact kt
  by_cases hc2 : k < (le.length.toInt32)
  · rw [if_pos hc2] at hf
    refine Go.step (T' := s₁) (f' := (mkF m 8 #[.val (.ref a), .val (.ref b), .val (.ref d), .val (.int k)] [])) (fun t kt => ?_) ?_
    · show Steps p.tables e below (s₁.setTop (mkF m 3 #[.val (.ref a), .val (.ref b), .val (.ref d), .val (.int k)] [(.int (le.length.toInt32)), (.int k)])) _
      refine XS.icmpYes X0.here hx rfl (pc0 := 3) (pc' := 8) rfl (hb hby d3_3) rfl (tlt hc2).1 (by decide) (by decide) ?_
      exact kt
    have ix3 : 0 ≤ (k).toInt ∧ (k).toInt < ((le).length : Int) := own_ilt hk (by omega) (by assumption)
    obtain ⟨_, _, ⟨T4, L4, k4, n4⟩, -, X4, ⟨Lc4, hQ4, l4, y4, z4⟩, st4⟩ := Jvm.LawKit.callS X0 hx (y := (⟨"com/example/lane4/lane4/store/SharedFieldsWaitingEntryPinLaw", "expected", "([B[BI)I"⟩ : MethodName)) hown (mvT hZ (hw _ (List.mem_of_getElem? (i := 16) rfl))) (mvT hZ (hw _ (List.mem_of_getElem? (i := 17) rfl))) (mvT hZ (hw _ (List.mem_of_getElem? (i := 2) rfl))) (mvT hZ (hw _ (List.mem_of_getElem? (i := 18) rfl))) (by decide) (backOf (W := 1) (rm_expF l Z a0 hw [] b d k lp ls h0 n0 Z0 F1 F2 hp hs hk (by have q := own_ilt hk (by omega : le.length ≤ 7) (by assumption); omega)) hZ (hw _ (List.mem_of_getElem? (i := 18) rfl)) (hw _ (List.mem_of_getElem? (i := 2) rfl)) (by decide) (by decide)) (g := (mkF m 14 #[.val (.ref a), .val (.ref b), .val (.ref d), .val (.int k)] [(.int k), (.ref d), (.ref b), (.int (le.getD k.toNatClampNeg (0 : Int32)))])) rfl (by rw [hml]; rfl) (argsL := [(.ref b), (.ref d), (.int k)]) (rest := [(.int (le.getD k.toNatClampNeg (0 : Int32)))]) (lenOf pd_0 rfl) rfl (by show 2 * 0 + _ ≤ _; exact Nat.le_of_eq rfl) (hb hby d3_14) (fun _ _ => ⟨rfl, e0, (Nat.le_trans (Nat.add_le_add_right (Nat.le_refl 0) 0) (by decide)), (Nat.le_trans (Nat.add_le_add_right (Nat.le_refl 0) 0) (by decide))⟩)
    dsimp only [Pt.U, Pt.locs, Pt.cells, Pt.slots] at X4 l4 y4 z4 st4 hQ4
    subst l4 y4 z4
    obtain ⟨rfl, N4q, e4⟩ := hQ4
    have N4 := Fr.app N0 N4q
    refine Go.step (T' := T4) (f' := (mkF m 17 #[.val (.ref a), .val (.ref b), .val (.ref d), .val (.int k)] [(.int (expF k lp ls)), (.int (le.getD k.toNatClampNeg (0 : Int32)))])) (fun t kt => ?_) ?_
    · show Steps p.tables e below (s₁.setTop (mkF m 8 #[.val (.ref a), .val (.ref b), .val (.ref d), .val (.int k)] [])) _
      refine XS.aloadN X0.here hx rfl (hb hby d3_8) rfl rfl ?_
      show Steps p.tables e below (s₁.setTop (mkF m 9 #[.val (.ref a), .val (.ref b), .val (.ref d), .val (.int k)] [(.ref a)])) _
      refine XS.iloadN X0.here hx rfl (hb hby d3_9) rfl ?_
      show Steps p.tables e below (s₁.setTop (mkF m 10 #[.val (.ref a), .val (.ref b), .val (.ref d), .val (.int k)] [(.int k), (.ref a)])) _
      refine ldB X0 hx hZ e0 F0 ix3.1 ix3.2 (g := (mkF m 10 #[.val (.ref a), .val (.ref b), .val (.ref d), .val (.int k)] [(.int k), (.ref a)])) rfl rfl (hb hby d3_10) _ ?_
      show Steps p.tables e below (s₁.setTop (mkF m 11 #[.val (.ref a), .val (.ref b), .val (.ref d), .val (.int k)] [(.int (le.getD k.toNatClampNeg (0 : Int32)))])) _
      refine XS.aloadN X0.here hx rfl (hb hby d3_11) rfl rfl ?_
      show Steps p.tables e below (s₁.setTop (mkF m 12 #[.val (.ref a), .val (.ref b), .val (.ref d), .val (.int k)] [(.ref b), (.int (le.getD k.toNatClampNeg (0 : Int32)))])) _
      refine XS.aloadN X0.here hx rfl (hb hby d3_12) rfl rfl ?_
      show Steps p.tables e below (s₁.setTop (mkF m 13 #[.val (.ref a), .val (.ref b), .val (.ref d), .val (.int k)] [(.ref d), (.ref b), (.int (le.getD k.toNatClampNeg (0 : Int32)))])) _
      refine XS.iloadN X0.here hx rfl (hb hby d3_13) rfl ?_
      show Steps p.tables e below (s₁.setTop (mkF m 14 #[.val (.ref a), .val (.ref b), .val (.ref d), .val (.int k)] [(.int k), (.ref d), (.ref b), (.int (le.getD k.toNatClampNeg (0 : Int32)))])) _
      refine st4 _ ?_
      exact kt
    by_cases hc5 : (le.getD k.toNatClampNeg (0 : Int32)) = (expF k lp ls)
    · rw [if_pos hc5] at hf
      refine Go.step (T' := T4) (f' := (mkF m 20 #[.val (.ref a), .val (.ref b), .val (.ref d), .val (.int k)] [])) (fun t kt => ?_) ?_
      · show Steps p.tables e below (T4.setTop (mkF m 17 #[.val (.ref a), .val (.ref b), .val (.ref d), .val (.int k)] [(.int (expF k lp ls)), (.int (le.getD k.toNatClampNeg (0 : Int32)))])) _
        refine XS.icmpNo X4.here hx rfl (hb hby d3_17) rfl (teq hc5).2 ?_
        exact kt
      refine Go.step (T' := T4) (f' := (mkF m 25 #[.val (.ref a), .val (.ref b), .val (.ref d), .val (.int k)] [(.int (1 : Int32))])) (fun t kt => ?_) ?_
      · show Steps p.tables e below (T4.setTop (mkF m 20 #[.val (.ref a), .val (.ref b), .val (.ref d), .val (.int k)] [])) _
        refine XS.iconst X4.here hx rfl (hb hby d3_20) ?_
        show Steps p.tables e below (T4.setTop (mkF m 21 #[.val (.ref a), .val (.ref b), .val (.ref d), .val (.int k)] [(.int (1 : Int32))])) _
        refine XS.goto X4.here hx rfl (pc0 := 21) (pc' := 25) rfl (hb hby d3_21) (by decide) (by decide) ?_
        exact kt
      refine Go.fin X4 (v := some (.int (1 : Int32))) (fun h => by rw [Bd.returns] at h; cases h) Bd.notSynchronized ?_ (Nat.le_trans (Nat.add_le_add_right (Nat.le_refl 0) 0) (by decide)) (Nat.le_trans (Nat.add_le_add_right (Nat.le_refl 0) 0) (by decide)) (fun fs hr => retN X4 hx (t := .boolean) Bd.returns (by simp) (hb hby d3_25) hr)
      · exact ⟨by rw [hf], N4, e4⟩
    · rw [if_neg hc5] at hf
      refine Go.step (T' := T4) (f' := (mkF m 24 #[.val (.ref a), .val (.ref b), .val (.ref d), .val (.int k)] [])) (fun t kt => ?_) ?_
      · show Steps p.tables e below (T4.setTop (mkF m 17 #[.val (.ref a), .val (.ref b), .val (.ref d), .val (.int k)] [(.int (expF k lp ls)), (.int (le.getD k.toNatClampNeg (0 : Int32)))])) _
        refine XS.icmpYes X4.here hx rfl (pc0 := 17) (pc' := 24) rfl (hb hby d3_17) rfl (feq hc5).2 (by decide) (by decide) ?_
        exact kt
      refine Go.step (T' := T4) (f' := (mkF m 25 #[.val (.ref a), .val (.ref b), .val (.ref d), .val (.int k)] [(.int (0 : Int32))])) (fun t kt => ?_) ?_
      · show Steps p.tables e below (T4.setTop (mkF m 24 #[.val (.ref a), .val (.ref b), .val (.ref d), .val (.int k)] [])) _
        refine XS.iconst X4.here hx rfl (hb hby d3_24) ?_
        exact kt
      refine Go.fin X4 (v := some (.int (0 : Int32))) (fun h => by rw [Bd.returns] at h; cases h) Bd.notSynchronized ?_ (Nat.le_trans (Nat.add_le_add_right (Nat.le_refl 0) 0) (by decide)) (Nat.le_trans (Nat.add_le_add_right (Nat.le_refl 0) 0) (by decide)) (fun fs hr => retN X4 hx (t := .boolean) Bd.returns (by simp) (hb hby d3_25) hr)
      · exact ⟨by rw [hf], N4, e4⟩
  · rw [if_neg hc2] at hf
    refine Go.step (T' := s₁) (f' := (mkF m 6 #[.val (.ref a), .val (.ref b), .val (.ref d), .val (.int k)] [])) (fun t kt => ?_) ?_
    · show Steps p.tables e below (s₁.setTop (mkF m 3 #[.val (.ref a), .val (.ref b), .val (.ref d), .val (.int k)] [(.int (le.length.toInt32)), (.int k)])) _
      refine XS.icmpNo X0.here hx rfl (hb hby d3_3) rfl (flt hc2).1 ?_
      exact kt
    refine Go.step (T' := s₁) (f' := (mkF m 7 #[.val (.ref a), .val (.ref b), .val (.ref d), .val (.int k)] [(.int (1 : Int32))])) (fun t kt => ?_) ?_
    · show Steps p.tables e below (s₁.setTop (mkF m 6 #[.val (.ref a), .val (.ref b), .val (.ref d), .val (.int k)] [])) _
      refine XS.iconst X0.here hx rfl (hb hby d3_6) ?_
      exact kt
    refine Go.fin X0 (v := some (.int (1 : Int32))) (fun h => by rw [Bd.returns] at h; cases h) Bd.notSynchronized ?_ (Nat.le_trans (Nat.le_refl 0) (by decide)) (Nat.le_trans (Nat.le_refl 0) (by decide)) (fun fs hr => retN X0 hx (t := .boolean) Bd.returns (by simp) (hb hby d3_7) hr)
    · exact ⟨by rw [hf], N0, e0⟩
theorem own_u {l : List Int32} {k : Int32} (h : l.length ≤ 3) (h0 : 0 ≤ k.toInt) (n : Int32) (hn : n.toInt = k.toInt + 1) (q : ¬ l.length.toInt32 < n) : 0 ≤ k.toInt ∧ k.toInt < (l.length : Int) := by
  rw [Int32.lt_iff_toInt_lt, (own_L (l := l) (by omega)).1] at q; omega
theorem d5_0 : decode method_6_code 0 = .ok (.aload_n 0, 1) := by decide +kernel
theorem d5_1 : decode method_6_code 1 = .ok (.arraylength, 1) := by decide +kernel
theorem d5_2 : decode method_6_code 2 = .ok (.iconst 1, 1) := by decide +kernel
theorem d5_3 : decode method_6_code 3 = .ok (.if_icmp .lt 11, 3) := by decide +kernel
theorem d5_6 : decode method_6_code 6 = .ok (.aload_n 0, 1) := by decide +kernel
theorem d5_7 : decode method_6_code 7 = .ok (.iconst 0, 1) := by decide +kernel
theorem d5_8 : decode method_6_code 8 = .ok (.baload, 1) := by decide +kernel
theorem d5_9 : decode method_6_code 9 = .ok (.iload_n 1, 1) := by decide +kernel
theorem d5_10 : decode method_6_code 10 = .ok (.i2b, 1) := by decide +kernel
theorem d5_11 : decode method_6_code 11 = .ok (.if_icmp .ne 41, 3) := by decide +kernel
theorem d5_14 : decode method_6_code 14 = .ok (.aload_n 0, 1) := by decide +kernel
theorem d5_15 : decode method_6_code 15 = .ok (.arraylength, 1) := by decide +kernel
theorem d5_16 : decode method_6_code 16 = .ok (.iconst 2, 1) := by decide +kernel
theorem d5_17 : decode method_6_code 17 = .ok (.if_icmp .lt 14, 3) := by decide +kernel
theorem d5_20 : decode method_6_code 20 = .ok (.aload_n 0, 1) := by decide +kernel
theorem d5_21 : decode method_6_code 21 = .ok (.iconst 1, 1) := by decide +kernel
theorem d5_22 : decode method_6_code 22 = .ok (.baload, 1) := by decide +kernel
theorem d5_23 : decode method_6_code 23 = .ok (.iload_n 1, 1) := by decide +kernel
theorem d5_24 : decode method_6_code 24 = .ok (.bipush 8, 2) := by decide +kernel
theorem d5_26 : decode method_6_code 26 = .ok (.iushr, 1) := by decide +kernel
theorem d5_27 : decode method_6_code 27 = .ok (.i2b, 1) := by decide +kernel
theorem d5_28 : decode method_6_code 28 = .ok (.if_icmp .ne 24, 3) := by decide +kernel
theorem d5_31 : decode method_6_code 31 = .ok (.aload_n 0, 1) := by decide +kernel
theorem d5_32 : decode method_6_code 32 = .ok (.arraylength, 1) := by decide +kernel
theorem d5_33 : decode method_6_code 33 = .ok (.iconst 3, 1) := by decide +kernel
theorem d5_34 : decode method_6_code 34 = .ok (.if_icmp .lt 14, 3) := by decide +kernel
theorem d5_37 : decode method_6_code 37 = .ok (.aload_n 0, 1) := by decide +kernel
theorem d5_38 : decode method_6_code 38 = .ok (.iconst 2, 1) := by decide +kernel
theorem d5_39 : decode method_6_code 39 = .ok (.baload, 1) := by decide +kernel
theorem d5_40 : decode method_6_code 40 = .ok (.iload_n 1, 1) := by decide +kernel
theorem d5_41 : decode method_6_code 41 = .ok (.bipush 16, 2) := by decide +kernel
theorem d5_43 : decode method_6_code 43 = .ok (.iushr, 1) := by decide +kernel
theorem d5_44 : decode method_6_code 44 = .ok (.i2b, 1) := by decide +kernel
theorem d5_45 : decode method_6_code 45 = .ok (.if_icmp .ne 7, 3) := by decide +kernel
theorem d5_48 : decode method_6_code 48 = .ok (.iconst 1, 1) := by decide +kernel
theorem d5_49 : decode method_6_code 49 = .ok (.goto 4, 3) := by decide +kernel
theorem d5_52 : decode method_6_code 52 = .ok (.iconst 0, 1) := by decide +kernel
theorem d5_53 : decode method_6_code 53 = .ok (.ireturn, 1) := by decide +kernel
theorem ef_unF (m : MethodId) (x0 : Addr) (x1 : Int32) : entryFrame m #[(.ref x0), (.int x1)] 2 = mkF m 0 #[.val (.ref x0), .val (.int x1)] [] := by first | (simp [entryFrame, mkF, argsToLocals, Value.category]; done) | rfl
def unF_48   : Int32 := (1 : Int32)
def unF_31 (q : Int32) (lp : List Int32)  : Int32 := (if (lp.length.toInt32) < (3 : Int32) then (unF_48  ) else (if (lp.getD 2 (0 : Int32)) = (((q.toUInt32 >>> ((16 : Int32) &&& 31).toUInt32).toInt32).toInt8.toInt32) then (unF_48  ) else (0 : Int32)))
def unF_14 (q : Int32) (lp : List Int32)  : Int32 := (if (lp.length.toInt32) < (2 : Int32) then (unF_31 q lp ) else (if (lp.getD 1 (0 : Int32)) = (((q.toUInt32 >>> ((8 : Int32) &&& 31).toUInt32).toInt32).toInt8.toInt32) then (unF_31 q lp ) else (0 : Int32)))
def unF (q : Int32) (lp : List Int32) : Int32 := (if (lp.length.toInt32) < (1 : Int32) then (unF_14 q lp ) else (if (lp.getD 0 (0 : Int32)) = (q.toInt8.toInt32) then (unF_14 q lp ) else (0 : Int32)))
def QunF (Z : State) (a : Addr) (q : Int32) (lp : List Int32) (RES : Int32) (h0 : Heap) (n0 : Nat) (v : Option Value) (h : Heap) (L : List Loc) : Prop := v = some (.int RES) ∧ Fr n0 L ∧ h = h0
set_option maxRecDepth 65536 in
set_option maxHeartbeats 40000000 in
theorem rm_unF (l : Launch) (Z : State) (a0 : Array Value) (hw : ∀ d ∈ tables_1, d.before a0 Z = true) (ws : List Jvm.Cond) (a : Addr) (q : Int32) (lp : List Int32) (h0 : Heap) (n0 : Nat) (Z0 : n0 ≤ h0.size) (F0 : VA Z h0 a .byte (lp.map Value.int)) (hp : lp.length ≤ 3) :
    MetFree l (⟨"com/example/lane4/lane4/store/SharedFieldsWaitingEntryPinLaw", "unchanged", "([BI)Z"⟩ : MethodName) (head1 (Jvm.Cond.code (⟨"com/example/lane4/lane4/store/SharedFieldsWaitingEntryPinLaw", "unchanged", "([BI)Z"⟩ : MethodName) method_6_code 2 (some .boolean) :: ws) ({ frames := 0, cells := 0, slots := 0, locals := 0 } : Room)) (fun A_ U => A_ = #[(.ref a), (.int q)] ∧ Z.Warmed39 U.vm ∧ U.heap = h0) (fun _ _ _ _ _ => True) (fun _ U o U' => ∃ v L, o = .returned v ∧ QunF Z a q lp (unF q lp) h0 n0 v U'.heap L ∧ FrameEnd U o U' L ({ frames := 0, cells := 0, slots := 0, locals := 0 } : Room).cells ({ frames := 0, cells := 0, slots := 0, locals := 0 } : Room).slots) := by
  refine MetFree.of_bodySF (plainFor_of_name pn_0) hisR ?_
  intro p e s m args below meth c s₁ Bd hml0 hP hK
  obtain ⟨rfl, hZ, hh⟩ := hP
  have hx := Bd.exec
  have hby := Bd.bytes
  have hml : c.maxLocals = 2 := hml0
  have hown : s.vm.findClass "com/example/lane4/lane4/store/SharedFieldsWaitingEntryPinLaw" = some m.cls := findClass_of_methodNamed Bd.named
  have hnm := (name_of_methodNamed Bd.named Bd.method).1
  have X0 : Stand p l e ({ frames := 0, cells := 0, slots := 0, locals := 0 } : Room) s m #[(.ref a), (.int q)] below meth c s₁ [] 0 0 := Stand.of_body Bd
  have e0 : s₁.heap = h0 := by rw [← hh, Bd.state]; rfl
  have N0 := Fr.nil n0
  obtain ⟨RES, hf⟩ : ∃ z, z = unF q lp := ⟨_, rfl⟩
  rw [← hf]
  rw [unF] at hf
  suffices HGO : Go p e below s (QunF Z a q lp RES h0 n0) ({ frames := 0, cells := 0, slots := 0, locals := 0 } : Room).cells ({ frames := 0, cells := 0, slots := 0, locals := 0 } : Room).slots s₁ (mkF m 0 #[.val (.ref a), .val (.int q)] []) from Go.cast (ef_unF m a q) HGO
  have S48 : ∀ (T : State) (locs : List Loc) (cells slots : Nat) (X : Stand p l e ({ frames := 0, cells := 0, slots := 0, locals := 0 } : Room) s m #[(.ref a), (.int q)] below meth c T locs cells slots) (hcl : cells ≤ 0) (hsl : slots ≤ 0) (eT : T.heap = h0) (N : Fr n0 locs)   (hf : RES = unF_48  ), Go p e below s (QunF Z a q lp RES h0 n0) ({ frames := 0, cells := 0, slots := 0, locals := 0 } : Room).cells ({ frames := 0, cells := 0, slots := 0, locals := 0 } : Room).slots T (mkF m 48 #[.val (.ref a), .val (.int q)] []) := by
    intro T locs cells slots X hcl hsl eT N hf
    rw [unF_48] at hf
    refine Go.step (T' := T) (f' := (mkF m 53 #[.val (.ref a), .val (.int q)] [(.int (1 : Int32))])) (fun t kt => ?_) ?_
    · show Steps p.tables e below (T.setTop (mkF m 48 #[.val (.ref a), .val (.int q)] [])) _
      refine XS.iconst X.here hx rfl (hb hby d5_48) ?_
      show Steps p.tables e below (T.setTop (mkF m 49 #[.val (.ref a), .val (.int q)] [(.int (1 : Int32))])) _
      refine XS.goto X.here hx rfl (pc0 := 49) (pc' := 53) rfl (hb hby d5_49) (by decide) (by decide) ?_
      exact kt
    refine Go.fin X (v := some (.int (1 : Int32))) (fun h => by rw [Bd.returns] at h; cases h) Bd.notSynchronized ?_ (Nat.le_trans hcl (by decide)) (Nat.le_trans hsl (by decide)) (fun fs hr => retN X hx (t := .boolean) Bd.returns (by simp) (hb hby d5_53) hr)
    · exact ⟨by rw [hf], N, eT⟩
  have S31 : ∀ (T : State) (locs : List Loc) (cells slots : Nat) (X : Stand p l e ({ frames := 0, cells := 0, slots := 0, locals := 0 } : Room) s m #[(.ref a), (.int q)] below meth c T locs cells slots) (hcl : cells ≤ 0) (hsl : slots ≤ 0) (eT : T.heap = h0) (N : Fr n0 locs)   (hf : RES = unF_31 q lp ), Go p e below s (QunF Z a q lp RES h0 n0) ({ frames := 0, cells := 0, slots := 0, locals := 0 } : Room).cells ({ frames := 0, cells := 0, slots := 0, locals := 0 } : Room).slots T (mkF m 31 #[.val (.ref a), .val (.int q)] []) := by
    intro T locs cells slots X hcl hsl eT N hf
    rw [unF_31] at hf
    have ln1 : ((lp.map Value.int).length : Int) = ((lp.length.toInt32)).toInt := (by have q := F0.len; rw [List.length_map] at q; rw [len_toInt q, List.length_map])
    refine Go.step (T' := T) (f' := (mkF m 34 #[.val (.ref a), .val (.int q)] [(.int (3 : Int32)), (.int (lp.length.toInt32))])) (fun t kt => ?_) ?_
    · show Steps p.tables e below (T.setTop (mkF m 31 #[.val (.ref a), .val (.int q)] [])) _
      refine XS.aloadN X.here hx rfl (hb hby d5_31) rfl rfl ?_
      show Steps p.tables e below (T.setTop (mkF m 32 #[.val (.ref a), .val (.int q)] [(.ref a)])) _
      refine lenA X hx hZ eT F0 (n := (lp.length.toInt32)) ln1 (g := (mkF m 32 #[.val (.ref a), .val (.int q)] [(.ref a)])) rfl rfl (hb hby d5_32) _ ?_
      show Steps p.tables e below (T.setTop (mkF m 33 #[.val (.ref a), .val (.int q)] [(.int (lp.length.toInt32))])) _
      refine XS.iconst X.here hx rfl (hb hby d5_33) ?_
      exact kt
    by_cases hc2 : (lp.length.toInt32) < (3 : Int32)
    · rw [if_pos hc2] at hf
      refine Go.step (T' := T) (f' := (mkF m 48 #[.val (.ref a), .val (.int q)] [])) (fun t kt => ?_) ?_
      · show Steps p.tables e below (T.setTop (mkF m 34 #[.val (.ref a), .val (.int q)] [(.int (3 : Int32)), (.int (lp.length.toInt32))])) _
        refine XS.icmpYes X.here hx rfl (pc0 := 34) (pc' := 48) rfl (hb hby d5_34) rfl (tlt hc2).1 (by decide) (by decide) ?_
        exact kt
      exact S48 _ _ _ _ X (Nat.le_trans hcl (by decide)) (Nat.le_trans hsl (by decide)) eT N hf
    · rw [if_neg hc2] at hf
      refine Go.step (T' := T) (f' := (mkF m 37 #[.val (.ref a), .val (.int q)] [])) (fun t kt => ?_) ?_
      · show Steps p.tables e below (T.setTop (mkF m 34 #[.val (.ref a), .val (.int q)] [(.int (3 : Int32)), (.int (lp.length.toInt32))])) _
        refine XS.icmpNo X.here hx rfl (hb hby d5_34) rfl (flt hc2).1 ?_
        exact kt
      have ix3 : 0 ≤ ((2 : Int32)).toInt ∧ ((2 : Int32)).toInt < ((lp).length : Int) := (own_u hp (by decide) 3 (by decide) (by assumption))
      refine Go.step (T' := T) (f' := (mkF m 45 #[.val (.ref a), .val (.int q)] [(.int (((q.toUInt32 >>> ((16 : Int32) &&& 31).toUInt32).toInt32).toInt8.toInt32)), (.int (lp.getD 2 (0 : Int32)))])) (fun t kt => ?_) ?_
      · show Steps p.tables e below (T.setTop (mkF m 37 #[.val (.ref a), .val (.int q)] [])) _
        refine XS.aloadN X.here hx rfl (hb hby d5_37) rfl rfl ?_
        show Steps p.tables e below (T.setTop (mkF m 38 #[.val (.ref a), .val (.int q)] [(.ref a)])) _
        refine XS.iconst X.here hx rfl (hb hby d5_38) ?_
        show Steps p.tables e below (T.setTop (mkF m 39 #[.val (.ref a), .val (.int q)] [(.int (2 : Int32)), (.ref a)])) _
        refine ldB X hx hZ eT F0 ix3.1 ix3.2 (g := (mkF m 39 #[.val (.ref a), .val (.int q)] [(.int (2 : Int32)), (.ref a)])) rfl rfl (hb hby d5_39) _ ?_
        show Steps p.tables e below (T.setTop (mkF m 40 #[.val (.ref a), .val (.int q)] [(.int (lp.getD 2 (0 : Int32)))])) _
        refine XS.iloadN X.here hx rfl (hb hby d5_40) rfl ?_
        show Steps p.tables e below (T.setTop (mkF m 41 #[.val (.ref a), .val (.int q)] [(.int q), (.int (lp.getD 2 (0 : Int32)))])) _
        refine XS.bipush X.here hx rfl (hb hby d5_41) ?_
        show Steps p.tables e below (T.setTop (mkF m 43 #[.val (.ref a), .val (.int q)] [(.int (16 : Int32)), (.int q), (.int (lp.getD 2 (0 : Int32)))])) _
        refine XS.iushr X.here hx rfl (hb hby d5_43) rfl ?_
        show Steps p.tables e below (T.setTop (mkF m 44 #[.val (.ref a), .val (.int q)] [(.int ((q.toUInt32 >>> ((16 : Int32) &&& 31).toUInt32).toInt32)), (.int (lp.getD 2 (0 : Int32)))])) _
        refine XS.i2b X.here hx rfl (hb hby d5_44) rfl ?_
        exact kt
      by_cases hc4 : (lp.getD 2 (0 : Int32)) = (((q.toUInt32 >>> ((16 : Int32) &&& 31).toUInt32).toInt32).toInt8.toInt32)
      · rw [if_pos hc4] at hf
        refine Go.step (T' := T) (f' := (mkF m 48 #[.val (.ref a), .val (.int q)] [])) (fun t kt => ?_) ?_
        · show Steps p.tables e below (T.setTop (mkF m 45 #[.val (.ref a), .val (.int q)] [(.int (((q.toUInt32 >>> ((16 : Int32) &&& 31).toUInt32).toInt32).toInt8.toInt32)), (.int (lp.getD 2 (0 : Int32)))])) _
          refine XS.icmpNo X.here hx rfl (hb hby d5_45) rfl (teq hc4).2 ?_
          exact kt
        exact S48 _ _ _ _ X (Nat.le_trans hcl (by decide)) (Nat.le_trans hsl (by decide)) eT N hf
      · rw [if_neg hc4] at hf
        refine Go.step (T' := T) (f' := (mkF m 52 #[.val (.ref a), .val (.int q)] [])) (fun t kt => ?_) ?_
        · show Steps p.tables e below (T.setTop (mkF m 45 #[.val (.ref a), .val (.int q)] [(.int (((q.toUInt32 >>> ((16 : Int32) &&& 31).toUInt32).toInt32).toInt8.toInt32)), (.int (lp.getD 2 (0 : Int32)))])) _
          refine XS.icmpYes X.here hx rfl (pc0 := 45) (pc' := 52) rfl (hb hby d5_45) rfl (feq hc4).2 (by decide) (by decide) ?_
          exact kt
        refine Go.step (T' := T) (f' := (mkF m 53 #[.val (.ref a), .val (.int q)] [(.int (0 : Int32))])) (fun t kt => ?_) ?_
        · show Steps p.tables e below (T.setTop (mkF m 52 #[.val (.ref a), .val (.int q)] [])) _
          refine XS.iconst X.here hx rfl (hb hby d5_52) ?_
          exact kt
        refine Go.fin X (v := some (.int (0 : Int32))) (fun h => by rw [Bd.returns] at h; cases h) Bd.notSynchronized ?_ (Nat.le_trans hcl (by decide)) (Nat.le_trans hsl (by decide)) (fun fs hr => retN X hx (t := .boolean) Bd.returns (by simp) (hb hby d5_53) hr)
        · exact ⟨by rw [hf], N, eT⟩
  have S14 : ∀ (T : State) (locs : List Loc) (cells slots : Nat) (X : Stand p l e ({ frames := 0, cells := 0, slots := 0, locals := 0 } : Room) s m #[(.ref a), (.int q)] below meth c T locs cells slots) (hcl : cells ≤ 0) (hsl : slots ≤ 0) (eT : T.heap = h0) (N : Fr n0 locs)   (hf : RES = unF_14 q lp ), Go p e below s (QunF Z a q lp RES h0 n0) ({ frames := 0, cells := 0, slots := 0, locals := 0 } : Room).cells ({ frames := 0, cells := 0, slots := 0, locals := 0 } : Room).slots T (mkF m 14 #[.val (.ref a), .val (.int q)] []) := by
    intro T locs cells slots X hcl hsl eT N hf
    rw [unF_14] at hf
    have ln5 : ((lp.map Value.int).length : Int) = ((lp.length.toInt32)).toInt := (by have q := F0.len; rw [List.length_map] at q; rw [len_toInt q, List.length_map])
    refine Go.step (T' := T) (f' := (mkF m 17 #[.val (.ref a), .val (.int q)] [(.int (2 : Int32)), (.int (lp.length.toInt32))])) (fun t kt => ?_) ?_
    · show Steps p.tables e below (T.setTop (mkF m 14 #[.val (.ref a), .val (.int q)] [])) _
      refine XS.aloadN X.here hx rfl (hb hby d5_14) rfl rfl ?_
      show Steps p.tables e below (T.setTop (mkF m 15 #[.val (.ref a), .val (.int q)] [(.ref a)])) _
      refine lenA X hx hZ eT F0 (n := (lp.length.toInt32)) ln5 (g := (mkF m 15 #[.val (.ref a), .val (.int q)] [(.ref a)])) rfl rfl (hb hby d5_15) _ ?_
      show Steps p.tables e below (T.setTop (mkF m 16 #[.val (.ref a), .val (.int q)] [(.int (lp.length.toInt32))])) _
      refine XS.iconst X.here hx rfl (hb hby d5_16) ?_
      exact kt
    by_cases hc6 : (lp.length.toInt32) < (2 : Int32)
    · rw [if_pos hc6] at hf
      refine Go.step (T' := T) (f' := (mkF m 31 #[.val (.ref a), .val (.int q)] [])) (fun t kt => ?_) ?_
      · show Steps p.tables e below (T.setTop (mkF m 17 #[.val (.ref a), .val (.int q)] [(.int (2 : Int32)), (.int (lp.length.toInt32))])) _
        refine XS.icmpYes X.here hx rfl (pc0 := 17) (pc' := 31) rfl (hb hby d5_17) rfl (tlt hc6).1 (by decide) (by decide) ?_
        exact kt
      exact S31 _ _ _ _ X (Nat.le_trans hcl (by decide)) (Nat.le_trans hsl (by decide)) eT N hf
    · rw [if_neg hc6] at hf
      refine Go.step (T' := T) (f' := (mkF m 20 #[.val (.ref a), .val (.int q)] [])) (fun t kt => ?_) ?_
      · show Steps p.tables e below (T.setTop (mkF m 17 #[.val (.ref a), .val (.int q)] [(.int (2 : Int32)), (.int (lp.length.toInt32))])) _
        refine XS.icmpNo X.here hx rfl (hb hby d5_17) rfl (flt hc6).1 ?_
        exact kt
      have ix7 : 0 ≤ ((1 : Int32)).toInt ∧ ((1 : Int32)).toInt < ((lp).length : Int) := (own_u hp (by decide) 2 (by decide) (by assumption))
      refine Go.step (T' := T) (f' := (mkF m 28 #[.val (.ref a), .val (.int q)] [(.int (((q.toUInt32 >>> ((8 : Int32) &&& 31).toUInt32).toInt32).toInt8.toInt32)), (.int (lp.getD 1 (0 : Int32)))])) (fun t kt => ?_) ?_
      · show Steps p.tables e below (T.setTop (mkF m 20 #[.val (.ref a), .val (.int q)] [])) _
        refine XS.aloadN X.here hx rfl (hb hby d5_20) rfl rfl ?_
        show Steps p.tables e below (T.setTop (mkF m 21 #[.val (.ref a), .val (.int q)] [(.ref a)])) _
        refine XS.iconst X.here hx rfl (hb hby d5_21) ?_
        show Steps p.tables e below (T.setTop (mkF m 22 #[.val (.ref a), .val (.int q)] [(.int (1 : Int32)), (.ref a)])) _
        refine ldB X hx hZ eT F0 ix7.1 ix7.2 (g := (mkF m 22 #[.val (.ref a), .val (.int q)] [(.int (1 : Int32)), (.ref a)])) rfl rfl (hb hby d5_22) _ ?_
        show Steps p.tables e below (T.setTop (mkF m 23 #[.val (.ref a), .val (.int q)] [(.int (lp.getD 1 (0 : Int32)))])) _
        refine XS.iloadN X.here hx rfl (hb hby d5_23) rfl ?_
        show Steps p.tables e below (T.setTop (mkF m 24 #[.val (.ref a), .val (.int q)] [(.int q), (.int (lp.getD 1 (0 : Int32)))])) _
        refine XS.bipush X.here hx rfl (hb hby d5_24) ?_
        show Steps p.tables e below (T.setTop (mkF m 26 #[.val (.ref a), .val (.int q)] [(.int (8 : Int32)), (.int q), (.int (lp.getD 1 (0 : Int32)))])) _
        refine XS.iushr X.here hx rfl (hb hby d5_26) rfl ?_
        show Steps p.tables e below (T.setTop (mkF m 27 #[.val (.ref a), .val (.int q)] [(.int ((q.toUInt32 >>> ((8 : Int32) &&& 31).toUInt32).toInt32)), (.int (lp.getD 1 (0 : Int32)))])) _
        refine XS.i2b X.here hx rfl (hb hby d5_27) rfl ?_
        exact kt
      by_cases hc8 : (lp.getD 1 (0 : Int32)) = (((q.toUInt32 >>> ((8 : Int32) &&& 31).toUInt32).toInt32).toInt8.toInt32)
      · rw [if_pos hc8] at hf
        refine Go.step (T' := T) (f' := (mkF m 31 #[.val (.ref a), .val (.int q)] [])) (fun t kt => ?_) ?_
        · show Steps p.tables e below (T.setTop (mkF m 28 #[.val (.ref a), .val (.int q)] [(.int (((q.toUInt32 >>> ((8 : Int32) &&& 31).toUInt32).toInt32).toInt8.toInt32)), (.int (lp.getD 1 (0 : Int32)))])) _
          refine XS.icmpNo X.here hx rfl (hb hby d5_28) rfl (teq hc8).2 ?_
          exact kt
        exact S31 _ _ _ _ X (Nat.le_trans hcl (by decide)) (Nat.le_trans hsl (by decide)) eT N hf
      · rw [if_neg hc8] at hf
        refine Go.step (T' := T) (f' := (mkF m 52 #[.val (.ref a), .val (.int q)] [])) (fun t kt => ?_) ?_
        · show Steps p.tables e below (T.setTop (mkF m 28 #[.val (.ref a), .val (.int q)] [(.int (((q.toUInt32 >>> ((8 : Int32) &&& 31).toUInt32).toInt32).toInt8.toInt32)), (.int (lp.getD 1 (0 : Int32)))])) _
          refine XS.icmpYes X.here hx rfl (pc0 := 28) (pc' := 52) rfl (hb hby d5_28) rfl (feq hc8).2 (by decide) (by decide) ?_
          exact kt
        refine Go.step (T' := T) (f' := (mkF m 53 #[.val (.ref a), .val (.int q)] [(.int (0 : Int32))])) (fun t kt => ?_) ?_
        · show Steps p.tables e below (T.setTop (mkF m 52 #[.val (.ref a), .val (.int q)] [])) _
          refine XS.iconst X.here hx rfl (hb hby d5_52) ?_
          exact kt
        refine Go.fin X (v := some (.int (0 : Int32))) (fun h => by rw [Bd.returns] at h; cases h) Bd.notSynchronized ?_ (Nat.le_trans hcl (by decide)) (Nat.le_trans hsl (by decide)) (fun fs hr => retN X hx (t := .boolean) Bd.returns (by simp) (hb hby d5_53) hr)
        · exact ⟨by rw [hf], N, eT⟩
  have ln9 : ((lp.map Value.int).length : Int) = ((lp.length.toInt32)).toInt := (by have q := F0.len; rw [List.length_map] at q; rw [len_toInt q, List.length_map])
  refine Go.step (T' := s₁) (f' := (mkF m 3 #[.val (.ref a), .val (.int q)] [(.int (1 : Int32)), (.int (lp.length.toInt32))])) (fun t kt => ?_) ?_
  · show Steps p.tables e below (s₁.setTop (mkF m 0 #[.val (.ref a), .val (.int q)] [])) _
    refine XS.aloadN X0.here hx rfl (hb hby d5_0) rfl rfl ?_
    show Steps p.tables e below (s₁.setTop (mkF m 1 #[.val (.ref a), .val (.int q)] [(.ref a)])) _
    refine lenA X0 hx hZ e0 F0 (n := (lp.length.toInt32)) ln9 (g := (mkF m 1 #[.val (.ref a), .val (.int q)] [(.ref a)])) rfl rfl (hb hby d5_1) _ ?_
    show Steps p.tables e below (s₁.setTop (mkF m 2 #[.val (.ref a), .val (.int q)] [(.int (lp.length.toInt32))])) _
    refine XS.iconst X0.here hx rfl (hb hby d5_2) ?_
    exact kt
  by_cases hc10 : (lp.length.toInt32) < (1 : Int32)
  · rw [if_pos hc10] at hf
    refine Go.step (T' := s₁) (f' := (mkF m 14 #[.val (.ref a), .val (.int q)] [])) (fun t kt => ?_) ?_
    · show Steps p.tables e below (s₁.setTop (mkF m 3 #[.val (.ref a), .val (.int q)] [(.int (1 : Int32)), (.int (lp.length.toInt32))])) _
      refine XS.icmpYes X0.here hx rfl (pc0 := 3) (pc' := 14) rfl (hb hby d5_3) rfl (tlt hc10).1 (by decide) (by decide) ?_
      exact kt
    exact S14 _ _ _ _ X0 (Nat.le_trans (Nat.le_refl 0) (by decide)) (Nat.le_trans (Nat.le_refl 0) (by decide)) e0 N0 hf
  · rw [if_neg hc10] at hf
    refine Go.step (T' := s₁) (f' := (mkF m 6 #[.val (.ref a), .val (.int q)] [])) (fun t kt => ?_) ?_
    · show Steps p.tables e below (s₁.setTop (mkF m 3 #[.val (.ref a), .val (.int q)] [(.int (1 : Int32)), (.int (lp.length.toInt32))])) _
      refine XS.icmpNo X0.here hx rfl (hb hby d5_3) rfl (flt hc10).1 ?_
      exact kt
    have ix11 : 0 ≤ ((0 : Int32)).toInt ∧ ((0 : Int32)).toInt < ((lp).length : Int) := (own_u hp (by decide) 1 (by decide) (by assumption))
    refine Go.step (T' := s₁) (f' := (mkF m 11 #[.val (.ref a), .val (.int q)] [(.int (q.toInt8.toInt32)), (.int (lp.getD 0 (0 : Int32)))])) (fun t kt => ?_) ?_
    · show Steps p.tables e below (s₁.setTop (mkF m 6 #[.val (.ref a), .val (.int q)] [])) _
      refine XS.aloadN X0.here hx rfl (hb hby d5_6) rfl rfl ?_
      show Steps p.tables e below (s₁.setTop (mkF m 7 #[.val (.ref a), .val (.int q)] [(.ref a)])) _
      refine XS.iconst X0.here hx rfl (hb hby d5_7) ?_
      show Steps p.tables e below (s₁.setTop (mkF m 8 #[.val (.ref a), .val (.int q)] [(.int (0 : Int32)), (.ref a)])) _
      refine ldB X0 hx hZ e0 F0 ix11.1 ix11.2 (g := (mkF m 8 #[.val (.ref a), .val (.int q)] [(.int (0 : Int32)), (.ref a)])) rfl rfl (hb hby d5_8) _ ?_
      show Steps p.tables e below (s₁.setTop (mkF m 9 #[.val (.ref a), .val (.int q)] [(.int (lp.getD 0 (0 : Int32)))])) _
      refine XS.iloadN X0.here hx rfl (hb hby d5_9) rfl ?_
      show Steps p.tables e below (s₁.setTop (mkF m 10 #[.val (.ref a), .val (.int q)] [(.int q), (.int (lp.getD 0 (0 : Int32)))])) _
      refine XS.i2b X0.here hx rfl (hb hby d5_10) rfl ?_
      exact kt
    by_cases hc12 : (lp.getD 0 (0 : Int32)) = (q.toInt8.toInt32)
    · rw [if_pos hc12] at hf
      refine Go.step (T' := s₁) (f' := (mkF m 14 #[.val (.ref a), .val (.int q)] [])) (fun t kt => ?_) ?_
      · show Steps p.tables e below (s₁.setTop (mkF m 11 #[.val (.ref a), .val (.int q)] [(.int (q.toInt8.toInt32)), (.int (lp.getD 0 (0 : Int32)))])) _
        refine XS.icmpNo X0.here hx rfl (hb hby d5_11) rfl (teq hc12).2 ?_
        exact kt
      exact S14 _ _ _ _ X0 (Nat.le_trans (Nat.le_refl 0) (by decide)) (Nat.le_trans (Nat.le_refl 0) (by decide)) e0 N0 hf
    · rw [if_neg hc12] at hf
      refine Go.step (T' := s₁) (f' := (mkF m 52 #[.val (.ref a), .val (.int q)] [])) (fun t kt => ?_) ?_
      · show Steps p.tables e below (s₁.setTop (mkF m 11 #[.val (.ref a), .val (.int q)] [(.int (q.toInt8.toInt32)), (.int (lp.getD 0 (0 : Int32)))])) _
        refine XS.icmpYes X0.here hx rfl (pc0 := 11) (pc' := 52) rfl (hb hby d5_11) rfl (feq hc12).2 (by decide) (by decide) ?_
        exact kt
      refine Go.step (T' := s₁) (f' := (mkF m 53 #[.val (.ref a), .val (.int q)] [(.int (0 : Int32))])) (fun t kt => ?_) ?_
      · show Steps p.tables e below (s₁.setTop (mkF m 52 #[.val (.ref a), .val (.int q)] [])) _
        refine XS.iconst X0.here hx rfl (hb hby d5_52) ?_
        exact kt
      refine Go.fin X0 (v := some (.int (0 : Int32))) (fun h => by rw [Bd.returns] at h; cases h) Bd.notSynchronized ?_ (Nat.le_trans (Nat.le_refl 0) (by decide)) (Nat.le_trans (Nat.le_refl 0) (by decide)) (fun fs hr => retN X0 hx (t := .boolean) Bd.returns (by simp) (hb hby d5_53) hr)
      · exact ⟨by rw [hf], N0, e0⟩
theorem own_3 (a : Int32) : 0 ≤ (a &&& (3 : Int32)).toInt ∧ (a &&& (3 : Int32)).toInt ≤ 3 := c_and a 3 (by decide)
theorem own_len (n q : Int32) (h : 0 ≤ n.toInt ∧ n.toInt ≤ 3) : ((makF n q).length : Int) = n.toInt := by
  unfold makF makF_13 makF_26 makF_39
  repeat' split
  all_goals (simp only [List.length_set, List.length_replicate]; omega)
theorem own_nf (x : Int32) : fits .byte (.int (nar .byte x)) = true := fits_nar_byte x
theorem own_fset {l : List Int32} (h : ∀ x ∈ l, fits .byte (.int x) = true) (i : Nat) (v : Int32) : ∀ x ∈ l.set i (nar .byte v), fits .byte (.int x) = true := fun x hx => (List.mem_or_eq_of_mem_set hx).elim (h x) (fun q => by rw [q]; exact own_nf v)
theorem own_mf (n q : Int32) : ∀ x ∈ makF n q, fits .byte (.int x) = true := by
  unfold makF makF_13 makF_26 makF_39
  repeat' split
  all_goals first | exact own_fset (own_fset (own_fset (own_fz _) _ _) _ _) _ _ | exact own_fset (own_fset (own_fz _) _ _) _ _ | exact own_fset (own_fz _) _ _ | exact own_fz _
theorem own_at (k : Int32) (lp ls : List Int32) (hp : lp.length ≤ 3) (hs : ls.length ≤ 3) (hk : 0 ≤ k.toInt) : atF k (lp ++ (0 : Int32) :: ls) lp ls = 1 := by
  unfold atF
  split
  · rename_i h
    have hl : (lp ++ (0 : Int32) :: ls).length ≤ 7 := by simp; omega
    have hi := own_ilt hk hl h
    have hi2 : k.toInt < (lp.length : Int) + 1 + ls.length := by have := hi.2; simp at this; omega
    rw [if_pos]
    have hn := own_nat hk
    unfold expF
    split
    · rename_i h1
      have h1' := own_ilt hk (by omega) h1
      rw [List.getD_eq_getElem?_getD, List.getD_eq_getElem?_getD, List.getElem?_append_left (by omega)]
    · rename_i h1
      split
      · rename_i h2
        rw [h2, (own_L (l := lp) (by omega)).2, List.getD_eq_getElem?_getD, List.getElem?_append_right (Nat.le_refl _), Nat.sub_self]; rfl
      · rename_i h2
        obtain ⟨e1, e2, e3⟩ := own_ix2 hk hp hs hi2 h1 h2
        have hm := own_nat e2
        rw [List.getD_eq_getElem?_getD, List.getElem?_append_right (by omega)]
        have e4 : k.toNatClampNeg - lp.length = ((k - lp.length.toInt32) - (1 : Int32)).toNatClampNeg + 1 := by omega
        rw [e4, List.getElem?_cons_succ, ← List.getD_eq_getElem?_getD]
  · rfl
theorem own_un (n q : Int32) (h : 0 ≤ n.toInt ∧ n.toInt ≤ 3) : unF q (makF n q) = 1 := by
  obtain ⟨k, rfl⟩ := own_fin (n := 4) h.1 (by omega) (by decide)
  have nb : ∀ y : Int32, nar .byte (y.toInt8.toInt32) = y.toInt8.toInt32 := fun y => by
    apply Int32.toInt_inj.mp
    show ((y.toInt8.toInt32).toInt8.toInt32).toInt = _
    have := c_i2b y; have := c_i2b (y.toInt8.toInt32); omega
  have t1 : Nat.toInt32 1 = 1 := rfl
  have t2 : Nat.toInt32 2 = 2 := rfl
  have t3 : Nat.toInt32 3 = 3 := rfl
  have m0 : makF (Int32.ofNat 0) q = [] := rfl
  have m1 : makF (Int32.ofNat 1) q = [nar .byte (q.toInt8.toInt32)] := rfl
  have m2 : makF (Int32.ofNat 2) q = [nar .byte (q.toInt8.toInt32), nar .byte (((q.toUInt32 >>> ((8 : Int32) &&& 31).toUInt32).toInt32).toInt8.toInt32)] := rfl
  have m3 : makF (Int32.ofNat 3) q = [nar .byte (q.toInt8.toInt32), nar .byte (((q.toUInt32 >>> ((8 : Int32) &&& 31).toUInt32).toInt32).toInt8.toInt32), nar .byte (((q.toUInt32 >>> ((16 : Int32) &&& 31).toUInt32).toInt32).toInt8.toInt32)] := rfl
  match k with
  | 0 => exact (congrArg (unF q) m0).trans rfl
  | 1 => refine (congrArg (unF q) m1).trans ?_; simp [unF, unF_14, unF_31, unF_48, nb, t1]
  | 2 => refine (congrArg (unF q) m2).trans ?_; simp [unF, unF_14, unF_31, unF_48, nb, t1, t2]
  | 3 => refine (congrArg (unF q) m3).trans ?_; simp [unF, unF_14, unF_31, unF_48, nb, t1, t2, t3]
theorem own_q (lp ls : List Int32) (x3 x4 : Int32) (h3 : 0 ≤ x3.toInt ∧ x3.toInt ≤ 3) (h4 : 0 ≤ x4.toInt ∧ x4.toInt ≤ 3) (hp : (lp.length : Int) = x3.toInt) (hs : (ls.length : Int) = x4.toInt) : ((lp ++ (0 : Int32) :: ls).length.toInt32) = ((x3 + (1 : Int32)) + x4) := by
  apply Int32.toInt_inj.mp
  rw [len_toInt (by simp; omega)]
  have k1 : (1 : Int32).toInt = 1 := rfl
  have e1 : (x3 + (1 : Int32)).toInt = x3.toInt + 1 := by rw [own_add (by omega) (by omega), k1]
  rw [own_add (by omega) (by omega), e1, List.length_append, List.length_cons]
  omega
theorem pd_1 : parseMethodDescriptor "(II)[B" = some ⟨[.int, .int], some (.array .byte)⟩ := by decide +kernel
theorem pd_2 : parseMethodDescriptor "([B[B)[B" = some ⟨[(.array .byte), (.array .byte)], some (.array .byte)⟩ := by decide +kernel
theorem pd_3 : parseMethodDescriptor "([B[B[BI)Z" = some ⟨[(.array .byte), (.array .byte), (.array .byte), .int], some .boolean⟩ := by decide +kernel
theorem pd_4 : parseMethodDescriptor "([BI)Z" = some ⟨[(.array .byte), .int], some .boolean⟩ := by decide +kernel
theorem ef_0 (m : MethodId) (x0 : Int32) (x1 : Int32) (x2 : Int32) : entryFrame m #[(.int x0), (.int x1), (.int x2)] maxLocals = mkF m 0 #[.val (.int x0), .val (.int x1), .val (.int x2), .unset, .unset, .unset, .unset, .unset] [] := by first | (simp [entryFrame, mkF, argsToLocals, Value.category, maxLocals]; done) | rfl
def Q0 (Z : State) (p1 : Int32) (p2 : Int32) (p3 : Int32)  (h0 : Heap) (n0 : Nat) (v : Option Value) (h : Heap) (L : List Loc) : Prop := v = some (.int (1 : Int32)) ∧ Fr n0 L
set_option maxRecDepth 65536 in
set_option maxHeartbeats 40000000 in
theorem rm_0 (l : Launch) (Z : State) (a0 : Array Value) (hw : ∀ d ∈ tables_1, d.before a0 Z = true) (ws : List Jvm.Cond) (p1 : Int32) (p2 : Int32) (p3 : Int32)  (h0 : Heap) (n0 : Nat) (Z0 : n0 ≤ h0.size) :
    MetFree l x (head1 (Jvm.Cond.code x code maxLocals ret :: ws) room_1) (fun A_ U => A_ = #[(.int p1), (.int p2), (.int p3)] ∧ Z.Warmed39 U.vm ∧ U.heap = h0) (fun _ _ _ _ _ => True) (fun _ U o U' => ∃ v L, o = .returned v ∧ Q0 Z p1 p2 p3 h0 n0 v U'.heap L ∧ FrameEnd U o U' L 16 128) := by
  refine MetFree.of_bodySF (plainFor_of_name pn_0) hisR ?_
  intro p e s m args below meth c s₁ Bd hml0 hP hK
  obtain ⟨rfl, hZ, hh⟩ := hP
  have hx := Bd.exec
  have hby := Bd.bytes
  have hml : c.maxLocals = 8 := hml0
  have hown : s.vm.findClass "com/example/lane4/lane4/store/SharedFieldsWaitingEntryPinLaw" = some m.cls := findClass_of_methodNamed Bd.named
  have hnm := (name_of_methodNamed Bd.named Bd.method).1
  have X0 : Stand p l e room_1 s m #[(.int p1), (.int p2), (.int p3)] below meth c s₁ [] 0 0 := Stand.of_body Bd
  have e0 : s₁.heap = h0 := by rw [← hh, Bd.state]; rfl
  have N0 := Fr.nil n0
  suffices HGO : Go p e below s (Q0 Z p1 p2 p3 h0 n0) 16 128 s₁ (mkF m 0 #[.val (.int p1), .val (.int p2), .val (.int p3), .unset, .unset, .unset, .unset, .unset] []) from Go.cast (ef_0 m p1 p2 p3) HGO
  have S35 : ∀ (T : State) (locs : List Loc) (cells slots : Nat) (X : Stand p l e room_1 s m #[(.int p1), (.int p2), (.int p3)] below meth c T locs cells slots) (hcl : cells ≤ 3) (hsl : slots ≤ 13) (h : Heap) (eT : T.heap = h) (N : Fr n0 locs) (x3 : Int32) (x4 : Int32)  (b_1 : Addr) (b_2 : Addr) (r_4 : Addr) (lp : List Int32) (ls : List Int32) (K : Keep h0 h []) (fc0 : VA Z h b_1 .byte (lp.map Value.int)) (fc1 : VA Z h b_2 .byte (ls.map Value.int)) (fc2 : VA Z h r_4 .byte ((lp ++ (0 : Int32) :: ls).map Value.int)) (g_b_1 : n0 ≤ b_1) (g_b_2 : n0 ≤ b_2) (g_r_4 : n0 ≤ r_4) (sz_b_1 : h0.size ≤ b_1) (sz_b_2 : h0.size ≤ b_2) (sz_r_4 : h0.size ≤ r_4) (ne_b_1_b_2 : b_1 ≠ b_2) (ne_b_1_r_4 : b_1 ≠ r_4) (ne_b_2_r_4 : b_2 ≠ r_4) (h3 : 0 ≤ x3.toInt ∧ x3.toInt ≤ 3) (h4 : 0 ≤ x4.toInt ∧ x4.toInt ≤ 3) (hp : (lp.length : Int) = x3.toInt) (hs : (ls.length : Int) = x4.toInt) (hlp : lp = makF x3 p2) (hls : ls = makF x4 p3), Go p e below s (Q0 Z p1 p2 p3 h0 n0) 16 128 T (mkF m 35 #[.val (.int p1), .val (.int p2), .val (.int p3), .val (.int x3), .val (.int x4), .val (.ref b_1), .val (.ref b_2), .val (.ref r_4)] []) := by
    intro T locs cells slots X hcl hsl h eT N x3 x4 b_1 b_2 r_4 lp ls K fc0 fc1 fc2 g_b_1 g_b_2 g_r_4 sz_b_1 sz_b_2 sz_r_4 ne_b_1_b_2 ne_b_1_r_4 ne_b_2_r_4 h3 h4 hp hs hlp hls
    have Zh : n0 ≤ h.size := Nat.le_trans Z0 K.1
    have ln1 : (((lp ++ (0 : Int32) :: ls).map Value.int).length : Int) = (((lp ++ (0 : Int32) :: ls).length.toInt32)).toInt := (by have q := fc2.len; rw [List.length_map] at q; rw [len_toInt q, List.length_map])
    refine Go.step (T' := T) (f' := (mkF m 49 #[.val (.int p1), .val (.int p2), .val (.int p3), .val (.int x3), .val (.int x4), .val (.ref b_1), .val (.ref b_2), .val (.ref r_4)] [(.int ((x3 + (1 : Int32)) + x4)), (.int ((lp ++ (0 : Int32) :: ls).length.toInt32))])) (fun t kt => ?_) ?_
    · show Steps p.tables e below (T.setTop (mkF m 35 #[.val (.int p1), .val (.int p2), .val (.int p3), .val (.int x3), .val (.int x4), .val (.ref b_1), .val (.ref b_2), .val (.ref r_4)] [])) _
      refine XS.aload X.here hx rfl (hb hby at_35) rfl rfl ?_
      show Steps p.tables e below (T.setTop (mkF m 37 #[.val (.int p1), .val (.int p2), .val (.int p3), .val (.int x3), .val (.int x4), .val (.ref b_1), .val (.ref b_2), .val (.ref r_4)] [(.ref r_4)])) _
      refine XS.ifnullNo X.here hx rfl (hb hby at_37) rfl ?_
      show Steps p.tables e below (T.setTop (mkF m 40 #[.val (.int p1), .val (.int p2), .val (.int p3), .val (.int x3), .val (.int x4), .val (.ref b_1), .val (.ref b_2), .val (.ref r_4)] [])) _
      refine XS.aload X.here hx rfl (hb hby at_40) rfl rfl ?_
      show Steps p.tables e below (T.setTop (mkF m 42 #[.val (.int p1), .val (.int p2), .val (.int p3), .val (.int x3), .val (.int x4), .val (.ref b_1), .val (.ref b_2), .val (.ref r_4)] [(.ref r_4)])) _
      refine lenA X hx hZ eT fc2 (n := ((lp ++ (0 : Int32) :: ls).length.toInt32)) ln1 (g := (mkF m 42 #[.val (.int p1), .val (.int p2), .val (.int p3), .val (.int x3), .val (.int x4), .val (.ref b_1), .val (.ref b_2), .val (.ref r_4)] [(.ref r_4)])) rfl rfl (hb hby at_42) _ ?_
      show Steps p.tables e below (T.setTop (mkF m 43 #[.val (.int p1), .val (.int p2), .val (.int p3), .val (.int x3), .val (.int x4), .val (.ref b_1), .val (.ref b_2), .val (.ref r_4)] [(.int ((lp ++ (0 : Int32) :: ls).length.toInt32))])) _
      refine XS.iloadN X.here hx rfl (hb hby at_43) rfl ?_
      show Steps p.tables e below (T.setTop (mkF m 44 #[.val (.int p1), .val (.int p2), .val (.int p3), .val (.int x3), .val (.int x4), .val (.ref b_1), .val (.ref b_2), .val (.ref r_4)] [(.int x3), (.int ((lp ++ (0 : Int32) :: ls).length.toInt32))])) _
      refine XS.iconst X.here hx rfl (hb hby at_44) ?_
      show Steps p.tables e below (T.setTop (mkF m 45 #[.val (.int p1), .val (.int p2), .val (.int p3), .val (.int x3), .val (.int x4), .val (.ref b_1), .val (.ref b_2), .val (.ref r_4)] [(.int (1 : Int32)), (.int x3), (.int ((lp ++ (0 : Int32) :: ls).length.toInt32))])) _
      refine XS.iadd X.here hx rfl (hb hby at_45) rfl ?_
      show Steps p.tables e below (T.setTop (mkF m 46 #[.val (.int p1), .val (.int p2), .val (.int p3), .val (.int x3), .val (.int x4), .val (.ref b_1), .val (.ref b_2), .val (.ref r_4)] [(.int (x3 + (1 : Int32))), (.int ((lp ++ (0 : Int32) :: ls).length.toInt32))])) _
      refine XS.iload X.here hx rfl (hb hby at_46) rfl ?_
      show Steps p.tables e below (T.setTop (mkF m 48 #[.val (.int p1), .val (.int p2), .val (.int p3), .val (.int x3), .val (.int x4), .val (.ref b_1), .val (.ref b_2), .val (.ref r_4)] [(.int x4), (.int (x3 + (1 : Int32))), (.int ((lp ++ (0 : Int32) :: ls).length.toInt32))])) _
      refine XS.iadd X.here hx rfl (hb hby at_48) rfl ?_
      exact kt
    have hd2 : ((lp ++ (0 : Int32) :: ls).length.toInt32) = ((x3 + (1 : Int32)) + x4) := own_q lp ls x3 x4 h3 h4 hp hs
    obtain ⟨_, _, ⟨T3, L3, k3, n3⟩, -, X3, ⟨Lc3, hQ3, l3, y3, z3⟩, st3⟩ := Jvm.LawKit.callS X hx (y := (⟨"com/example/lane4/lane4/store/SharedFieldsWaitingEntryPinLaw", "at", "([B[B[BI)Z"⟩ : MethodName)) hown (mvT hZ (hw _ (List.mem_of_getElem? (i := 13) rfl))) (mvT hZ (hw _ (List.mem_of_getElem? (i := 14) rfl))) (mvT hZ (hw _ (List.mem_of_getElem? (i := 2) rfl))) (mvT hZ (hw _ (List.mem_of_getElem? (i := 15) rfl))) (by decide) (backOf (W := 0) (rm_atF l Z a0 hw [] r_4 b_1 b_2 (0 : Int32) (lp ++ (0 : Int32) :: ls) lp ls h n0 Zh fc2 fc0 fc1 (by omega) (by omega) (by decide) (by simp; omega)) hZ (hw _ (List.mem_of_getElem? (i := 15) rfl)) (hw _ (List.mem_of_getElem? (i := 2) rfl)) (by decide) (by decide)) (g := (mkF m 61 #[.val (.int p1), .val (.int p2), .val (.int p3), .val (.int x3), .val (.int x4), .val (.ref b_1), .val (.ref b_2), .val (.ref r_4)] [(.int (0 : Int32)), (.ref b_2), (.ref b_1), (.ref r_4)])) rfl (by rw [hml]; rfl) (argsL := [(.ref r_4), (.ref b_1), (.ref b_2), (.int (0 : Int32))]) (rest := []) (lenOf pd_3 rfl) rfl (by show 2 * 0 + _ ≤ _; exact Nat.le_of_eq rfl) (hb hby at_61) (fun _ _ => ⟨rfl, eT, (Nat.le_trans (Nat.add_le_add_right hcl 0) (by decide)), (Nat.le_trans (Nat.add_le_add_right hsl 0) (by decide))⟩)
    dsimp only [Pt.U, Pt.locs, Pt.cells, Pt.slots] at X3 l3 y3 z3 st3 hQ3
    subst l3 y3 z3
    obtain ⟨rfl, N3q, e3⟩ := hQ3
    have N3 := Fr.app N N3q
    refine Go.step (T' := T3) (f' := (mkF m 64 #[.val (.int p1), .val (.int p2), .val (.int p3), .val (.int x3), .val (.int x4), .val (.ref b_1), .val (.ref b_2), .val (.ref r_4)] [(.int (atF (0 : Int32) (lp ++ (0 : Int32) :: ls) lp ls))])) (fun t kt => ?_) ?_
    · show Steps p.tables e below (T.setTop (mkF m 49 #[.val (.int p1), .val (.int p2), .val (.int p3), .val (.int x3), .val (.int x4), .val (.ref b_1), .val (.ref b_2), .val (.ref r_4)] [(.int ((x3 + (1 : Int32)) + x4)), (.int ((lp ++ (0 : Int32) :: ls).length.toInt32))])) _
      refine XS.icmpYes X.here hx rfl (pc0 := 49) (pc' := 54) rfl (hb hby at_49) rfl (teq hd2).1 (by decide) (by decide) ?_
      show Steps p.tables e below (T.setTop (mkF m 54 #[.val (.int p1), .val (.int p2), .val (.int p3), .val (.int x3), .val (.int x4), .val (.ref b_1), .val (.ref b_2), .val (.ref r_4)] [])) _
      refine XS.aload X.here hx rfl (hb hby at_54) rfl rfl ?_
      show Steps p.tables e below (T.setTop (mkF m 56 #[.val (.int p1), .val (.int p2), .val (.int p3), .val (.int x3), .val (.int x4), .val (.ref b_1), .val (.ref b_2), .val (.ref r_4)] [(.ref r_4)])) _
      refine XS.aload X.here hx rfl (hb hby at_56) rfl rfl ?_
      show Steps p.tables e below (T.setTop (mkF m 58 #[.val (.int p1), .val (.int p2), .val (.int p3), .val (.int x3), .val (.int x4), .val (.ref b_1), .val (.ref b_2), .val (.ref r_4)] [(.ref b_1), (.ref r_4)])) _
      refine XS.aload X.here hx rfl (hb hby at_58) rfl rfl ?_
      show Steps p.tables e below (T.setTop (mkF m 60 #[.val (.int p1), .val (.int p2), .val (.int p3), .val (.int x3), .val (.int x4), .val (.ref b_1), .val (.ref b_2), .val (.ref r_4)] [(.ref b_2), (.ref b_1), (.ref r_4)])) _
      refine XS.iconst X.here hx rfl (hb hby at_60) ?_
      show Steps p.tables e below (T.setTop (mkF m 61 #[.val (.int p1), .val (.int p2), .val (.int p3), .val (.int x3), .val (.int x4), .val (.ref b_1), .val (.ref b_2), .val (.ref r_4)] [(.int (0 : Int32)), (.ref b_2), (.ref b_1), (.ref r_4)])) _
      refine st3 _ ?_
      exact kt
    have hd4 : ¬ ((atF (0 : Int32) (lp ++ (0 : Int32) :: ls) lp ls) = (0 : Int32)) := by rw [own_at 0 lp ls (by omega) (by omega) (by decide)]; decide
    obtain ⟨_, _, ⟨T5, L5, k5, n5⟩, -, X5, ⟨Lc5, hQ5, l5, y5, z5⟩, st5⟩ := Jvm.LawKit.callS X3 hx (y := (⟨"com/example/lane4/lane4/store/SharedFieldsWaitingEntryPinLaw", "at", "([B[B[BI)Z"⟩ : MethodName)) hown (mvT hZ (hw _ (List.mem_of_getElem? (i := 13) rfl))) (mvT hZ (hw _ (List.mem_of_getElem? (i := 14) rfl))) (mvT hZ (hw _ (List.mem_of_getElem? (i := 2) rfl))) (mvT hZ (hw _ (List.mem_of_getElem? (i := 15) rfl))) (by decide) (backOf (W := 0) (rm_atF l Z a0 hw [] r_4 b_1 b_2 (1 : Int32) (lp ++ (0 : Int32) :: ls) lp ls h n0 Zh fc2 fc0 fc1 (by omega) (by omega) (by decide) (by simp; omega)) hZ (hw _ (List.mem_of_getElem? (i := 15) rfl)) (hw _ (List.mem_of_getElem? (i := 2) rfl)) (by decide) (by decide)) (g := (mkF m 74 #[.val (.int p1), .val (.int p2), .val (.int p3), .val (.int x3), .val (.int x4), .val (.ref b_1), .val (.ref b_2), .val (.ref r_4)] [(.int (1 : Int32)), (.ref b_2), (.ref b_1), (.ref r_4)])) rfl (by rw [hml]; rfl) (argsL := [(.ref r_4), (.ref b_1), (.ref b_2), (.int (1 : Int32))]) (rest := []) (lenOf pd_3 rfl) rfl (by show 2 * 0 + _ ≤ _; exact Nat.le_of_eq rfl) (hb hby at_74) (fun _ _ => ⟨rfl, e3, (Nat.le_trans (Nat.add_le_add_right (Nat.add_le_add_right hcl 0) 0) (by decide)), (Nat.le_trans (Nat.add_le_add_right (Nat.add_le_add_right hsl 0) 0) (by decide))⟩)
    dsimp only [Pt.U, Pt.locs, Pt.cells, Pt.slots] at X5 l5 y5 z5 st5 hQ5
    subst l5 y5 z5
    obtain ⟨rfl, N5q, e5⟩ := hQ5
    have N5 := Fr.app N3 N5q
    refine Go.step (T' := T5) (f' := (mkF m 77 #[.val (.int p1), .val (.int p2), .val (.int p3), .val (.int x3), .val (.int x4), .val (.ref b_1), .val (.ref b_2), .val (.ref r_4)] [(.int (atF (1 : Int32) (lp ++ (0 : Int32) :: ls) lp ls))])) (fun t kt => ?_) ?_
    · show Steps p.tables e below (T3.setTop (mkF m 64 #[.val (.int p1), .val (.int p2), .val (.int p3), .val (.int x3), .val (.int x4), .val (.ref b_1), .val (.ref b_2), .val (.ref r_4)] [(.int (atF (0 : Int32) (lp ++ (0 : Int32) :: ls) lp ls))])) _
      refine XS.ifNo X3.here hx rfl (hb hby at_64) rfl ((if0 _ _).trans (feq hd4).1) ?_
      show Steps p.tables e below (T3.setTop (mkF m 67 #[.val (.int p1), .val (.int p2), .val (.int p3), .val (.int x3), .val (.int x4), .val (.ref b_1), .val (.ref b_2), .val (.ref r_4)] [])) _
      refine XS.aload X3.here hx rfl (hb hby at_67) rfl rfl ?_
      show Steps p.tables e below (T3.setTop (mkF m 69 #[.val (.int p1), .val (.int p2), .val (.int p3), .val (.int x3), .val (.int x4), .val (.ref b_1), .val (.ref b_2), .val (.ref r_4)] [(.ref r_4)])) _
      refine XS.aload X3.here hx rfl (hb hby at_69) rfl rfl ?_
      show Steps p.tables e below (T3.setTop (mkF m 71 #[.val (.int p1), .val (.int p2), .val (.int p3), .val (.int x3), .val (.int x4), .val (.ref b_1), .val (.ref b_2), .val (.ref r_4)] [(.ref b_1), (.ref r_4)])) _
      refine XS.aload X3.here hx rfl (hb hby at_71) rfl rfl ?_
      show Steps p.tables e below (T3.setTop (mkF m 73 #[.val (.int p1), .val (.int p2), .val (.int p3), .val (.int x3), .val (.int x4), .val (.ref b_1), .val (.ref b_2), .val (.ref r_4)] [(.ref b_2), (.ref b_1), (.ref r_4)])) _
      refine XS.iconst X3.here hx rfl (hb hby at_73) ?_
      show Steps p.tables e below (T3.setTop (mkF m 74 #[.val (.int p1), .val (.int p2), .val (.int p3), .val (.int x3), .val (.int x4), .val (.ref b_1), .val (.ref b_2), .val (.ref r_4)] [(.int (1 : Int32)), (.ref b_2), (.ref b_1), (.ref r_4)])) _
      refine st5 _ ?_
      exact kt
    have hd6 : ¬ ((atF (1 : Int32) (lp ++ (0 : Int32) :: ls) lp ls) = (0 : Int32)) := by rw [own_at 1 lp ls (by omega) (by omega) (by decide)]; decide
    obtain ⟨_, _, ⟨T7, L7, k7, n7⟩, -, X7, ⟨Lc7, hQ7, l7, y7, z7⟩, st7⟩ := Jvm.LawKit.callS X5 hx (y := (⟨"com/example/lane4/lane4/store/SharedFieldsWaitingEntryPinLaw", "at", "([B[B[BI)Z"⟩ : MethodName)) hown (mvT hZ (hw _ (List.mem_of_getElem? (i := 13) rfl))) (mvT hZ (hw _ (List.mem_of_getElem? (i := 14) rfl))) (mvT hZ (hw _ (List.mem_of_getElem? (i := 2) rfl))) (mvT hZ (hw _ (List.mem_of_getElem? (i := 15) rfl))) (by decide) (backOf (W := 0) (rm_atF l Z a0 hw [] r_4 b_1 b_2 (2 : Int32) (lp ++ (0 : Int32) :: ls) lp ls h n0 Zh fc2 fc0 fc1 (by omega) (by omega) (by decide) (by simp; omega)) hZ (hw _ (List.mem_of_getElem? (i := 15) rfl)) (hw _ (List.mem_of_getElem? (i := 2) rfl)) (by decide) (by decide)) (g := (mkF m 87 #[.val (.int p1), .val (.int p2), .val (.int p3), .val (.int x3), .val (.int x4), .val (.ref b_1), .val (.ref b_2), .val (.ref r_4)] [(.int (2 : Int32)), (.ref b_2), (.ref b_1), (.ref r_4)])) rfl (by rw [hml]; rfl) (argsL := [(.ref r_4), (.ref b_1), (.ref b_2), (.int (2 : Int32))]) (rest := []) (lenOf pd_3 rfl) rfl (by show 2 * 0 + _ ≤ _; exact Nat.le_of_eq rfl) (hb hby at_87) (fun _ _ => ⟨rfl, e5, (Nat.le_trans (Nat.add_le_add_right (Nat.add_le_add_right (Nat.add_le_add_right hcl 0) 0) 0) (by decide)), (Nat.le_trans (Nat.add_le_add_right (Nat.add_le_add_right (Nat.add_le_add_right hsl 0) 0) 0) (by decide))⟩)
    dsimp only [Pt.U, Pt.locs, Pt.cells, Pt.slots] at X7 l7 y7 z7 st7 hQ7
    subst l7 y7 z7
    obtain ⟨rfl, N7q, e7⟩ := hQ7
    have N7 := Fr.app N5 N7q
    refine Go.step (T' := T7) (f' := (mkF m 90 #[.val (.int p1), .val (.int p2), .val (.int p3), .val (.int x3), .val (.int x4), .val (.ref b_1), .val (.ref b_2), .val (.ref r_4)] [(.int (atF (2 : Int32) (lp ++ (0 : Int32) :: ls) lp ls))])) (fun t kt => ?_) ?_
    · show Steps p.tables e below (T5.setTop (mkF m 77 #[.val (.int p1), .val (.int p2), .val (.int p3), .val (.int x3), .val (.int x4), .val (.ref b_1), .val (.ref b_2), .val (.ref r_4)] [(.int (atF (1 : Int32) (lp ++ (0 : Int32) :: ls) lp ls))])) _
      refine XS.ifNo X5.here hx rfl (hb hby at_77) rfl ((if0 _ _).trans (feq hd6).1) ?_
      show Steps p.tables e below (T5.setTop (mkF m 80 #[.val (.int p1), .val (.int p2), .val (.int p3), .val (.int x3), .val (.int x4), .val (.ref b_1), .val (.ref b_2), .val (.ref r_4)] [])) _
      refine XS.aload X5.here hx rfl (hb hby at_80) rfl rfl ?_
      show Steps p.tables e below (T5.setTop (mkF m 82 #[.val (.int p1), .val (.int p2), .val (.int p3), .val (.int x3), .val (.int x4), .val (.ref b_1), .val (.ref b_2), .val (.ref r_4)] [(.ref r_4)])) _
      refine XS.aload X5.here hx rfl (hb hby at_82) rfl rfl ?_
      show Steps p.tables e below (T5.setTop (mkF m 84 #[.val (.int p1), .val (.int p2), .val (.int p3), .val (.int x3), .val (.int x4), .val (.ref b_1), .val (.ref b_2), .val (.ref r_4)] [(.ref b_1), (.ref r_4)])) _
      refine XS.aload X5.here hx rfl (hb hby at_84) rfl rfl ?_
      show Steps p.tables e below (T5.setTop (mkF m 86 #[.val (.int p1), .val (.int p2), .val (.int p3), .val (.int x3), .val (.int x4), .val (.ref b_1), .val (.ref b_2), .val (.ref r_4)] [(.ref b_2), (.ref b_1), (.ref r_4)])) _
      refine XS.iconst X5.here hx rfl (hb hby at_86) ?_
      show Steps p.tables e below (T5.setTop (mkF m 87 #[.val (.int p1), .val (.int p2), .val (.int p3), .val (.int x3), .val (.int x4), .val (.ref b_1), .val (.ref b_2), .val (.ref r_4)] [(.int (2 : Int32)), (.ref b_2), (.ref b_1), (.ref r_4)])) _
      refine st7 _ ?_
      exact kt
    have hd8 : ¬ ((atF (2 : Int32) (lp ++ (0 : Int32) :: ls) lp ls) = (0 : Int32)) := by rw [own_at 2 lp ls (by omega) (by omega) (by decide)]; decide
    obtain ⟨_, _, ⟨T9, L9, k9, n9⟩, -, X9, ⟨Lc9, hQ9, l9, y9, z9⟩, st9⟩ := Jvm.LawKit.callS X7 hx (y := (⟨"com/example/lane4/lane4/store/SharedFieldsWaitingEntryPinLaw", "at", "([B[B[BI)Z"⟩ : MethodName)) hown (mvT hZ (hw _ (List.mem_of_getElem? (i := 13) rfl))) (mvT hZ (hw _ (List.mem_of_getElem? (i := 14) rfl))) (mvT hZ (hw _ (List.mem_of_getElem? (i := 2) rfl))) (mvT hZ (hw _ (List.mem_of_getElem? (i := 15) rfl))) (by decide) (backOf (W := 0) (rm_atF l Z a0 hw [] r_4 b_1 b_2 (3 : Int32) (lp ++ (0 : Int32) :: ls) lp ls h n0 Zh fc2 fc0 fc1 (by omega) (by omega) (by decide) (by simp; omega)) hZ (hw _ (List.mem_of_getElem? (i := 15) rfl)) (hw _ (List.mem_of_getElem? (i := 2) rfl)) (by decide) (by decide)) (g := (mkF m 100 #[.val (.int p1), .val (.int p2), .val (.int p3), .val (.int x3), .val (.int x4), .val (.ref b_1), .val (.ref b_2), .val (.ref r_4)] [(.int (3 : Int32)), (.ref b_2), (.ref b_1), (.ref r_4)])) rfl (by rw [hml]; rfl) (argsL := [(.ref r_4), (.ref b_1), (.ref b_2), (.int (3 : Int32))]) (rest := []) (lenOf pd_3 rfl) rfl (by show 2 * 0 + _ ≤ _; exact Nat.le_of_eq rfl) (hb hby at_100) (fun _ _ => ⟨rfl, e7, (Nat.le_trans (Nat.add_le_add_right (Nat.add_le_add_right (Nat.add_le_add_right (Nat.add_le_add_right hcl 0) 0) 0) 0) (by decide)), (Nat.le_trans (Nat.add_le_add_right (Nat.add_le_add_right (Nat.add_le_add_right (Nat.add_le_add_right hsl 0) 0) 0) 0) (by decide))⟩)
    dsimp only [Pt.U, Pt.locs, Pt.cells, Pt.slots] at X9 l9 y9 z9 st9 hQ9
    subst l9 y9 z9
    obtain ⟨rfl, N9q, e9⟩ := hQ9
    have N9 := Fr.app N7 N9q
    refine Go.step (T' := T9) (f' := (mkF m 103 #[.val (.int p1), .val (.int p2), .val (.int p3), .val (.int x3), .val (.int x4), .val (.ref b_1), .val (.ref b_2), .val (.ref r_4)] [(.int (atF (3 : Int32) (lp ++ (0 : Int32) :: ls) lp ls))])) (fun t kt => ?_) ?_
    · show Steps p.tables e below (T7.setTop (mkF m 90 #[.val (.int p1), .val (.int p2), .val (.int p3), .val (.int x3), .val (.int x4), .val (.ref b_1), .val (.ref b_2), .val (.ref r_4)] [(.int (atF (2 : Int32) (lp ++ (0 : Int32) :: ls) lp ls))])) _
      refine XS.ifNo X7.here hx rfl (hb hby at_90) rfl ((if0 _ _).trans (feq hd8).1) ?_
      show Steps p.tables e below (T7.setTop (mkF m 93 #[.val (.int p1), .val (.int p2), .val (.int p3), .val (.int x3), .val (.int x4), .val (.ref b_1), .val (.ref b_2), .val (.ref r_4)] [])) _
      refine XS.aload X7.here hx rfl (hb hby at_93) rfl rfl ?_
      show Steps p.tables e below (T7.setTop (mkF m 95 #[.val (.int p1), .val (.int p2), .val (.int p3), .val (.int x3), .val (.int x4), .val (.ref b_1), .val (.ref b_2), .val (.ref r_4)] [(.ref r_4)])) _
      refine XS.aload X7.here hx rfl (hb hby at_95) rfl rfl ?_
      show Steps p.tables e below (T7.setTop (mkF m 97 #[.val (.int p1), .val (.int p2), .val (.int p3), .val (.int x3), .val (.int x4), .val (.ref b_1), .val (.ref b_2), .val (.ref r_4)] [(.ref b_1), (.ref r_4)])) _
      refine XS.aload X7.here hx rfl (hb hby at_97) rfl rfl ?_
      show Steps p.tables e below (T7.setTop (mkF m 99 #[.val (.int p1), .val (.int p2), .val (.int p3), .val (.int x3), .val (.int x4), .val (.ref b_1), .val (.ref b_2), .val (.ref r_4)] [(.ref b_2), (.ref b_1), (.ref r_4)])) _
      refine XS.iconst X7.here hx rfl (hb hby at_99) ?_
      show Steps p.tables e below (T7.setTop (mkF m 100 #[.val (.int p1), .val (.int p2), .val (.int p3), .val (.int x3), .val (.int x4), .val (.ref b_1), .val (.ref b_2), .val (.ref r_4)] [(.int (3 : Int32)), (.ref b_2), (.ref b_1), (.ref r_4)])) _
      refine st9 _ ?_
      exact kt
    have hd10 : ¬ ((atF (3 : Int32) (lp ++ (0 : Int32) :: ls) lp ls) = (0 : Int32)) := by rw [own_at 3 lp ls (by omega) (by omega) (by decide)]; decide
    obtain ⟨_, _, ⟨T11, L11, k11, n11⟩, -, X11, ⟨Lc11, hQ11, l11, y11, z11⟩, st11⟩ := Jvm.LawKit.callS X9 hx (y := (⟨"com/example/lane4/lane4/store/SharedFieldsWaitingEntryPinLaw", "at", "([B[B[BI)Z"⟩ : MethodName)) hown (mvT hZ (hw _ (List.mem_of_getElem? (i := 13) rfl))) (mvT hZ (hw _ (List.mem_of_getElem? (i := 14) rfl))) (mvT hZ (hw _ (List.mem_of_getElem? (i := 2) rfl))) (mvT hZ (hw _ (List.mem_of_getElem? (i := 15) rfl))) (by decide) (backOf (W := 0) (rm_atF l Z a0 hw [] r_4 b_1 b_2 (4 : Int32) (lp ++ (0 : Int32) :: ls) lp ls h n0 Zh fc2 fc0 fc1 (by omega) (by omega) (by decide) (by simp; omega)) hZ (hw _ (List.mem_of_getElem? (i := 15) rfl)) (hw _ (List.mem_of_getElem? (i := 2) rfl)) (by decide) (by decide)) (g := (mkF m 113 #[.val (.int p1), .val (.int p2), .val (.int p3), .val (.int x3), .val (.int x4), .val (.ref b_1), .val (.ref b_2), .val (.ref r_4)] [(.int (4 : Int32)), (.ref b_2), (.ref b_1), (.ref r_4)])) rfl (by rw [hml]; rfl) (argsL := [(.ref r_4), (.ref b_1), (.ref b_2), (.int (4 : Int32))]) (rest := []) (lenOf pd_3 rfl) rfl (by show 2 * 0 + _ ≤ _; exact Nat.le_of_eq rfl) (hb hby at_113) (fun _ _ => ⟨rfl, e9, (Nat.le_trans (Nat.add_le_add_right (Nat.add_le_add_right (Nat.add_le_add_right (Nat.add_le_add_right (Nat.add_le_add_right hcl 0) 0) 0) 0) 0) (by decide)), (Nat.le_trans (Nat.add_le_add_right (Nat.add_le_add_right (Nat.add_le_add_right (Nat.add_le_add_right (Nat.add_le_add_right hsl 0) 0) 0) 0) 0) (by decide))⟩)
    dsimp only [Pt.U, Pt.locs, Pt.cells, Pt.slots] at X11 l11 y11 z11 st11 hQ11
    subst l11 y11 z11
    obtain ⟨rfl, N11q, e11⟩ := hQ11
    have N11 := Fr.app N9 N11q
    refine Go.step (T' := T11) (f' := (mkF m 116 #[.val (.int p1), .val (.int p2), .val (.int p3), .val (.int x3), .val (.int x4), .val (.ref b_1), .val (.ref b_2), .val (.ref r_4)] [(.int (atF (4 : Int32) (lp ++ (0 : Int32) :: ls) lp ls))])) (fun t kt => ?_) ?_
    · show Steps p.tables e below (T9.setTop (mkF m 103 #[.val (.int p1), .val (.int p2), .val (.int p3), .val (.int x3), .val (.int x4), .val (.ref b_1), .val (.ref b_2), .val (.ref r_4)] [(.int (atF (3 : Int32) (lp ++ (0 : Int32) :: ls) lp ls))])) _
      refine XS.ifNo X9.here hx rfl (hb hby at_103) rfl ((if0 _ _).trans (feq hd10).1) ?_
      show Steps p.tables e below (T9.setTop (mkF m 106 #[.val (.int p1), .val (.int p2), .val (.int p3), .val (.int x3), .val (.int x4), .val (.ref b_1), .val (.ref b_2), .val (.ref r_4)] [])) _
      refine XS.aload X9.here hx rfl (hb hby at_106) rfl rfl ?_
      show Steps p.tables e below (T9.setTop (mkF m 108 #[.val (.int p1), .val (.int p2), .val (.int p3), .val (.int x3), .val (.int x4), .val (.ref b_1), .val (.ref b_2), .val (.ref r_4)] [(.ref r_4)])) _
      refine XS.aload X9.here hx rfl (hb hby at_108) rfl rfl ?_
      show Steps p.tables e below (T9.setTop (mkF m 110 #[.val (.int p1), .val (.int p2), .val (.int p3), .val (.int x3), .val (.int x4), .val (.ref b_1), .val (.ref b_2), .val (.ref r_4)] [(.ref b_1), (.ref r_4)])) _
      refine XS.aload X9.here hx rfl (hb hby at_110) rfl rfl ?_
      show Steps p.tables e below (T9.setTop (mkF m 112 #[.val (.int p1), .val (.int p2), .val (.int p3), .val (.int x3), .val (.int x4), .val (.ref b_1), .val (.ref b_2), .val (.ref r_4)] [(.ref b_2), (.ref b_1), (.ref r_4)])) _
      refine XS.iconst X9.here hx rfl (hb hby at_112) ?_
      show Steps p.tables e below (T9.setTop (mkF m 113 #[.val (.int p1), .val (.int p2), .val (.int p3), .val (.int x3), .val (.int x4), .val (.ref b_1), .val (.ref b_2), .val (.ref r_4)] [(.int (4 : Int32)), (.ref b_2), (.ref b_1), (.ref r_4)])) _
      refine st11 _ ?_
      exact kt
    have hd12 : ¬ ((atF (4 : Int32) (lp ++ (0 : Int32) :: ls) lp ls) = (0 : Int32)) := by rw [own_at 4 lp ls (by omega) (by omega) (by decide)]; decide
    obtain ⟨_, _, ⟨T13, L13, k13, n13⟩, -, X13, ⟨Lc13, hQ13, l13, y13, z13⟩, st13⟩ := Jvm.LawKit.callS X11 hx (y := (⟨"com/example/lane4/lane4/store/SharedFieldsWaitingEntryPinLaw", "at", "([B[B[BI)Z"⟩ : MethodName)) hown (mvT hZ (hw _ (List.mem_of_getElem? (i := 13) rfl))) (mvT hZ (hw _ (List.mem_of_getElem? (i := 14) rfl))) (mvT hZ (hw _ (List.mem_of_getElem? (i := 2) rfl))) (mvT hZ (hw _ (List.mem_of_getElem? (i := 15) rfl))) (by decide) (backOf (W := 0) (rm_atF l Z a0 hw [] r_4 b_1 b_2 (5 : Int32) (lp ++ (0 : Int32) :: ls) lp ls h n0 Zh fc2 fc0 fc1 (by omega) (by omega) (by decide) (by simp; omega)) hZ (hw _ (List.mem_of_getElem? (i := 15) rfl)) (hw _ (List.mem_of_getElem? (i := 2) rfl)) (by decide) (by decide)) (g := (mkF m 126 #[.val (.int p1), .val (.int p2), .val (.int p3), .val (.int x3), .val (.int x4), .val (.ref b_1), .val (.ref b_2), .val (.ref r_4)] [(.int (5 : Int32)), (.ref b_2), (.ref b_1), (.ref r_4)])) rfl (by rw [hml]; rfl) (argsL := [(.ref r_4), (.ref b_1), (.ref b_2), (.int (5 : Int32))]) (rest := []) (lenOf pd_3 rfl) rfl (by show 2 * 0 + _ ≤ _; exact Nat.le_of_eq rfl) (hb hby at_126) (fun _ _ => ⟨rfl, e11, (Nat.le_trans (Nat.add_le_add_right (Nat.add_le_add_right (Nat.add_le_add_right (Nat.add_le_add_right (Nat.add_le_add_right (Nat.add_le_add_right hcl 0) 0) 0) 0) 0) 0) (by decide)), (Nat.le_trans (Nat.add_le_add_right (Nat.add_le_add_right (Nat.add_le_add_right (Nat.add_le_add_right (Nat.add_le_add_right (Nat.add_le_add_right hsl 0) 0) 0) 0) 0) 0) (by decide))⟩)
    dsimp only [Pt.U, Pt.locs, Pt.cells, Pt.slots] at X13 l13 y13 z13 st13 hQ13
    subst l13 y13 z13
    obtain ⟨rfl, N13q, e13⟩ := hQ13
    have N13 := Fr.app N11 N13q
    refine Go.step (T' := T13) (f' := (mkF m 129 #[.val (.int p1), .val (.int p2), .val (.int p3), .val (.int x3), .val (.int x4), .val (.ref b_1), .val (.ref b_2), .val (.ref r_4)] [(.int (atF (5 : Int32) (lp ++ (0 : Int32) :: ls) lp ls))])) (fun t kt => ?_) ?_
    · show Steps p.tables e below (T11.setTop (mkF m 116 #[.val (.int p1), .val (.int p2), .val (.int p3), .val (.int x3), .val (.int x4), .val (.ref b_1), .val (.ref b_2), .val (.ref r_4)] [(.int (atF (4 : Int32) (lp ++ (0 : Int32) :: ls) lp ls))])) _
      refine XS.ifNo X11.here hx rfl (hb hby at_116) rfl ((if0 _ _).trans (feq hd12).1) ?_
      show Steps p.tables e below (T11.setTop (mkF m 119 #[.val (.int p1), .val (.int p2), .val (.int p3), .val (.int x3), .val (.int x4), .val (.ref b_1), .val (.ref b_2), .val (.ref r_4)] [])) _
      refine XS.aload X11.here hx rfl (hb hby at_119) rfl rfl ?_
      show Steps p.tables e below (T11.setTop (mkF m 121 #[.val (.int p1), .val (.int p2), .val (.int p3), .val (.int x3), .val (.int x4), .val (.ref b_1), .val (.ref b_2), .val (.ref r_4)] [(.ref r_4)])) _
      refine XS.aload X11.here hx rfl (hb hby at_121) rfl rfl ?_
      show Steps p.tables e below (T11.setTop (mkF m 123 #[.val (.int p1), .val (.int p2), .val (.int p3), .val (.int x3), .val (.int x4), .val (.ref b_1), .val (.ref b_2), .val (.ref r_4)] [(.ref b_1), (.ref r_4)])) _
      refine XS.aload X11.here hx rfl (hb hby at_123) rfl rfl ?_
      show Steps p.tables e below (T11.setTop (mkF m 125 #[.val (.int p1), .val (.int p2), .val (.int p3), .val (.int x3), .val (.int x4), .val (.ref b_1), .val (.ref b_2), .val (.ref r_4)] [(.ref b_2), (.ref b_1), (.ref r_4)])) _
      refine XS.iconst X11.here hx rfl (hb hby at_125) ?_
      show Steps p.tables e below (T11.setTop (mkF m 126 #[.val (.int p1), .val (.int p2), .val (.int p3), .val (.int x3), .val (.int x4), .val (.ref b_1), .val (.ref b_2), .val (.ref r_4)] [(.int (5 : Int32)), (.ref b_2), (.ref b_1), (.ref r_4)])) _
      refine st13 _ ?_
      exact kt
    have hd14 : ¬ ((atF (5 : Int32) (lp ++ (0 : Int32) :: ls) lp ls) = (0 : Int32)) := by rw [own_at 5 lp ls (by omega) (by omega) (by decide)]; decide
    obtain ⟨_, _, ⟨T15, L15, k15, n15⟩, -, X15, ⟨Lc15, hQ15, l15, y15, z15⟩, st15⟩ := Jvm.LawKit.callS X13 hx (y := (⟨"com/example/lane4/lane4/store/SharedFieldsWaitingEntryPinLaw", "at", "([B[B[BI)Z"⟩ : MethodName)) hown (mvT hZ (hw _ (List.mem_of_getElem? (i := 13) rfl))) (mvT hZ (hw _ (List.mem_of_getElem? (i := 14) rfl))) (mvT hZ (hw _ (List.mem_of_getElem? (i := 2) rfl))) (mvT hZ (hw _ (List.mem_of_getElem? (i := 15) rfl))) (by decide) (backOf (W := 0) (rm_atF l Z a0 hw [] r_4 b_1 b_2 (6 : Int32) (lp ++ (0 : Int32) :: ls) lp ls h n0 Zh fc2 fc0 fc1 (by omega) (by omega) (by decide) (by simp; omega)) hZ (hw _ (List.mem_of_getElem? (i := 15) rfl)) (hw _ (List.mem_of_getElem? (i := 2) rfl)) (by decide) (by decide)) (g := (mkF m 140 #[.val (.int p1), .val (.int p2), .val (.int p3), .val (.int x3), .val (.int x4), .val (.ref b_1), .val (.ref b_2), .val (.ref r_4)] [(.int (6 : Int32)), (.ref b_2), (.ref b_1), (.ref r_4)])) rfl (by rw [hml]; rfl) (argsL := [(.ref r_4), (.ref b_1), (.ref b_2), (.int (6 : Int32))]) (rest := []) (lenOf pd_3 rfl) rfl (by show 2 * 0 + _ ≤ _; exact Nat.le_of_eq rfl) (hb hby at_140) (fun _ _ => ⟨rfl, e13, (Nat.le_trans (Nat.add_le_add_right (Nat.add_le_add_right (Nat.add_le_add_right (Nat.add_le_add_right (Nat.add_le_add_right (Nat.add_le_add_right (Nat.add_le_add_right hcl 0) 0) 0) 0) 0) 0) 0) (by decide)), (Nat.le_trans (Nat.add_le_add_right (Nat.add_le_add_right (Nat.add_le_add_right (Nat.add_le_add_right (Nat.add_le_add_right (Nat.add_le_add_right (Nat.add_le_add_right hsl 0) 0) 0) 0) 0) 0) 0) (by decide))⟩)
    dsimp only [Pt.U, Pt.locs, Pt.cells, Pt.slots] at X15 l15 y15 z15 st15 hQ15
    subst l15 y15 z15
    obtain ⟨rfl, N15q, e15⟩ := hQ15
    have N15 := Fr.app N13 N15q
    refine Go.step (T' := T15) (f' := (mkF m 143 #[.val (.int p1), .val (.int p2), .val (.int p3), .val (.int x3), .val (.int x4), .val (.ref b_1), .val (.ref b_2), .val (.ref r_4)] [(.int (atF (6 : Int32) (lp ++ (0 : Int32) :: ls) lp ls))])) (fun t kt => ?_) ?_
    · show Steps p.tables e below (T13.setTop (mkF m 129 #[.val (.int p1), .val (.int p2), .val (.int p3), .val (.int x3), .val (.int x4), .val (.ref b_1), .val (.ref b_2), .val (.ref r_4)] [(.int (atF (5 : Int32) (lp ++ (0 : Int32) :: ls) lp ls))])) _
      refine XS.ifNo X13.here hx rfl (hb hby at_129) rfl ((if0 _ _).trans (feq hd14).1) ?_
      show Steps p.tables e below (T13.setTop (mkF m 132 #[.val (.int p1), .val (.int p2), .val (.int p3), .val (.int x3), .val (.int x4), .val (.ref b_1), .val (.ref b_2), .val (.ref r_4)] [])) _
      refine XS.aload X13.here hx rfl (hb hby at_132) rfl rfl ?_
      show Steps p.tables e below (T13.setTop (mkF m 134 #[.val (.int p1), .val (.int p2), .val (.int p3), .val (.int x3), .val (.int x4), .val (.ref b_1), .val (.ref b_2), .val (.ref r_4)] [(.ref r_4)])) _
      refine XS.aload X13.here hx rfl (hb hby at_134) rfl rfl ?_
      show Steps p.tables e below (T13.setTop (mkF m 136 #[.val (.int p1), .val (.int p2), .val (.int p3), .val (.int x3), .val (.int x4), .val (.ref b_1), .val (.ref b_2), .val (.ref r_4)] [(.ref b_1), (.ref r_4)])) _
      refine XS.aload X13.here hx rfl (hb hby at_136) rfl rfl ?_
      show Steps p.tables e below (T13.setTop (mkF m 138 #[.val (.int p1), .val (.int p2), .val (.int p3), .val (.int x3), .val (.int x4), .val (.ref b_1), .val (.ref b_2), .val (.ref r_4)] [(.ref b_2), (.ref b_1), (.ref r_4)])) _
      refine XS.bipush X13.here hx rfl (hb hby at_138) ?_
      show Steps p.tables e below (T13.setTop (mkF m 140 #[.val (.int p1), .val (.int p2), .val (.int p3), .val (.int x3), .val (.int x4), .val (.ref b_1), .val (.ref b_2), .val (.ref r_4)] [(.int (6 : Int32)), (.ref b_2), (.ref b_1), (.ref r_4)])) _
      refine st15 _ ?_
      exact kt
    have hd16 : ¬ ((atF (6 : Int32) (lp ++ (0 : Int32) :: ls) lp ls) = (0 : Int32)) := by rw [own_at 6 lp ls (by omega) (by omega) (by decide)]; decide
    obtain ⟨_, _, ⟨T17, L17, k17, n17⟩, -, X17, ⟨Lc17, hQ17, l17, y17, z17⟩, st17⟩ := Jvm.LawKit.callS X15 hx (y := (⟨"com/example/lane4/lane4/store/SharedFieldsWaitingEntryPinLaw", "unchanged", "([BI)Z"⟩ : MethodName)) hown (mvT hZ (hw _ (List.mem_of_getElem? (i := 19) rfl))) (mvT hZ (hw _ (List.mem_of_getElem? (i := 20) rfl))) (mvT hZ (hw _ (List.mem_of_getElem? (i := 2) rfl))) (mvT hZ (hw _ (List.mem_of_getElem? (i := 21) rfl))) (by decide) (backOf (W := 0) (rm_unF l Z a0 hw [] b_1 p2 lp h n0 Zh fc0 (by omega)) hZ (hw _ (List.mem_of_getElem? (i := 21) rfl)) (hw _ (List.mem_of_getElem? (i := 2) rfl)) (by decide) (by decide)) (g := (mkF m 149 #[.val (.int p1), .val (.int p2), .val (.int p3), .val (.int x3), .val (.int x4), .val (.ref b_1), .val (.ref b_2), .val (.ref r_4)] [(.int p2), (.ref b_1)])) rfl (by rw [hml]; rfl) (argsL := [(.ref b_1), (.int p2)]) (rest := []) (lenOf pd_4 rfl) rfl (by show 2 * 0 + _ ≤ _; exact Nat.le_of_eq rfl) (hb hby at_149) (fun _ _ => ⟨rfl, e15, (Nat.le_trans (Nat.add_le_add_right (Nat.add_le_add_right (Nat.add_le_add_right (Nat.add_le_add_right (Nat.add_le_add_right (Nat.add_le_add_right (Nat.add_le_add_right (Nat.add_le_add_right hcl 0) 0) 0) 0) 0) 0) 0) 0) (by decide)), (Nat.le_trans (Nat.add_le_add_right (Nat.add_le_add_right (Nat.add_le_add_right (Nat.add_le_add_right (Nat.add_le_add_right (Nat.add_le_add_right (Nat.add_le_add_right (Nat.add_le_add_right hsl 0) 0) 0) 0) 0) 0) 0) 0) (by decide))⟩)
    dsimp only [Pt.U, Pt.locs, Pt.cells, Pt.slots] at X17 l17 y17 z17 st17 hQ17
    subst l17 y17 z17
    obtain ⟨rfl, N17q, e17⟩ := hQ17
    have N17 := Fr.app N15 N17q
    refine Go.step (T' := T17) (f' := (mkF m 152 #[.val (.int p1), .val (.int p2), .val (.int p3), .val (.int x3), .val (.int x4), .val (.ref b_1), .val (.ref b_2), .val (.ref r_4)] [(.int (unF p2 lp))])) (fun t kt => ?_) ?_
    · show Steps p.tables e below (T15.setTop (mkF m 143 #[.val (.int p1), .val (.int p2), .val (.int p3), .val (.int x3), .val (.int x4), .val (.ref b_1), .val (.ref b_2), .val (.ref r_4)] [(.int (atF (6 : Int32) (lp ++ (0 : Int32) :: ls) lp ls))])) _
      refine XS.ifNo X15.here hx rfl (hb hby at_143) rfl ((if0 _ _).trans (feq hd16).1) ?_
      show Steps p.tables e below (T15.setTop (mkF m 146 #[.val (.int p1), .val (.int p2), .val (.int p3), .val (.int x3), .val (.int x4), .val (.ref b_1), .val (.ref b_2), .val (.ref r_4)] [])) _
      refine XS.aload X15.here hx rfl (hb hby at_146) rfl rfl ?_
      show Steps p.tables e below (T15.setTop (mkF m 148 #[.val (.int p1), .val (.int p2), .val (.int p3), .val (.int x3), .val (.int x4), .val (.ref b_1), .val (.ref b_2), .val (.ref r_4)] [(.ref b_1)])) _
      refine XS.iloadN X15.here hx rfl (hb hby at_148) rfl ?_
      show Steps p.tables e below (T15.setTop (mkF m 149 #[.val (.int p1), .val (.int p2), .val (.int p3), .val (.int x3), .val (.int x4), .val (.ref b_1), .val (.ref b_2), .val (.ref r_4)] [(.int p2), (.ref b_1)])) _
      refine st17 _ ?_
      exact kt
    have hd18 : ¬ ((unF p2 lp) = (0 : Int32)) := by rw [hlp, own_un x3 p2 h3]; decide
    obtain ⟨_, _, ⟨T19, L19, k19, n19⟩, -, X19, ⟨Lc19, hQ19, l19, y19, z19⟩, st19⟩ := Jvm.LawKit.callS X17 hx (y := (⟨"com/example/lane4/lane4/store/SharedFieldsWaitingEntryPinLaw", "unchanged", "([BI)Z"⟩ : MethodName)) hown (mvT hZ (hw _ (List.mem_of_getElem? (i := 19) rfl))) (mvT hZ (hw _ (List.mem_of_getElem? (i := 20) rfl))) (mvT hZ (hw _ (List.mem_of_getElem? (i := 2) rfl))) (mvT hZ (hw _ (List.mem_of_getElem? (i := 21) rfl))) (by decide) (backOf (W := 0) (rm_unF l Z a0 hw [] b_2 p3 ls h n0 Zh fc1 (by omega)) hZ (hw _ (List.mem_of_getElem? (i := 21) rfl)) (hw _ (List.mem_of_getElem? (i := 2) rfl)) (by decide) (by decide)) (g := (mkF m 158 #[.val (.int p1), .val (.int p2), .val (.int p3), .val (.int x3), .val (.int x4), .val (.ref b_1), .val (.ref b_2), .val (.ref r_4)] [(.int p3), (.ref b_2)])) rfl (by rw [hml]; rfl) (argsL := [(.ref b_2), (.int p3)]) (rest := []) (lenOf pd_4 rfl) rfl (by show 2 * 0 + _ ≤ _; exact Nat.le_of_eq rfl) (hb hby at_158) (fun _ _ => ⟨rfl, e17, (Nat.le_trans (Nat.add_le_add_right (Nat.add_le_add_right (Nat.add_le_add_right (Nat.add_le_add_right (Nat.add_le_add_right (Nat.add_le_add_right (Nat.add_le_add_right (Nat.add_le_add_right (Nat.add_le_add_right hcl 0) 0) 0) 0) 0) 0) 0) 0) 0) (by decide)), (Nat.le_trans (Nat.add_le_add_right (Nat.add_le_add_right (Nat.add_le_add_right (Nat.add_le_add_right (Nat.add_le_add_right (Nat.add_le_add_right (Nat.add_le_add_right (Nat.add_le_add_right (Nat.add_le_add_right hsl 0) 0) 0) 0) 0) 0) 0) 0) 0) (by decide))⟩)
    dsimp only [Pt.U, Pt.locs, Pt.cells, Pt.slots] at X19 l19 y19 z19 st19 hQ19
    subst l19 y19 z19
    obtain ⟨rfl, N19q, e19⟩ := hQ19
    have N19 := Fr.app N17 N19q
    refine Go.step (T' := T19) (f' := (mkF m 161 #[.val (.int p1), .val (.int p2), .val (.int p3), .val (.int x3), .val (.int x4), .val (.ref b_1), .val (.ref b_2), .val (.ref r_4)] [(.int (unF p3 ls))])) (fun t kt => ?_) ?_
    · show Steps p.tables e below (T17.setTop (mkF m 152 #[.val (.int p1), .val (.int p2), .val (.int p3), .val (.int x3), .val (.int x4), .val (.ref b_1), .val (.ref b_2), .val (.ref r_4)] [(.int (unF p2 lp))])) _
      refine XS.ifNo X17.here hx rfl (hb hby at_152) rfl ((if0 _ _).trans (feq hd18).1) ?_
      show Steps p.tables e below (T17.setTop (mkF m 155 #[.val (.int p1), .val (.int p2), .val (.int p3), .val (.int x3), .val (.int x4), .val (.ref b_1), .val (.ref b_2), .val (.ref r_4)] [])) _
      refine XS.aload X17.here hx rfl (hb hby at_155) rfl rfl ?_
      show Steps p.tables e below (T17.setTop (mkF m 157 #[.val (.int p1), .val (.int p2), .val (.int p3), .val (.int x3), .val (.int x4), .val (.ref b_1), .val (.ref b_2), .val (.ref r_4)] [(.ref b_2)])) _
      refine XS.iloadN X17.here hx rfl (hb hby at_157) rfl ?_
      show Steps p.tables e below (T17.setTop (mkF m 158 #[.val (.int p1), .val (.int p2), .val (.int p3), .val (.int x3), .val (.int x4), .val (.ref b_1), .val (.ref b_2), .val (.ref r_4)] [(.int p3), (.ref b_2)])) _
      refine st19 _ ?_
      exact kt
    have hd20 : ¬ ((unF p3 ls) = (0 : Int32)) := by rw [hls, own_un x4 p3 h4]; decide
    refine Go.step (T' := T19) (f' := (mkF m 169 #[.val (.int p1), .val (.int p2), .val (.int p3), .val (.int x3), .val (.int x4), .val (.ref b_1), .val (.ref b_2), .val (.ref r_4)] [(.int (1 : Int32))])) (fun t kt => ?_) ?_
    · show Steps p.tables e below (T19.setTop (mkF m 161 #[.val (.int p1), .val (.int p2), .val (.int p3), .val (.int x3), .val (.int x4), .val (.ref b_1), .val (.ref b_2), .val (.ref r_4)] [(.int (unF p3 ls))])) _
      refine XS.ifNo X19.here hx rfl (hb hby at_161) rfl ((if0 _ _).trans (feq hd20).1) ?_
      show Steps p.tables e below (T19.setTop (mkF m 164 #[.val (.int p1), .val (.int p2), .val (.int p3), .val (.int x3), .val (.int x4), .val (.ref b_1), .val (.ref b_2), .val (.ref r_4)] [])) _
      refine XS.iconst X19.here hx rfl (hb hby at_164) ?_
      show Steps p.tables e below (T19.setTop (mkF m 165 #[.val (.int p1), .val (.int p2), .val (.int p3), .val (.int x3), .val (.int x4), .val (.ref b_1), .val (.ref b_2), .val (.ref r_4)] [(.int (1 : Int32))])) _
      refine XS.goto X19.here hx rfl (pc0 := 165) (pc' := 169) rfl (hb hby at_165) (by decide) (by decide) ?_
      exact kt
    refine Go.fin X19 (v := some (.int (1 : Int32))) (fun h => by rw [Bd.returns] at h; cases h) Bd.notSynchronized ?_ (Nat.le_trans (Nat.add_le_add_right (Nat.add_le_add_right (Nat.add_le_add_right (Nat.add_le_add_right (Nat.add_le_add_right (Nat.add_le_add_right (Nat.add_le_add_right (Nat.add_le_add_right (Nat.add_le_add_right hcl 0) 0) 0) 0) 0) 0) 0) 0) 0) (by decide)) (Nat.le_trans (Nat.add_le_add_right (Nat.add_le_add_right (Nat.add_le_add_right (Nat.add_le_add_right (Nat.add_le_add_right (Nat.add_le_add_right (Nat.add_le_add_right (Nat.add_le_add_right (Nat.add_le_add_right hsl 0) 0) 0) 0) 0) 0) 0) 0) 0) (by decide)) (fun fs hr => retN X19 hx (t := .boolean) Bd.returns (by simp) (hb hby at_169) hr)
    · show Q0 Z p1 p2 p3 h0 n0 _ T19.heap _
      exact ⟨rfl, N19⟩
  have S11 : ∀ (T : State) (locs : List Loc) (cells slots : Nat) (X : Stand p l e room_1 s m #[(.int p1), (.int p2), (.int p3)] below meth c T locs cells slots) (hcl : cells ≤ 0) (hsl : slots ≤ 0) (h : Heap) (eT : T.heap = h) (N : Fr n0 locs) (x3 : Int32) (x4 : Int32)  (K : Keep h0 h []) (h3 : 0 ≤ x3.toInt ∧ x3.toInt ≤ 3) (h4 : 0 ≤ x4.toInt ∧ x4.toInt ≤ 3), Go p e below s (Q0 Z p1 p2 p3 h0 n0) 16 128 T (mkF m 11 #[.val (.int p1), .val (.int p2), .val (.int p3), .val (.int x3), .val (.int x4), .unset, .unset, .unset] []) := by
    intro T locs cells slots X hcl hsl h eT N x3 x4 K h3 h4
    have Zh : n0 ≤ h.size := Nat.le_trans Z0 K.1
    obtain ⟨_, _, ⟨T21, L21, k21, n21⟩, -, X21, ⟨Lc21, hQ21, l21, y21, z21⟩, st21⟩ := Jvm.LawKit.callS X hx (y := (⟨"com/example/lane4/lane4/store/SharedFieldsWaitingEntryPinLaw", "make", "(II)[B"⟩ : MethodName)) hown (mvT hZ (hw _ (List.mem_of_getElem? (i := 0) rfl))) (mvT hZ (hw _ (List.mem_of_getElem? (i := 1) rfl))) (mvT hZ (hw _ (List.mem_of_getElem? (i := 2) rfl))) (mvT hZ (hw _ (List.mem_of_getElem? (i := 3) rfl))) (by decide) (backOf (W := 0) (rm_makF l Z a0 hw [] x3 p2  h n0 Zh  h3) hZ (hw _ (List.mem_of_getElem? (i := 3) rfl)) (hw _ (List.mem_of_getElem? (i := 2) rfl)) (by decide) (by decide)) (g := (mkF m 13 #[.val (.int p1), .val (.int p2), .val (.int p3), .val (.int x3), .val (.int x4), .unset, .unset, .unset] [(.int p2), (.int x3)])) rfl (by rw [hml]; rfl) (argsL := [(.int x3), (.int p2)]) (rest := []) (lenOf pd_1 rfl) rfl (by show 2 * 0 + _ ≤ _; exact Nat.le_of_eq rfl) (hb hby at_13) (fun _ _ => ⟨rfl, eT, (Nat.le_trans (Nat.add_le_add_right hcl 1) (by decide)), (Nat.le_trans (Nat.add_le_add_right hsl 3) (by decide))⟩)
    dsimp only [Pt.U, Pt.locs, Pt.cells, Pt.slots] at X21 l21 y21 z21 st21 hQ21
    subst l21 y21 z21
    obtain ⟨b_21, rfl, N21q, Kq21, fz_b_21, pf21_0⟩ := hQ21
    have g_b_21 : n0 ≤ b_21 := Nat.le_trans Zh fz_b_21
    have sz_b_21 : h0.size ≤ b_21 := Nat.le_trans K.1 fz_b_21
    have K21 : Keep h0 T21.heap [] := Keep.trans K Kq21 all0
    have Z21 : n0 ≤ T21.heap.size := Nat.le_trans Z0 K21.1
    have N21 := Fr.app N N21q
    obtain ⟨_, _, ⟨T22, L22, k22, n22⟩, -, X22, ⟨Lc22, hQ22, l22, y22, z22⟩, st22⟩ := Jvm.LawKit.callS X21 hx (y := (⟨"com/example/lane4/lane4/store/SharedFieldsWaitingEntryPinLaw", "make", "(II)[B"⟩ : MethodName)) hown (mvT hZ (hw _ (List.mem_of_getElem? (i := 0) rfl))) (mvT hZ (hw _ (List.mem_of_getElem? (i := 1) rfl))) (mvT hZ (hw _ (List.mem_of_getElem? (i := 2) rfl))) (mvT hZ (hw _ (List.mem_of_getElem? (i := 3) rfl))) (by decide) (backOf (W := 0) (rm_makF l Z a0 hw [] x4 p3  T21.heap n0 Z21  h4) hZ (hw _ (List.mem_of_getElem? (i := 3) rfl)) (hw _ (List.mem_of_getElem? (i := 2) rfl)) (by decide) (by decide)) (g := (mkF m 21 #[.val (.int p1), .val (.int p2), .val (.int p3), .val (.int x3), .val (.int x4), .val (.ref b_21), .unset, .unset] [(.int p3), (.int x4)])) rfl (by rw [hml]; rfl) (argsL := [(.int x4), (.int p3)]) (rest := []) (lenOf pd_1 rfl) rfl (by show 2 * 0 + _ ≤ _; exact Nat.le_of_eq rfl) (hb hby at_21) (fun _ _ => ⟨rfl, rfl, (Nat.le_trans (Nat.add_le_add_right (Nat.add_le_add_right hcl 1) 1) (by decide)), (Nat.le_trans (Nat.add_le_add_right (Nat.add_le_add_right hsl 3) 3) (by decide))⟩)
    dsimp only [Pt.U, Pt.locs, Pt.cells, Pt.slots] at X22 l22 y22 z22 st22 hQ22
    subst l22 y22 z22
    obtain ⟨b_22, rfl, N22q, Kq22, fz_b_22, pf22_0⟩ := hQ22
    have oldlt_22_b_21 : b_21 < T21.heap.size := pf21_0.lt
    have G23 : VA Z T22.heap b_21 .byte ((makF x3 p2).map Value.int) := pf21_0.keep Kq22 nin0
    have ne_b_21_b_22 : b_21 ≠ b_22 := Nat.ne_of_lt (Nat.lt_of_lt_of_le oldlt_22_b_21 fz_b_22)
    have g_b_22 : n0 ≤ b_22 := Nat.le_trans Z21 fz_b_22
    have sz_b_22 : h0.size ≤ b_22 := Nat.le_trans K21.1 fz_b_22
    have K22 : Keep h0 T22.heap [] := Keep.trans K21 Kq22 all0
    have Z22 : n0 ≤ T22.heap.size := Nat.le_trans Z0 K22.1
    have N22 := Fr.app N21 N22q
    obtain ⟨_, _, ⟨T24, L24, k24, n24⟩, -, X24, ⟨Lc24, hQ24, l24, y24, z24⟩, st24⟩ := Jvm.LawKit.callS X22 hx (y := (⟨"com/example/lane4/lane4/store/SharedFields", "waitingEntry", "([B[B)[B"⟩ : MethodName)) hown (mvT hZ (hw _ (List.mem_of_getElem? (i := 5) rfl))) (mvT hZ (hw _ (List.mem_of_getElem? (i := 6) rfl))) (mvT hZ (hw _ (List.mem_of_getElem? (i := 7) rfl))) (mvT hZ (hw _ (List.mem_of_getElem? (i := 8) rfl))) (by decide) (backOf (W := 0) (rm_waiF l Z a0 hw [] b_21 b_22 (makF x3 p2) (makF x4 p3) T22.heap n0 Z22 G23 pf22_0 (by have q := own_len x3 p2 h3; omega) (by have q := own_len x4 p3 h4; omega) (own_mf _ _) (own_mf _ _)) hZ (hw _ (List.mem_of_getElem? (i := 8) rfl)) (hw _ (List.mem_of_getElem? (i := 7) rfl)) (by decide) (by decide)) (g := (mkF m 30 #[.val (.int p1), .val (.int p2), .val (.int p3), .val (.int x3), .val (.int x4), .val (.ref b_21), .val (.ref b_22), .unset] [(.ref b_22), (.ref b_21)])) rfl (by rw [hml]; rfl) (argsL := [(.ref b_21), (.ref b_22)]) (rest := []) (lenOf pd_2 rfl) rfl (by show 2 * 0 + _ ≤ _; exact Nat.le_of_eq rfl) (hb hby at_30) (fun _ _ => ⟨rfl, rfl, (Nat.le_trans (Nat.add_le_add_right (Nat.add_le_add_right (Nat.add_le_add_right hcl 1) 1) 1) (by decide)), (Nat.le_trans (Nat.add_le_add_right (Nat.add_le_add_right (Nat.add_le_add_right hsl 3) 3) 7) (by decide))⟩)
    dsimp only [Pt.U, Pt.locs, Pt.cells, Pt.slots] at X24 l24 y24 z24 st24 hQ24
    subst l24 y24 z24
    obtain ⟨r_24, rfl, N24q, Kq24, fz_r_24, pf24_0⟩ := hQ24
    have oldlt_24_b_21 : b_21 < T22.heap.size := G23.lt
    have oldlt_24_b_22 : b_22 < T22.heap.size := pf22_0.lt
    have G25 : VA Z T24.heap b_21 .byte ((makF x3 p2).map Value.int) := G23.keep Kq24 nin0
    have G26 : VA Z T24.heap b_22 .byte ((makF x4 p3).map Value.int) := pf22_0.keep Kq24 nin0
    have ne_b_21_r_24 : b_21 ≠ r_24 := Nat.ne_of_lt (Nat.lt_of_lt_of_le oldlt_24_b_21 fz_r_24)
    have ne_b_22_r_24 : b_22 ≠ r_24 := Nat.ne_of_lt (Nat.lt_of_lt_of_le oldlt_24_b_22 fz_r_24)
    have g_r_24 : n0 ≤ r_24 := Nat.le_trans Z22 fz_r_24
    have sz_r_24 : h0.size ≤ r_24 := Nat.le_trans K22.1 fz_r_24
    have K24 : Keep h0 T24.heap [] := Keep.trans K22 Kq24 all0
    have Z24 : n0 ≤ T24.heap.size := Nat.le_trans Z0 K24.1
    have N24 := Fr.app N22 N24q
    refine Go.step (T' := T24) (f' := (mkF m 35 #[.val (.int p1), .val (.int p2), .val (.int p3), .val (.int x3), .val (.int x4), .val (.ref b_21), .val (.ref b_22), .val (.ref r_24)] [])) (fun t kt => ?_) ?_
    · show Steps p.tables e below (T.setTop (mkF m 11 #[.val (.int p1), .val (.int p2), .val (.int p3), .val (.int x3), .val (.int x4), .unset, .unset, .unset] [])) _
      refine XS.iloadN X.here hx rfl (hb hby at_11) rfl ?_
      show Steps p.tables e below (T.setTop (mkF m 12 #[.val (.int p1), .val (.int p2), .val (.int p3), .val (.int x3), .val (.int x4), .unset, .unset, .unset] [(.int x3)])) _
      refine XS.iloadN X.here hx rfl (hb hby at_12) rfl ?_
      show Steps p.tables e below (T.setTop (mkF m 13 #[.val (.int p1), .val (.int p2), .val (.int p3), .val (.int x3), .val (.int x4), .unset, .unset, .unset] [(.int p2), (.int x3)])) _
      refine st21 _ ?_
      show Steps p.tables e below (T21.setTop (mkF m 16 #[.val (.int p1), .val (.int p2), .val (.int p3), .val (.int x3), .val (.int x4), .unset, .unset, .unset] [(.ref b_21)])) _
      refine XS.astore X21.here hx rfl (hb hby at_16) rfl rfl (l' := #[.val (.int p1), .val (.int p2), .val (.int p3), .val (.int x3), .val (.int x4), .val (.ref b_21), .unset, .unset]) rfl ?_
      show Steps p.tables e below (T21.setTop (mkF m 18 #[.val (.int p1), .val (.int p2), .val (.int p3), .val (.int x3), .val (.int x4), .val (.ref b_21), .unset, .unset] [])) _
      refine XS.iload X21.here hx rfl (hb hby at_18) rfl ?_
      show Steps p.tables e below (T21.setTop (mkF m 20 #[.val (.int p1), .val (.int p2), .val (.int p3), .val (.int x3), .val (.int x4), .val (.ref b_21), .unset, .unset] [(.int x4)])) _
      refine XS.iloadN X21.here hx rfl (hb hby at_20) rfl ?_
      show Steps p.tables e below (T21.setTop (mkF m 21 #[.val (.int p1), .val (.int p2), .val (.int p3), .val (.int x3), .val (.int x4), .val (.ref b_21), .unset, .unset] [(.int p3), (.int x4)])) _
      refine st22 _ ?_
      show Steps p.tables e below (T22.setTop (mkF m 24 #[.val (.int p1), .val (.int p2), .val (.int p3), .val (.int x3), .val (.int x4), .val (.ref b_21), .unset, .unset] [(.ref b_22)])) _
      refine XS.astore X22.here hx rfl (hb hby at_24) rfl rfl (l' := #[.val (.int p1), .val (.int p2), .val (.int p3), .val (.int x3), .val (.int x4), .val (.ref b_21), .val (.ref b_22), .unset]) rfl ?_
      show Steps p.tables e below (T22.setTop (mkF m 26 #[.val (.int p1), .val (.int p2), .val (.int p3), .val (.int x3), .val (.int x4), .val (.ref b_21), .val (.ref b_22), .unset] [])) _
      refine XS.aload X22.here hx rfl (hb hby at_26) rfl rfl ?_
      show Steps p.tables e below (T22.setTop (mkF m 28 #[.val (.int p1), .val (.int p2), .val (.int p3), .val (.int x3), .val (.int x4), .val (.ref b_21), .val (.ref b_22), .unset] [(.ref b_21)])) _
      refine XS.aload X22.here hx rfl (hb hby at_28) rfl rfl ?_
      show Steps p.tables e below (T22.setTop (mkF m 30 #[.val (.int p1), .val (.int p2), .val (.int p3), .val (.int x3), .val (.int x4), .val (.ref b_21), .val (.ref b_22), .unset] [(.ref b_22), (.ref b_21)])) _
      refine st24 _ ?_
      show Steps p.tables e below (T24.setTop (mkF m 33 #[.val (.int p1), .val (.int p2), .val (.int p3), .val (.int x3), .val (.int x4), .val (.ref b_21), .val (.ref b_22), .unset] [(.ref r_24)])) _
      refine XS.astore X24.here hx rfl (hb hby at_33) rfl rfl (l' := #[.val (.int p1), .val (.int p2), .val (.int p3), .val (.int x3), .val (.int x4), .val (.ref b_21), .val (.ref b_22), .val (.ref r_24)]) rfl ?_
      exact kt
    exact S35 _ _ _ _ X24 (Nat.le_trans (Nat.add_le_add_right (Nat.add_le_add_right (Nat.add_le_add_right hcl 1) 1) 1) (by decide)) (Nat.le_trans (Nat.add_le_add_right (Nat.add_le_add_right (Nat.add_le_add_right hsl 3) 3) 7) (by decide)) T24.heap rfl N24 x3 x4 b_21 b_22 r_24 (makF x3 p2) (makF x4 p3) K24 G25 G26 pf24_0 g_b_21 g_b_22 g_r_24 sz_b_21 sz_b_22 sz_r_24 ne_b_21_b_22 ne_b_21_r_24 ne_b_22_r_24 h3 h4 (own_len x3 p2 h3) (own_len x4 p3 h4) rfl rfl
  refine Go.step (T' := s₁) (f' := (mkF m 11 #[.val (.int p1), .val (.int p2), .val (.int p3), .val (.int (p1 &&& (3 : Int32))), .val (.int (((p1.toUInt32 >>> ((2 : Int32) &&& 31).toUInt32).toInt32) &&& (3 : Int32))), .unset, .unset, .unset] [])) (fun t kt => ?_) ?_
  · show Steps p.tables e below (s₁.setTop (mkF m 0 #[.val (.int p1), .val (.int p2), .val (.int p3), .unset, .unset, .unset, .unset, .unset] [])) _
    refine XS.iloadN X0.here hx rfl (hb hby at_0) rfl ?_
    show Steps p.tables e below (s₁.setTop (mkF m 1 #[.val (.int p1), .val (.int p2), .val (.int p3), .unset, .unset, .unset, .unset, .unset] [(.int p1)])) _
    refine XS.iconst X0.here hx rfl (hb hby at_1) ?_
    show Steps p.tables e below (s₁.setTop (mkF m 2 #[.val (.int p1), .val (.int p2), .val (.int p3), .unset, .unset, .unset, .unset, .unset] [(.int (3 : Int32)), (.int p1)])) _
    refine XS.iand X0.here hx rfl (hb hby at_2) rfl ?_
    show Steps p.tables e below (s₁.setTop (mkF m 3 #[.val (.int p1), .val (.int p2), .val (.int p3), .unset, .unset, .unset, .unset, .unset] [(.int (p1 &&& (3 : Int32)))])) _
    refine XS.istoreN X0.here hx rfl (hb hby at_3) rfl (l' := #[.val (.int p1), .val (.int p2), .val (.int p3), .val (.int (p1 &&& (3 : Int32))), .unset, .unset, .unset, .unset]) rfl ?_
    show Steps p.tables e below (s₁.setTop (mkF m 4 #[.val (.int p1), .val (.int p2), .val (.int p3), .val (.int (p1 &&& (3 : Int32))), .unset, .unset, .unset, .unset] [])) _
    refine XS.iloadN X0.here hx rfl (hb hby at_4) rfl ?_
    show Steps p.tables e below (s₁.setTop (mkF m 5 #[.val (.int p1), .val (.int p2), .val (.int p3), .val (.int (p1 &&& (3 : Int32))), .unset, .unset, .unset, .unset] [(.int p1)])) _
    refine XS.iconst X0.here hx rfl (hb hby at_5) ?_
    show Steps p.tables e below (s₁.setTop (mkF m 6 #[.val (.int p1), .val (.int p2), .val (.int p3), .val (.int (p1 &&& (3 : Int32))), .unset, .unset, .unset, .unset] [(.int (2 : Int32)), (.int p1)])) _
    refine XS.iushr X0.here hx rfl (hb hby at_6) rfl ?_
    show Steps p.tables e below (s₁.setTop (mkF m 7 #[.val (.int p1), .val (.int p2), .val (.int p3), .val (.int (p1 &&& (3 : Int32))), .unset, .unset, .unset, .unset] [(.int ((p1.toUInt32 >>> ((2 : Int32) &&& 31).toUInt32).toInt32))])) _
    refine XS.iconst X0.here hx rfl (hb hby at_7) ?_
    show Steps p.tables e below (s₁.setTop (mkF m 8 #[.val (.int p1), .val (.int p2), .val (.int p3), .val (.int (p1 &&& (3 : Int32))), .unset, .unset, .unset, .unset] [(.int (3 : Int32)), (.int ((p1.toUInt32 >>> ((2 : Int32) &&& 31).toUInt32).toInt32))])) _
    refine XS.iand X0.here hx rfl (hb hby at_8) rfl ?_
    show Steps p.tables e below (s₁.setTop (mkF m 9 #[.val (.int p1), .val (.int p2), .val (.int p3), .val (.int (p1 &&& (3 : Int32))), .unset, .unset, .unset, .unset] [(.int (((p1.toUInt32 >>> ((2 : Int32) &&& 31).toUInt32).toInt32) &&& (3 : Int32)))])) _
    refine XS.istore X0.here hx rfl (hb hby at_9) rfl (l' := #[.val (.int p1), .val (.int p2), .val (.int p3), .val (.int (p1 &&& (3 : Int32))), .val (.int (((p1.toUInt32 >>> ((2 : Int32) &&& 31).toUInt32).toInt32) &&& (3 : Int32))), .unset, .unset, .unset]) rfl ?_
    exact kt
  exact S11 _ _ _ _ X0 (Nat.le_trans (Nat.le_refl 0) (by decide)) (Nat.le_trans (Nat.le_refl 0) (by decide)) h0 e0 N0 (p1 &&& (3 : Int32)) (((p1.toUInt32 >>> ((2 : Int32) &&& 31).toUInt32).toInt32) &&& (3 : Int32)) (Keep.refl h0 []) (own_3 p1) (own_3 _)
set_option maxRecDepth 65536 in
set_option maxHeartbeats 40000000 in
theorem comes_1 {Post : Tables → Env → Array Value → State → Outcome → State → Prop} (hpost : ∀ tb e args s v u, (limb_1_1.after args s (.returned v) u = true ∧ limb_1_2.after args s (.returned v) u = true ∧ True) → FrameEnd s (.returned v) u (Jvm.fieldLocs frame_1_writes args s ++ Jvm.arrayLocs frame_1_arrays args s ++ Jvm.staticLocs frame_1_statics s) 16 128 → Post tb e args s (.returned v) u) :
    ArmFor flags0 classFile x code maxLocals ret World_1 tables_1 room_1 Calls_1 rest_1 Pre_1 Post := by
  intro l hfl _ _ p e ha hc hk s m args below hf hA hF happ hP
  obtain ⟨hcalls, hrest, hpre⟩ := hP
  obtain ⟨-, -, -, hnamed, -, -, -, hat⟩ := (Spec.applies_iff hf).mp happ
  obtain ⟨hg, hn⟩ := and_e (Cond.before_iff.mp (show (Jvm.Cond.and given_1 narrow_1).before args s = true from hpre))
  obtain ⟨g1, g2⟩ := and_e hg
  obtain ⟨g3, g4⟩ := and_e g2
  obtain ⟨g5, g6⟩ := and_e g4
  obtain ⟨w0, w1, w2, rfl⟩ : ∃ w0 w1 w2 : Value, args = #[w0, w1, w2] := by
    have hs : args.size = 3 := by simpa [Cond.value, given_1] using g1
    obtain ⟨L⟩ := args
    match L, hs with
    | [w0, w1, w2], _ => exact ⟨w0, w1, w2, rfl⟩
  have hw := fun d (hd : d ∈ tables_1) => atoms_spec (ws := Jvm.Cond.code x code maxLocals ret :: tables_1) hat d (List.mem_cons_of_mem _ hd)
  obtain ⟨i0, ei0⟩ := is_v g3
  obtain rfl : w0 = (.int i0) := Option.some.inj ei0
  obtain ⟨i1, ei1⟩ := is_v g5
  obtain rfl : w1 = (.int i1) := Option.some.inj ei1
  obtain ⟨i2, ei2⟩ := is_v g6
  obtain rfl : w2 = (.int i2) := Option.some.inj ei2
  obtain ⟨n, o, h1, h2, h3, _, L, rfl, ⟨hv, N⟩, hq⟩ := rm_0 l s _ hw tables_1 i0 i1 i2  s.heap s.heap.size (Nat.le_refl _)  p e ha hc hk s m _ below hf ((Spec.applies_iff_loose hf).mp happ).1 ⟨rfl, State.Warmed39.refl s, rfl⟩ trivial
  subst hv
  refine ⟨n, _, h1, h2, h3, hpost _ _ _ _ _ _ ⟨Cond.after_iff.mpr rfl, Cond.after_iff.mpr (eq_i res_at (Term.int_eval (1)) rfl), trivial⟩ ⟨hq.1, hq.2.1, (hq.2.2.sift fun y hy => Or.inr (N y hy)).mono (by decide) (by decide)⟩⟩
theorem main_1_1 : Claimed_1_1 := comes_1 fun _ _ _ _ _ _ h hF => ⟨h.1, hF⟩
theorem main_1_2 : Claimed_1_2 := comes_1 fun _ _ _ _ _ _ h hF => ⟨h.2.1, hF⟩
end Jvm.Pilot.@@N@@
namespace Jvm.Pilot.@@N@@
open Jvm Jvm.ClassFile Sem Op Lib Jvm.Free Jvm.Stand Jvm.Pilot.@@N@@.Jvm.D
/-! MADE BY PROGRAM (witnessworld.py) out of the Statement's table words and the real class files: 10 classes; the members and pool entries that the words name. The judged class is class 1, her method 1. -/
namespace start1
open Jvm.ClassFile
def u (s : String) : CpInfo := .utf8 (stringToUtf16 s)
/-- a pool by its gaps: so many unusable entries, then the entry; so many at the end -/
def gap : Nat → List CpInfo → List CpInfo
  | 0, r => r
  | n + 1, r => .unusable :: gap n r
def poolList (es : List (Nat × CpInfo)) (last : Nat) : List CpInfo := es.foldr (fun e r => gap e.1 (e.2 :: r)) (gap last [])
def pool (es : List (Nat × CpInfo)) (last : Nat) : Array CpInfo := ⟨poolList es last⟩
def fileOf (pool : Array CpInfo) (this : Nat) (attrs : Array Attribute := #[]) (ms : Array MethodInfo := #[]) (fl : Nat := 33) (sup : Nat := 0) (ifs : Array Nat := #[]) (fds : Array FieldInfo := #[]) : ClassFile where
  minorVersion := 0
  majorVersion := 65
  constantPool := pool
  accessFlags := fl
  thisClass := this
  superClass := sup
  interfaces := ifs
  fields := fds
  methods := ms
  attributes := attrs
def plain (name : String) (sup : Option ClassId) : Class where
  name := name
  kind := .ordinary
  loader := none
  accessFlags := 33
  super := sup
  interfaces := #[]
  cf := none
  fields := #[]
  methods := #[]
  instanceTypes := #[]
  staticTypes := #[]
  resolved := #[]
  callSites := []
  init := .initialized
  statics := none
  mirror := none

def pool0 : Array CpInfo := pool [(5, u "<init>"), (0, u "()V"), (1, .class_ 10), (1, u "java/lang/Object")] 113

def k0m0 : Method := { name := "<init>", desc := "()V", sig := { parameters := [], returnType := none }, accessFlags := 1, code := none }
/-- java/lang/Object -/
def k0 : Class := { plain "java/lang/Object" none with
  accessFlags := 33
  interfaces := #[]
  cf := some (fileOf pool0 8 #[] #[{ accessFlags := 1, nameIndex := 5, descriptorIndex := 6, attributes := #[] }] 33 0 #[] #[])
  fields := #[]
  methods := #[k0m0]
  instanceTypes := #[]
  staticTypes := #[]
  resolved := Array.replicate 124 none
  statics := none }

def pool1 : Array CpInfo := pool [(2, .class_ 4), (1, u "java/lang/Object"), (0, u "<init>"), (0, u "()V"), (0, .methodref 8 9), (0, .class_ 10), (0, .nameAndType 11 12), (0, u "com/example/lane4/lane4/store/SharedFieldsWaitingEntryPinLaw"), (0, u "make"), (0, u "(II)[B"), (0, .methodref 14 15), (0, .class_ 16), (0, .nameAndType 17 18), (0, u "com/example/lane4/lane4/store/SharedFields"), (0, u "waitingEntry"), (0, u "([B[B)[B"), (0, .methodref 8 20), (0, .nameAndType 21 22), (0, u "at"), (0, u "([B[B[BI)Z"), (0, .methodref 8 24), (0, .nameAndType 25 26), (0, u "unchanged"), (0, u "([BI)Z"), (0, .methodref 8 28), (0, .nameAndType 29 30), (0, u "expected"), (0, u "([B[BI)I"), (2, u "law"), (0, u "(III)Z")] 5

def k1m0 : Method := { name := "<init>", desc := "()V", sig := { parameters := [], returnType := none }, accessFlags := 2, code := none }
def k1c1 : Code := { maxStack := 4, maxLocals := 8, code := code, exceptionTable := #[], attributes := #[] }
def k1m1 : Method := { name := "law", desc := "(III)Z", sig := { parameters := [.int, .int, .int], returnType := some .boolean }, accessFlags := 9, code := some k1c1 }
def k1c2 : Code := { maxStack := 4, maxLocals := 3, code := method_3_code, exceptionTable := #[], attributes := #[] }
def k1m2 : Method := { name := "make", desc := "(II)[B", sig := { parameters := [.int, .int], returnType := some (.array .byte) }, accessFlags := 10, code := some k1c2 }
def k1c3 : Code := { maxStack := 3, maxLocals := 3, code := method_4_code, exceptionTable := #[], attributes := #[] }
def k1m3 : Method := { name := "expected", desc := "([B[BI)I", sig := { parameters := [(.array .byte), (.array .byte), .int], returnType := some .int }, accessFlags := 10, code := some k1c3 }
def k1c4 : Code := { maxStack := 4, maxLocals := 4, code := method_5_code, exceptionTable := #[], attributes := #[] }
def k1m4 : Method := { name := "at", desc := "([B[B[BI)Z", sig := { parameters := [(.array .byte), (.array .byte), (.array .byte), .int], returnType := some .boolean }, accessFlags := 10, code := some k1c4 }
def k1c5 : Code := { maxStack := 3, maxLocals := 2, code := method_6_code, exceptionTable := #[], attributes := #[] }
def k1m5 : Method := { name := "unchanged", desc := "([BI)Z", sig := { parameters := [(.array .byte), .int], returnType := some .boolean }, accessFlags := 10, code := some k1c5 }
/-- com/example/lane4/lane4/store/SharedFieldsWaitingEntryPinLaw -/
def k1 : Class := { plain "com/example/lane4/lane4/store/SharedFieldsWaitingEntryPinLaw" (some 0) with
  accessFlags := 49
  interfaces := #[]
  cf := some (fileOf pool1 8 #[] #[{ accessFlags := 2, nameIndex := 5, descriptorIndex := 6, attributes := #[] }, { accessFlags := 9, nameIndex := 33, descriptorIndex := 34, attributes := #[] }, { accessFlags := 10, nameIndex := 11, descriptorIndex := 12, attributes := #[] }, { accessFlags := 10, nameIndex := 29, descriptorIndex := 30, attributes := #[] }, { accessFlags := 10, nameIndex := 21, descriptorIndex := 22, attributes := #[] }, { accessFlags := 10, nameIndex := 25, descriptorIndex := 26, attributes := #[] }] 49 2 #[] #[])
  fields := #[]
  methods := #[k1m0, k1m1, k1m2, k1m3, k1m4, k1m5]
  instanceTypes := #[]
  staticTypes := #[]
  resolved := Array.replicate 40 none
  statics := none }

def pool2 : Array CpInfo := pool [(2, .class_ 4), (1, u "java/lang/Object"), (0, u "<init>"), (0, u "()V"), (3, .class_ 12), (1, u "com/example/lane4/lane4/store/SharedFields"), (0, u "NAMES"), (0, u "Ljava/util/List;"), (49, .methodref 65 66), (0, .class_ 67), (0, .nameAndType 68 69), (0, u "java/lang/System"), (0, u "arraycopy"), (0, u "(Ljava/lang/Object;ILjava/lang/Object;II)V"), (15, u "waitingEntry"), (0, u "([B[B)[B"), (83, u "FIELD"), (0, u "Ljava/lang/String;"), (3, u "SEPARATOR"), (0, u "B"), (1, u "GROUPED"), (1, u "BINNED"), (1, u "ENQUEUED_AT")] 49

def k2m0 : Method := { name := "<init>", desc := "()V", sig := { parameters := [], returnType := none }, accessFlags := 2, code := none }
def k2c1 : Code := { maxStack := 5, maxLocals := 3, code := prog_37_method_3_code, exceptionTable := #[], attributes := #[] }
def k2m1 : Method := { name := "waitingEntry", desc := "([B[B)[B", sig := { parameters := [(.array .byte), (.array .byte)], returnType := some (.array .byte) }, accessFlags := 8, code := some k2c1 }
/-- com/example/lane4/lane4/store/SharedFields -/
def k2 : Class := { plain "com/example/lane4/lane4/store/SharedFields" (some 0) with
  accessFlags := 48
  interfaces := #[]
  cf := some (fileOf pool2 10 #[] #[{ accessFlags := 2, nameIndex := 5, descriptorIndex := 6, attributes := #[] }, { accessFlags := 8, nameIndex := 85, descriptorIndex := 86, attributes := #[] }] 48 2 #[] #[{ accessFlags := 24, nameIndex := 170, descriptorIndex := 171, attributes := #[] }, { accessFlags := 24, nameIndex := 13, descriptorIndex := 14, attributes := #[] }, { accessFlags := 26, nameIndex := 175, descriptorIndex := 176, attributes := #[] }, { accessFlags := 24, nameIndex := 178, descriptorIndex := 176, attributes := #[] }, { accessFlags := 24, nameIndex := 180, descriptorIndex := 176, attributes := #[] }, { accessFlags := 26, nameIndex := 182, descriptorIndex := 171, attributes := #[] }])
  fields := #[{ name := "FIELD", type := (.object "java/lang/String"), accessFlags := 24, slot := 0, constantValue := 0 }, { name := "NAMES", type := (.object "java/util/List"), accessFlags := 24, slot := 1, constantValue := 0 }, { name := "SEPARATOR", type := .byte, accessFlags := 26, slot := 2, constantValue := 0 }, { name := "GROUPED", type := .byte, accessFlags := 24, slot := 3, constantValue := 0 }, { name := "BINNED", type := .byte, accessFlags := 24, slot := 4, constantValue := 0 }, { name := "ENQUEUED_AT", type := (.object "java/lang/String"), accessFlags := 26, slot := 5, constantValue := 0 }]
  methods := #[k2m0, k2m1]
  instanceTypes := #[]
  staticTypes := #[(.object "java/lang/String"), (.object "java/util/List"), .byte, .byte, .byte, (.object "java/lang/String")]
  resolved := Array.replicate 232 none
  statics := none }

def pool3 : Array CpInfo := pool [(2, .class_ 4), (1, u "java/lang/Object"), (0, u "<init>"), (0, u "()V"), (1, .class_ 10), (1, u "java/lang/System"), (0, u "allowSecurityManager"), (0, u "I"), (16, u "cons"), (0, u "Ljava/io/Console;"), (77, .class_ 110), (1, u "java/lang/System$CallersHolder"), (43, u "initialErrStream"), (0, u "Ljava/io/PrintStream;"), (19, u "security"), (0, u "Ljava/lang/SecurityManager;"), (31, .class_ 209), (0, u "java/lang/System$1"), (7, u "props"), (0, u "Ljava/util/Properties;"), (2, u "lineSeparator"), (0, u "Ljava/lang/String;"), (96, .class_ 321), (1, u "java/lang/System$LoggerFinder"), (5, .class_ 328), (0, u "java/lang/System$Logger"), (67, u "err"), (2, u "out"), (91, u "notSupportedJnuEncoding"), (15, u "in"), (17, u "initialIn"), (0, u "Ljava/io/InputStream;"), (35, u "bootLayer"), (0, u "Ljava/lang/ModuleLayer;"), (99, .class_ 664), (0, u "java/lang/System$2"), (9, u "NEVER"), (2, u "MAYBE"), (49, u "arraycopy"), (0, u "(Ljava/lang/Object;ILjava/lang/Object;II)V"), (72, .class_ 802), (0, u "java/lang/System$Logger$Level")] 31

def k3m0 : Method := { name := "<init>", desc := "()V", sig := { parameters := [], returnType := none }, accessFlags := 2, code := none }
def k3m1 : Method := { name := "arraycopy", desc := "(Ljava/lang/Object;ILjava/lang/Object;II)V", sig := { parameters := [(.object "java/lang/Object"), .int, (.object "java/lang/Object"), .int, .int], returnType := none }, accessFlags := 265, code := none }
/-- java/lang/System -/
def k3 : Class := { plain "java/lang/System" (some 0) with
  accessFlags := 49
  interfaces := #[]
  cf := some (fileOf pool3 8 #[.nestMembers #[319, 327, 801, 108, 663, 208]] #[{ accessFlags := 2, nameIndex := 5, descriptorIndex := 6, attributes := #[] }, { accessFlags := 265, nameIndex := 727, descriptorIndex := 728, attributes := #[] }] 49 2 #[] #[{ accessFlags := 25, nameIndex := 507, descriptorIndex := 526, attributes := #[] }, { accessFlags := 25, nameIndex := 399, descriptorIndex := 155, attributes := #[] }, { accessFlags := 25, nameIndex := 396, descriptorIndex := 155, attributes := #[] }, { accessFlags := 10, nameIndex := 525, descriptorIndex := 526, attributes := #[] }, { accessFlags := 26, nameIndex := 674, descriptorIndex := 12, attributes := #[] }, { accessFlags := 26, nameIndex := 677, descriptorIndex := 12, attributes := #[] }, { accessFlags := 10, nameIndex := 11, descriptorIndex := 12, attributes := #[] }, { accessFlags := 74, nameIndex := 175, descriptorIndex := 176, attributes := #[] }, { accessFlags := 10, nameIndex := 491, descriptorIndex := 222, attributes := #[] }, { accessFlags := 74, nameIndex := 29, descriptorIndex := 30, attributes := #[] }, { accessFlags := 74, nameIndex := 154, descriptorIndex := 155, attributes := #[] }, { accessFlags := 10, nameIndex := 217, descriptorIndex := 218, attributes := #[] }, { accessFlags := 10, nameIndex := 221, descriptorIndex := 222, attributes := #[] }, { accessFlags := 8, nameIndex := 562, descriptorIndex := 563, attributes := #[] }])
  fields := #[{ name := "in", type := (.object "java/io/InputStream"), accessFlags := 25, slot := 0, constantValue := 0 }, { name := "out", type := (.object "java/io/PrintStream"), accessFlags := 25, slot := 1, constantValue := 0 }, { name := "err", type := (.object "java/io/PrintStream"), accessFlags := 25, slot := 2, constantValue := 0 }, { name := "initialIn", type := (.object "java/io/InputStream"), accessFlags := 10, slot := 3, constantValue := 0 }, { name := "NEVER", type := .int, accessFlags := 26, slot := 4, constantValue := 0 }, { name := "MAYBE", type := .int, accessFlags := 26, slot := 5, constantValue := 0 }, { name := "allowSecurityManager", type := .int, accessFlags := 10, slot := 6, constantValue := 0 }, { name := "security", type := (.object "java/lang/SecurityManager"), accessFlags := 74, slot := 7, constantValue := 0 }, { name := "notSupportedJnuEncoding", type := (.object "java/lang/String"), accessFlags := 10, slot := 8, constantValue := 0 }, { name := "cons", type := (.object "java/io/Console"), accessFlags := 74, slot := 9, constantValue := 0 }, { name := "initialErrStream", type := (.object "java/io/PrintStream"), accessFlags := 74, slot := 10, constantValue := 0 }, { name := "props", type := (.object "java/util/Properties"), accessFlags := 10, slot := 11, constantValue := 0 }, { name := "lineSeparator", type := (.object "java/lang/String"), accessFlags := 10, slot := 12, constantValue := 0 }, { name := "bootLayer", type := (.object "java/lang/ModuleLayer"), accessFlags := 8, slot := 13, constantValue := 0 }]
  methods := #[k3m0, k3m1]
  instanceTypes := #[]
  staticTypes := #[(.object "java/io/InputStream"), (.object "java/io/PrintStream"), (.object "java/io/PrintStream"), (.object "java/io/InputStream"), .int, .int, .int, (.object "java/lang/SecurityManager"), (.object "java/lang/String"), (.object "java/io/Console"), (.object "java/io/PrintStream"), (.object "java/util/Properties"), (.object "java/lang/String"), (.object "java/lang/ModuleLayer")]
  resolved := Array.replicate 834 none
  statics := none }

def pool4 : Array CpInfo := pool [(1, u "java/lang/Cloneable"), (0, .class_ 1), (0, u "java/lang/Object"), (0, .class_ 3)] 3

/-- java/lang/Cloneable -/
def k4 : Class := { plain "java/lang/Cloneable" (some 0) with
  accessFlags := 1537
  interfaces := #[]
  cf := some (fileOf pool4 2 #[] #[] 1537 4 #[] #[])
  fields := #[]
  methods := #[]
  instanceTypes := #[]
  staticTypes := #[]
  resolved := Array.replicate 8 none
  statics := none }

def pool5 : Array CpInfo := pool [(1, u "java/io/Serializable"), (0, .class_ 1), (0, u "java/lang/Object"), (0, .class_ 3)] 3

/-- java/io/Serializable -/
def k5 : Class := { plain "java/io/Serializable" (some 0) with
  accessFlags := 1537
  interfaces := #[]
  cf := some (fileOf pool5 2 #[] #[] 1537 4 #[] #[])
  fields := #[]
  methods := #[]
  instanceTypes := #[]
  staticTypes := #[]
  resolved := Array.replicate 8 none
  statics := none }

/-- the primitive byte -/
def k6 : Class := { plain "byte" none with kind := .primitive 'B', accessFlags := 0x411 }
/-- [B -/
def k7 : Class := { plain "[B" (some 0) with kind := .array 6 .byte, interfaces := #[4, 5], accessFlags := 1041 }

/-- the primitive int -/
def k8 : Class := { plain "int" none with kind := .primitive 'I', accessFlags := 0x411 }
/-- [I -/
def k9 : Class := { plain "[I" (some 0) with kind := .array 8 .int, interfaces := #[4, 5], accessFlags := 1041 }

def heap : Heap := #[]
def classes : Array Class := #[k0, k1, k2, k3, k4, k5, k6, k7, k8, k9]
def interned : List (Array UInt16 × Addr) := []
def slotsUsed : Nat := 0
def theMethod : MethodId := ⟨1, 1⟩
def args0 : Array Value := #[.int 5, .int 3, .int 7]
def aboutOver (below : List Frame) : State where
  vm := { classes := classes, interned := interned.toArray }
  heap := heap
  slotsUsed := slotsUsed
  threads := #[{ frames := .invoking theMethod args0 :: below }]
def below0 : List Frame := [.native { method := ⟨0, 0⟩, args := #[] }]
def about1 : State := aboutOver below0
def p0 : Program := .bare "" "" ""
def e0 : Env := launch0.env 0 0 0
theorem w_frames : about1.frames = Frame.invoking theMethod args0 :: below0 := rfl
set_option maxRecDepth 65536 in
theorem w_args : argsFit about1.vm theMethod args0 = true := by decide +kernel
set_option maxRecDepth 65536 in
theorem w_heap : heapFits about1 = true := by decide +kernel
set_option maxRecDepth 65536 in
theorem w_runnable : about1.curStatus? = some .runnable := by decide +kernel
set_option maxRecDepth 65536 in
theorem w_alone : about1.alone = true := by decide +kernel
set_option maxRecDepth 65536 in
theorem w_named : about1.methodNamed? x = some theMethod := by decide +kernel
set_option maxRecDepth 65536 in
theorem w_hears : about1.hears theMethod below0 = true := by decide +kernel
set_option maxRecDepth 65536 in
theorem w_ripe : about1.ripe theMethod args0 below0 = true := by decide +kernel
theorem w_running : about1.status = .running := rfl
set_option maxRecDepth 65536 in
theorem w_room : about1.hasRoom e0.platform room_1 = true :=
  launch0.hasRoom_least _ room_1 (by decide +kernel) (by decide +kernel) (by decide +kernel) (by decide +kernel) (by decide +kernel) (by decide +kernel)
theorem allAtoms_all (ts : List Jvm.Cond) (a : Array Jvm.Value) (st : Jvm.State) : (allAtoms ts).before a st = ts.all (fun c => c.before a st) := by
  induction ts with
  | nil => rfl
  | cons c t ih =>
    show (Jvm.Cond.and c (allAtoms t)).before a st = _
    rw [Jvm.Cond.before_and, ih, List.all_cons]
def words1 : List Jvm.Cond := Jvm.Cond.code x code maxLocals ret :: tables_1
/-- a 'code' word, met by the world's own term for the bytes: nothing is compared byte by byte -/
theorem code_word {y : MethodName} {bytes : ByteArray} {mx : Nat} {rt : Option FieldType} {a : Array Value} {s : State} {m : MethodId} {meth : Method} {c : Code} (h1 : s.methodNamed? y = some m) (h2 : s.vm.method? m = some meth) (h3 : meth.code = some c) (h4 : c.code = bytes)
    (h5 : (c.maxLocals == mx && c.exceptionTable.isEmpty && decide (c.maxStack ≤ mostOperands) && decide (meth.sig.returnType = rt) && !meth.locks && decide (parseMethodDescriptor y.desc = some meth.sig)) = true) : (Jvm.Cond.code y bytes mx rt).before a s = true := by
  simp only [Bool.and_eq_true, beq_iff_eq, Bool.not_eq_true', decide_eq_true_eq] at h5
  obtain ⟨⟨⟨⟨⟨g1, g2⟩, g3⟩, g4⟩, g5⟩, g6⟩ := h5
  simp [Cond.before, Cond.holds, Cond.value, h1, h2, h3, h4, g1, g2, g3, g4, g5, g6]
def isCode : Jvm.Cond → Bool
  | .code _ _ _ _ => true
  | _ => false
theorem all_split {L : List Jvm.Cond} {P : Jvm.Cond → Bool} (h1 : L.all (fun c => isCode c || P c) = true) (h2 : ∀ c ∈ L.filter isCode, P c = true) : L.all P = true := by
  refine List.all_eq_true.mpr fun c hc => ?_
  have h := List.all_eq_true.mp h1 c hc
  rcases Bool.eq_false_or_eq_true (isCode c) with hi | hi
  · exact h2 c (List.mem_filter.mpr ⟨hc, hi⟩)
  · simpa [hi] using h
set_option maxRecDepth 65536 in
theorem w_c0 : (Jvm.Cond.code x code maxLocals ret).before args0 about1 = true := code_word (m := ⟨1, 1⟩) (meth := k1m1) (c := k1c1) (by decide +kernel) rfl rfl rfl (by decide +kernel)
set_option maxRecDepth 65536 in
theorem w_c1 : (Jvm.Cond.code ({ cls := "com/example/lane4/lane4/store/SharedFieldsWaitingEntryPinLaw", name := "make", desc := "(II)[B" } : Jvm.MethodName) method_3_code (3 : Nat) (Option.some (Jvm.ClassFile.FieldType.array Jvm.ClassFile.FieldType.byte))).before args0 about1 = true := code_word (m := ⟨1, 2⟩) (meth := k1m2) (c := k1c2) (by decide +kernel) rfl rfl rfl (by decide +kernel)
set_option maxRecDepth 65536 in
theorem w_c2 : (Jvm.Cond.code ({ cls := "com/example/lane4/lane4/store/SharedFields", name := "waitingEntry", desc := "([B[B)[B" } : Jvm.MethodName) prog_37_method_3_code (3 : Nat) (Option.some (Jvm.ClassFile.FieldType.array Jvm.ClassFile.FieldType.byte))).before args0 about1 = true := code_word (m := ⟨2, 1⟩) (meth := k2m1) (c := k2c1) (by decide +kernel) rfl rfl rfl (by decide +kernel)
set_option maxRecDepth 65536 in
theorem w_c3 : (Jvm.Cond.code ({ cls := "com/example/lane4/lane4/store/SharedFieldsWaitingEntryPinLaw", name := "at", desc := "([B[B[BI)Z" } : Jvm.MethodName) method_5_code (4 : Nat) (Option.some Jvm.ClassFile.FieldType.boolean)).before args0 about1 = true := code_word (m := ⟨1, 4⟩) (meth := k1m4) (c := k1c4) (by decide +kernel) rfl rfl rfl (by decide +kernel)
set_option maxRecDepth 65536 in
theorem w_c4 : (Jvm.Cond.code ({ cls := "com/example/lane4/lane4/store/SharedFieldsWaitingEntryPinLaw", name := "expected", desc := "([B[BI)I" } : Jvm.MethodName) method_4_code (3 : Nat) (Option.some Jvm.ClassFile.FieldType.int)).before args0 about1 = true := code_word (m := ⟨1, 3⟩) (meth := k1m3) (c := k1c3) (by decide +kernel) rfl rfl rfl (by decide +kernel)
set_option maxRecDepth 65536 in
theorem w_c5 : (Jvm.Cond.code ({ cls := "com/example/lane4/lane4/store/SharedFieldsWaitingEntryPinLaw", name := "unchanged", desc := "([BI)Z" } : Jvm.MethodName) method_6_code (2 : Nat) (Option.some Jvm.ClassFile.FieldType.boolean)).before args0 about1 = true := code_word (m := ⟨1, 5⟩) (meth := k1m5) (c := k1c5) (by decide +kernel) rfl rfl rfl (by decide +kernel)
def codes1 : List Jvm.Cond := [Jvm.Cond.code x code maxLocals ret, Jvm.Cond.code ({ cls := "com/example/lane4/lane4/store/SharedFieldsWaitingEntryPinLaw", name := "make", desc := "(II)[B" } : Jvm.MethodName) method_3_code (3 : Nat) (Option.some (Jvm.ClassFile.FieldType.array Jvm.ClassFile.FieldType.byte)), Jvm.Cond.code ({ cls := "com/example/lane4/lane4/store/SharedFields", name := "waitingEntry", desc := "([B[B)[B" } : Jvm.MethodName) prog_37_method_3_code (3 : Nat) (Option.some (Jvm.ClassFile.FieldType.array Jvm.ClassFile.FieldType.byte)), Jvm.Cond.code ({ cls := "com/example/lane4/lane4/store/SharedFieldsWaitingEntryPinLaw", name := "at", desc := "([B[B[BI)Z" } : Jvm.MethodName) method_5_code (4 : Nat) (Option.some Jvm.ClassFile.FieldType.boolean), Jvm.Cond.code ({ cls := "com/example/lane4/lane4/store/SharedFieldsWaitingEntryPinLaw", name := "expected", desc := "([B[BI)I" } : Jvm.MethodName) method_4_code (3 : Nat) (Option.some Jvm.ClassFile.FieldType.int), Jvm.Cond.code ({ cls := "com/example/lane4/lane4/store/SharedFieldsWaitingEntryPinLaw", name := "unchanged", desc := "([BI)Z" } : Jvm.MethodName) method_6_code (2 : Nat) (Option.some Jvm.ClassFile.FieldType.boolean)]
set_option maxRecDepth 65536 in
theorem codes_eq : words1.filter isCode = codes1 := rfl
theorem w_codes : ∀ c ∈ words1.filter isCode, c.before args0 about1 = true := by
  rw [codes_eq]
  intro c hc
  simp only [codes1, List.mem_cons, List.not_mem_nil, or_false] at hc
  rcases hc with rfl | rfl | rfl | rfl | rfl | rfl
  · exact w_c0
  · exact w_c1
  · exact w_c2
  · exact w_c3
  · exact w_c4
  · exact w_c5
set_option maxRecDepth 65536 in
theorem w_t1 : words1.all (fun c => isCode c || c.before args0 about1) = true := by decide +kernel
theorem w_tables : (allAtoms (Jvm.Cond.code x code maxLocals ret :: tables_1)).before args0 about1 = true := by
  rw [allAtoms_all]
  show words1.all (fun c => c.before args0 about1) = true
  refine all_split ?_ w_codes
  rw [w_t1]
set_option maxRecDepth 65536 in
theorem w_case : (Jvm.Cond.and given_1 narrow_1).before args0 about1 = true := by decide +kernel
theorem w_applies : (headSpec (Jvm.Cond.code x code maxLocals ret :: tables_1) room_1).applies x e0.platform about1 = true :=
  (Spec.applies_iff w_frames).mpr ⟨w_running, w_runnable, w_alone, w_named, w_hears, w_ripe, w_room, w_tables⟩
theorem atStart : AtStart classFile x code maxLocals ret World_1 tables_1 room_1 Calls_1 rest_1 Pre_1 launch0 p0 e0 about1 theMethod args0 below0 :=
  ⟨lists_1, trivial, launch0.admits_env _ _ _, launch0.least_env, fairChoices_fair.cas, fairChoices_fair.clock, w_frames, w_args, w_heap, w_applies, trivial, trivial, w_case⟩
end start1
theorem witness_1 : WitnessClaimed_1 := ⟨start1.p0, start1.e0, start1.about1, start1.theMethod, start1.args0, start1.below0, start1.atStart⟩
end Jvm.Pilot.@@N@@
