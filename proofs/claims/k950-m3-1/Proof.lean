import JvmDerived
import JvmDerived.Pilot.@@N@@Statement
import JvmDerived.Pilot.@@N@@Code
set_option linter.unusedVariables false
set_option linter.unusedSimpArgs false
namespace Jvm.RoadKit
open Sem ClassFile Op Lib Jvm.Stand Jvm.Free Jvm.LawKit
section New
variable {p : Program} {l : Launch} {e : Env} {R : Room} {s : State} {m : MethodId} {args : Array Value} {below : List Frame} {meth : Method} {c : Code} {T : State} {locs : List Loc} {cells slots : Nat}
theorem retI (X : Stand p l e R s m args below meth c T locs cells slots) (hx : p.tables.exec = Jvm.exec) {pc : Nat} {Ls : Array Slot} {z : Int32} {rest : List Value} (hret : meth.sig.returnType = some .int) (hd : decode c.code pc = .ok (.ireturn, 1)) {fs : List Frame}
    (hl : ∀ (f : JFrame) (acts : List Action), f.method = m → f.locked = none → f.entered = [] → (doReturn e (T.setTop f) acts (some (.int z))).1 = T.setFrames fs) : Steps p.tables e below (T.setTop (mkF m pc Ls (.int z :: rest))) (T.setFrames fs) := by
  have hm' : T.vm.method? m = some meth := X.method'
  have hn : narrow .int (.int z) = .int z := rfl
  show Steps p.tables e below (T.setTop { method := m, pc := pc, locals := Ls, stack := _ :: rest, locked := none }) _
  jvm_step X.here [X.here.top, hx, hd, hm', hret, hn]
  first | (intro acts; rw [hl _ acts rfl rfl rfl]) | rw [hl _ _ rfl rfl rfl]
  exact Steps.refl _
/-- from here the walk comes to a good end -/
def Go (p : Program) (e : Env) (below : List Frame) (s : State) (Q : Option Value → Heap → List Loc → Prop) (C S : Nat) (T : State) (f : JFrame) : Prop :=
  ∃ s₂ o, Steps p.tables e below (T.setTop f) s₂ ∧ s₂.status = .running ∧ Ended s₂ below o ∧ ∃ v L, o = .returned v ∧ Q v s₂.heap L ∧ FrameEnd s o s₂ L C S
theorem Go.step {Q : Option Value → Heap → List Loc → Prop} {C S : Nat} {T' : State} {f f' : JFrame} (k : ∀ t, Steps p.tables e below (T'.setTop f') t → Steps p.tables e below (T.setTop f) t) (h : Go p e below s Q C S T' f') : Go p e below s Q C S T f := by
  obtain ⟨s₂, o, h1, h2⟩ := h
  exact ⟨s₂, o, k _ h1, h2⟩
theorem Go.cast {Q : Option Value → Heap → List Loc → Prop} {C S : Nat} {f f' : JFrame} (q : f = f') (h : Go p e below s Q C S T f') : Go p e below s Q C S T f := q ▸ h
theorem Go.fin (X : Stand p l e R s m args below meth c T locs cells slots) {Q : Option Value → Heap → List Loc → Prop} {C S : Nat} {f : JFrame} {v : Option Value} (hv : meth.sig.returnType = none → v = none) (hl : meth.locks = false) (hQ : Q v T.heap locs) (hc : cells ≤ C) (hs : slots ≤ S)
    (k : ∀ fs, (∀ (f : JFrame) (acts : List Action), f.method = m → f.locked = none → f.entered = [] → (doReturn e (T.setTop f) acts v).1 = T.setFrames fs) → Steps p.tables e below (T.setTop f) (T.setFrames fs)) : Go p e below s Q C S T f := by
  obtain ⟨fs, hr, hrun, hended, hW, hsame⟩ := X.leave (v := v) hv hl
  exact ⟨_, _, k fs hr, hrun, hended, v, locs, rfl, hQ, ⟨_, rfl⟩, hW, hsame.mono hc hs⟩
theorem own_lrem (x y : Int64) : x - (x / y) * y = x % y := lrem_mod x y
theorem own_irem (x y : Int32) : x - (x / y) * y = x % y := by
  apply Int32.toInt_inj.mp
  have h1 := Int32.le_toInt (x % y)
  have h2 := Int32.toInt_lt (x % y)
  rw [Int32.toInt_sub, Int32.toInt_mul, Int32.toInt_div, Int.bmod_mul_bmod, Int.sub_bmod_bmod, Int.mul_comm (x.toInt.tdiv y.toInt), ← Int.tmod_def, ← Int32.toInt_mod]
  exact Int.bmod_eq_of_le_mul_two (by omega) (by omega)
theorem own_fin {x : Int32} {n : Nat} (h0 : 0 ≤ x.toInt) (h1 : x.toInt < n) (h2 : n ≤ 2147483648) : ∃ k : Fin n, x = Int32.ofNat k.val := by
  refine ⟨⟨x.toInt.toNat, by omega⟩, Int32.toInt_inj.mp ?_⟩
  have q : (x.toInt.toNat).toInt32.toInt = x.toInt.toNat := len_toInt (by omega)
  show x.toInt = (x.toInt.toNat).toInt32.toInt
  rw [q]; omega
theorem own_i2c {x : Int32} (h0 : 0 ≤ x.toInt) (h1 : x.toInt < 65536) : x.toUInt32.toUInt16.toUInt32.toInt32 = x := Int32.toInt_inj.mp (by have := c_i2c x; omega)
theorem own_rem (x y : Int32) (h0 : 0 ≤ x.toInt) : (x % y).toInt = x.toInt % y.toInt := by rw [Int32.toInt_mod, (tr _ _).1 h0]
theorem own_remL (x y : Int64) (h0 : 0 ≤ x.toInt) : (x % y).toInt = x.toInt % y.toInt := by rw [Int64.toInt_mod, (tr _ _).1 h0]
theorem own_div (x y : Int32) (h0 : 0 ≤ x.toInt) (h1 : 0 < y.toInt) : (x / y).toInt = x.toInt / y.toInt := (c_idiv x y _ rfl (fun q => by rw [q] at h1; exact absurd h1 (by decide))).1 h0
theorem own_add {x y : Int32} (h0 : -2147483648 ≤ x.toInt + y.toInt) (h1 : x.toInt + y.toInt < 2147483648) : (x + y).toInt = x.toInt + y.toInt := by have := c_iadd x y; have := rng32 (x + y); omega
theorem own_sub {x y : Int32} (h0 : -2147483648 ≤ x.toInt - y.toInt) (h1 : x.toInt - y.toInt < 2147483648) : (x - y).toInt = x.toInt - y.toInt := by have := c_isub x y; have := rng32 (x - y); omega
theorem own_mul {x y : Int32} (h0 : -2147483648 ≤ x.toInt * y.toInt) (h1 : x.toInt * y.toInt < 2147483648) : (x * y).toInt = x.toInt * y.toInt := by have := c_imul x y; have := rng32 (x * y); omega
theorem own_nat {j : Int32} (h0 : 0 ≤ j.toInt) : (j.toNatClampNeg : Int) = j.toInt := by simp only [Int32.toNatClampNeg]; omega
section Heaps
variable {Z : State} {h h' : Heap} {a b : Addr} {ty : FieldType} {vs : List Value} {sl : Nat} {v : Value} {ws : List Addr}
/-- an array and all that lies in it -/
def VA (Z : State) (h : Heap) (a : Addr) (ty : FieldType) (vs : List Value) : Prop := ∃ c : Cell, Arr Z h a c ty ∧ c.slots.toList = vs ∧ vs.length < 2 ^ 31
theorem VA.lt (F : VA Z h a ty vs) : a < h.size := by obtain ⟨c, A, -⟩ := F; exact A.lt
theorem VA.len (F : VA Z h a ty vs) : vs.length < 2 ^ 31 := by obtain ⟨c, A, -, r⟩ := F; exact r
theorem VA.ext (F : VA Z h a ty vs) (E : Ext h h') : VA Z h' a ty vs := by obtain ⟨c, A, r⟩ := F; exact ⟨c, A.ext E, r⟩
theorem VA.other (F : VA Z h b ty vs) (W : Wr h h' a sl v) (q : b ≠ a) : VA Z h' b ty vs := by obtain ⟨c, A, r⟩ := F; exact ⟨c, A.other W q, r⟩
theorem VA.keep (F : VA Z h a ty vs) (K : Keep h h' ws) (q : a ∉ ws) : VA Z h' a ty vs := by obtain ⟨c, A, r⟩ := F; exact ⟨c, ⟨K.2.1 a c A.1 q, A.2⟩, r⟩
theorem VA.new {k : ClassId} {n : Int32} (A : Arr Z h a (newA k ty n) ty) (q : ¬ n < 0) : VA Z h a ty (List.replicate n.toNatClampNeg (defaultValue ty)) :=
  ⟨_, A, by simp [newA], by rw [List.length_replicate]; exact (back32 q).2⟩
theorem VA.inb (F : VA Z h a ty vs) {j : Int32} (h0 : 0 ≤ j.toInt) (h1 : j.toInt < vs.length) : ∃ c : Cell, Arr Z h a c ty ∧ ¬ (j < 0 ∨ c.slots.size ≤ j.toNatClampNeg) ∧ c.slots[j.toNatClampNeg]? = vs[j.toNatClampNeg]? ∧ ∀ h' v, Wr h h' a j.toNatClampNeg v → VA Z h' a ty (vs.set j.toNatClampNeg v) := by
  obtain ⟨c, A, rfl, r⟩ := F
  have hj := own_nat h0
  rw [Array.length_toList] at h1
  refine ⟨c, A, ?_, (Array.getElem?_toList ..).symm, fun h' v W => ⟨_, A.same W, ?_, ?_⟩⟩
  · rw [Int32.lt_iff_toInt_lt]
    have k0 : (0 : Int32).toInt = 0 := rfl
    omega
  · simp [Cell.setSlot]
  · rw [List.length_set]; exact r
theorem VA.ne_exa {C : String} {a0 : Array Value} {k : Nat} (F : VA Z h b ty vs) (G : Exa Z h a C) (wi : (Cond.instantiable C k).before a0 Z = true) : a ≠ b := by obtain ⟨c, A, -⟩ := F; exact ne_arr G wi A
end Heaps
theorem own_psel {y : MethodName} {n : Nat} (wi : (Cond.instantiable y.cls n).before args s = true) (hpriv : s.PrivateAt y) (hinst : (Cond.instanceMethod y).before args s = true) (hy : y.cls ≠ "java/lang/invoke/MethodHandle" ∧ y.cls ≠ "java/lang/invoke/VarHandle") : (Cond.selects y.cls y y).before args s = true := by
  obtain ⟨c, k, h1, h2, -, h4, -, -⟩ := Cond.instantiable_spec wi
  exact selects_self_of_private h1 h2 (by cases q : k.isInterface; rfl; rw [q] at h4; simp at h4) hpriv hinst hy
section Steps2
variable {Z : State} {h : Heap} {a : Addr} {a0 : Array Value}
theorem ldI (X : Stand p l e R s m args below meth c T locs cells slots) (hx : p.tables.exec = Jvm.exec) (hZ : Z.Warmed39 s.vm) (eT : T.heap = h) {vs : List Int32} (F : VA Z h a .int (vs.map Value.int)) {j : Int32} (h0 : 0 ≤ j.toInt) (h1 : j.toInt < vs.length)
    {g : JFrame} (hg : g.method = m) {rest : List Value} (hs : g.stack = .int j :: .ref a :: rest) (hd : decode c.code g.pc = .ok (.iaload, 1)) (target : State)
    (k : Steps p.tables e below (T.setTop { g with pc := g.pc + 1, stack := .int (vs.getD j.toNatClampNeg 0) :: rest }) target) : Steps p.tables e below (T.setTop g) target := by
  obtain ⟨cl, A, q1, q2, -⟩ := F.inb h0 (by rw [List.length_map]; exact h1)
  have hj := own_nat h0
  refine X.iaload hx (j := j) (v := .int (vs.getD j.toNatClampNeg 0)) (by rw [eT]; exact A.1) (State.isArrayOf_alike hZ.alike A.2.1) A.2.2 q1 ?_ hg hs hd target k
  rw [q2, List.getElem?_map, List.getD_eq_getElem?_getD, List.getElem?_eq_getElem (by omega)]; rfl
theorem ldJ (X : Stand p l e R s m args below meth c T locs cells slots) (hx : p.tables.exec = Jvm.exec) (hZ : Z.Warmed39 s.vm) (eT : T.heap = h) {vs : List Int64} (F : VA Z h a .long (vs.map Value.long)) {j : Int32} (h0 : 0 ≤ j.toInt) (h1 : j.toInt < vs.length)
    {g : JFrame} (hg : g.method = m) {rest : List Value} (hs : g.stack = .int j :: .ref a :: rest) (hd : decode c.code g.pc = .ok (.laload, 1)) (target : State)
    (k : Steps p.tables e below (T.setTop { g with pc := g.pc + 1, stack := .long (vs.getD j.toNatClampNeg 0) :: rest }) target) : Steps p.tables e below (T.setTop g) target := by
  obtain ⟨cl, A, q1, q2, -⟩ := F.inb h0 (by rw [List.length_map]; exact h1)
  have hj := own_nat h0
  refine X.laload hx (j := j) (v := .long (vs.getD j.toNatClampNeg 0)) (by rw [eT]; exact A.1) (State.isArrayOf_alike hZ.alike A.2.1) A.2.2 q1 ?_ hg hs hd target k
  rw [q2, List.getElem?_map, List.getD_eq_getElem?_getD, List.getElem?_eq_getElem (by omega)]; rfl
theorem ldB (X : Stand p l e R s m args below meth c T locs cells slots) (hx : p.tables.exec = Jvm.exec) (hZ : Z.Warmed39 s.vm) (eT : T.heap = h) {vs : List Int32} (F : VA Z h a .byte (vs.map Value.int)) {j : Int32} (h0 : 0 ≤ j.toInt) (h1 : j.toInt < vs.length)
    {g : JFrame} (hg : g.method = m) {rest : List Value} (hs : g.stack = .int j :: .ref a :: rest) (hd : decode c.code g.pc = .ok (.baload, 1)) (target : State)
    (k : Steps p.tables e below (T.setTop { g with pc := g.pc + 1, stack := .int (vs.getD j.toNatClampNeg 0) :: rest }) target) : Steps p.tables e below (T.setTop g) target := by
  obtain ⟨cl, A, q1, q2, -⟩ := F.inb h0 (by rw [List.length_map]; exact h1)
  have hj := own_nat h0
  refine X.baloadBytes hx (j := j) (v := .int (vs.getD j.toNatClampNeg 0)) (by rw [eT]; exact A.1) (State.isArrayOf_alike hZ.alike A.2.1) A.2.2 q1 ?_ hg hs hd target k
  rw [q2, List.getElem?_map, List.getD_eq_getElem?_getD, List.getElem?_eq_getElem (by omega)]; rfl
theorem ldR (X : Stand p l e R s m args below meth c T locs cells slots) (hx : p.tables.exec = Jvm.exec) (hZ : Z.Warmed39 s.vm) (eT : T.heap = h) {ty : FieldType} {vs : List Addr} (F : VA Z h a ty (vs.map Value.ref)) (hty : ty.isReference = true) {j : Int32} (h0 : 0 ≤ j.toInt) (h1 : j.toInt < vs.length)
    {g : JFrame} (hg : g.method = m) {rest : List Value} (hs : g.stack = .int j :: .ref a :: rest) (hd : decode c.code g.pc = .ok (.aaload, 1)) (target : State)
    (k : Steps p.tables e below (T.setTop { g with pc := g.pc + 1, stack := .ref (vs.getD j.toNatClampNeg 0) :: rest }) target) : Steps p.tables e below (T.setTop g) target := by
  obtain ⟨cl, A, q1, q2, -⟩ := F.inb h0 (by rw [List.length_map]; exact h1)
  have hj := own_nat h0
  refine X.aaload hx (j := j) (v := .ref (vs.getD j.toNatClampNeg 0)) (by rw [eT]; exact A.1) (State.isArrayOf_alike hZ.alike A.2.1) hty A.2.2 q1 ?_ hg hs hd target k
  rw [q2, List.getElem?_map, List.getD_eq_getElem?_getD, List.getElem?_eq_getElem (by omega)]; rfl
theorem lenA (X : Stand p l e R s m args below meth c T locs cells slots) (hx : p.tables.exec = Jvm.exec) (hZ : Z.Warmed39 s.vm) (eT : T.heap = h) {ty : FieldType} {vs : List Value} (F : VA Z h a ty vs) {n : Int32} (hn : (vs.length : Int) = n.toInt)
    {g : JFrame} (hg : g.method = m) {rest : List Value} (hs : g.stack = .ref a :: rest) (hd : decode c.code g.pc = .ok (.arraylength, 1)) (target : State)
    (k : Steps p.tables e below (T.setTop { g with pc := g.pc + 1, stack := .int n :: rest }) target) : Steps p.tables e below (T.setTop g) target := by
  obtain ⟨cl, A, rfl, r⟩ := F
  refine X.arraylength hx (by rw [eT]; exact A.1) (State.isArrayOf_alike hZ.alike A.2.1) hg hs hd target ?_
  have e : cl.slots.size.toInt32 = n := Int32.toInt_inj.mp (by rw [len_toInt (by rw [← Array.length_toList]; exact r), ← hn, Array.length_toList])
  rw [e]; exact k
theorem putI (X : Stand p l e R s m args below meth c T locs cells slots) (hx : p.tables.exec = Jvm.exec) (hZ : Z.Warmed39 s.vm) (eT : T.heap = h) {vs : List Int32} (F : VA Z h a .int (vs.map Value.int)) {j x : Int32} (h0 : 0 ≤ j.toInt) (h1 : j.toInt < vs.length)
    {g : JFrame} (hg : g.method = m) {rest : List Value} (hs : g.stack = .int x :: .int j :: .ref a :: rest) (hd : decode c.code g.pc = .ok (.iastore, 1)) :
    ∃ T' h', Stand p l e R s m args below meth c T' (locs ++ [⟨a, j.toNatClampNeg⟩]) cells slots ∧ T'.heap = h' ∧ Wr h h' a j.toNatClampNeg (.int x) ∧ VA Z h' a .int ((vs.set j.toNatClampNeg x).map Value.int) ∧ ∀ target, Steps p.tables e below (T'.setTop { g with pc := g.pc + 1, stack := rest }) target → Steps p.tables e below (T.setTop g) target := by
  obtain ⟨cl, A, q1, q2, q3⟩ := F.inb h0 (by rw [List.length_map]; exact h1)
  obtain ⟨T', h', X', e', W, st⟩ := stI X hx hZ eT A q1 hg hs hd
  exact ⟨T', h', X', e', W, by rw [List.map_set]; exact q3 _ _ W, st⟩
theorem putJ (X : Stand p l e R s m args below meth c T locs cells slots) (hx : p.tables.exec = Jvm.exec) (hZ : Z.Warmed39 s.vm) (eT : T.heap = h) {vs : List Int64} (F : VA Z h a .long (vs.map Value.long)) {j : Int32} {x : Int64} (h0 : 0 ≤ j.toInt) (h1 : j.toInt < vs.length)
    {g : JFrame} (hg : g.method = m) {rest : List Value} (hs : g.stack = .long x :: .int j :: .ref a :: rest) (hd : decode c.code g.pc = .ok (.lastore, 1)) :
    ∃ T' h', Stand p l e R s m args below meth c T' (locs ++ [⟨a, j.toNatClampNeg⟩]) cells slots ∧ T'.heap = h' ∧ Wr h h' a j.toNatClampNeg (.long x) ∧ VA Z h' a .long ((vs.set j.toNatClampNeg x).map Value.long) ∧ ∀ target, Steps p.tables e below (T'.setTop { g with pc := g.pc + 1, stack := rest }) target → Steps p.tables e below (T.setTop g) target := by
  obtain ⟨cl, A, q1, q2, q3⟩ := F.inb h0 (by rw [List.length_map]; exact h1)
  obtain ⟨T', h', X', e', W, st⟩ := stJ X hx hZ eT A q1 hg hs hd
  exact ⟨T', h', X', e', W, by rw [List.map_set]; exact q3 _ _ W, st⟩
theorem putB (X : Stand p l e R s m args below meth c T locs cells slots) (hx : p.tables.exec = Jvm.exec) (hZ : Z.Warmed39 s.vm) (eT : T.heap = h) {vs : List Int32} (F : VA Z h a .byte (vs.map Value.int)) {j x : Int32} (h0 : 0 ≤ j.toInt) (h1 : j.toInt < vs.length)
    {g : JFrame} (hg : g.method = m) {rest : List Value} (hs : g.stack = .int x :: .int j :: .ref a :: rest) (hd : decode c.code g.pc = .ok (.bastore, 1)) :
    ∃ T' h', Stand p l e R s m args below meth c T' (locs ++ [⟨a, j.toNatClampNeg⟩]) cells slots ∧ T'.heap = h' ∧ Wr h h' a j.toNatClampNeg (.int (nar .byte x)) ∧ VA Z h' a .byte ((vs.set j.toNatClampNeg (nar .byte x)).map Value.int) ∧ ∀ target, Steps p.tables e below (T'.setTop { g with pc := g.pc + 1, stack := rest }) target → Steps p.tables e below (T.setTop g) target := by
  obtain ⟨cl, A, q1, q2, q3⟩ := F.inb h0 (by rw [List.length_map]; exact h1)
  obtain ⟨T', h', X', e', W, st⟩ := stB X hx hZ eT A q1 hg hs hd
  exact ⟨T', h', X', e', W, by rw [List.map_set]; exact q3 _ _ W, st⟩
theorem newI (X : Stand p l e R s m args below meth c T locs cells slots) (hx : p.tables.exec = Jvm.exec) (hZ : Z.Warmed39 s.vm) (w : (Cond.arrayClass .int).before a0 Z = true) (eT : T.heap = h) {g : JFrame} (hg : g.method = m) (hd : decode c.code g.pc = .ok (.newarray .int, 2)) {n : Int32} {rest : List Value} (hs : g.stack = .int n :: rest)
    (hn : 0 ≤ n.toInt) {cap : Nat} (hcap : n.toInt ≤ cap) (hb : cap * 8 ≤ 536870912) (hc : cells + 1 ≤ R.cells) (hl : slots + cap ≤ R.slots) :
    ∃ T' h', Stand p l e R s m args below meth c T' locs (cells + 1) (slots + cap) ∧ T'.heap = h' ∧ Ext h h' ∧ VA Z h' h.size .int ((List.replicate n.toInt.toNat (0 : Int32)).map Value.int) ∧
      ∀ target, Steps p.tables e below (T'.setTop { g with pc := g.pc + 2, stack := .ref h.size :: rest }) target → Steps p.tables e below (T.setTop g) target := by
  have q : ¬ n < 0 := by rw [Int32.lt_iff_toInt_lt]; have k0 : (0 : Int32).toInt = 0 := rfl; omega
  have en : n.toNatClampNeg = n.toInt.toNat := rfl
  obtain ⟨T', h', cA, X', e', E, A, st⟩ := newP X hx hZ (aty := .int) w eT hg hd hs q (cap := cap) (by rw [en]; omega) hb hc hl
  have V1 : VA Z h' h.size .int (List.replicate n.toNatClampNeg (Value.int (0 : Int32))) := VA.new A q
  rw [en] at V1
  refine ⟨T', h', X', e', E, ?_, st⟩
  rw [List.map_replicate]
  exact V1
theorem newJ (X : Stand p l e R s m args below meth c T locs cells slots) (hx : p.tables.exec = Jvm.exec) (hZ : Z.Warmed39 s.vm) (w : (Cond.arrayClass .long).before a0 Z = true) (eT : T.heap = h) {g : JFrame} (hg : g.method = m) (hd : decode c.code g.pc = .ok (.newarray .long, 2)) {n : Int32} {rest : List Value} (hs : g.stack = .int n :: rest)
    (hn : 0 ≤ n.toInt) {cap : Nat} (hcap : n.toInt ≤ cap) (hb : cap * 8 ≤ 536870912) (hc : cells + 1 ≤ R.cells) (hl : slots + cap ≤ R.slots) :
    ∃ T' h', Stand p l e R s m args below meth c T' locs (cells + 1) (slots + cap) ∧ T'.heap = h' ∧ Ext h h' ∧ VA Z h' h.size .long ((List.replicate n.toInt.toNat (0 : Int64)).map Value.long) ∧
      ∀ target, Steps p.tables e below (T'.setTop { g with pc := g.pc + 2, stack := .ref h.size :: rest }) target → Steps p.tables e below (T.setTop g) target := by
  have q : ¬ n < 0 := by rw [Int32.lt_iff_toInt_lt]; have k0 : (0 : Int32).toInt = 0 := rfl; omega
  have en : n.toNatClampNeg = n.toInt.toNat := rfl
  obtain ⟨T', h', cA, X', e', E, A, st⟩ := newP X hx hZ (aty := .long) w eT hg hd hs q (cap := cap) (by rw [en]; omega) hb hc hl
  have V1 : VA Z h' h.size .long (List.replicate n.toNatClampNeg (Value.long (0 : Int64))) := VA.new A q
  rw [en] at V1
  refine ⟨T', h', X', e', E, ?_, st⟩
  rw [List.map_replicate]
  exact V1
theorem newB (X : Stand p l e R s m args below meth c T locs cells slots) (hx : p.tables.exec = Jvm.exec) (hZ : Z.Warmed39 s.vm) (w : (Cond.arrayClass .byte).before a0 Z = true) (eT : T.heap = h) {g : JFrame} (hg : g.method = m) (hd : decode c.code g.pc = .ok (.newarray .byte, 2)) {n : Int32} {rest : List Value} (hs : g.stack = .int n :: rest)
    (hn : 0 ≤ n.toInt) {cap : Nat} (hcap : n.toInt ≤ cap) (hb : cap * 8 ≤ 536870912) (hc : cells + 1 ≤ R.cells) (hl : slots + cap ≤ R.slots) :
    ∃ T' h', Stand p l e R s m args below meth c T' locs (cells + 1) (slots + cap) ∧ T'.heap = h' ∧ Ext h h' ∧ VA Z h' h.size .byte ((List.replicate n.toInt.toNat (0 : Int32)).map Value.int) ∧
      ∀ target, Steps p.tables e below (T'.setTop { g with pc := g.pc + 2, stack := .ref h.size :: rest }) target → Steps p.tables e below (T.setTop g) target := by
  have q : ¬ n < 0 := by rw [Int32.lt_iff_toInt_lt]; have k0 : (0 : Int32).toInt = 0 := rfl; omega
  have en : n.toNatClampNeg = n.toInt.toNat := rfl
  obtain ⟨T', h', cA, X', e', E, A, st⟩ := newP X hx hZ (aty := .byte) w eT hg hd hs q (cap := cap) (by rw [en]; omega) hb hc hl
  have V1 : VA Z h' h.size .byte (List.replicate n.toNatClampNeg (Value.int (0 : Int32))) := VA.new A q
  rw [en] at V1
  refine ⟨T', h', X', e', E, ?_, st⟩
  rw [List.map_replicate]
  exact V1
theorem ldZ (X : Stand p l e R s m args below meth c T locs cells slots) (hx : p.tables.exec = Jvm.exec) (hZ : Z.Warmed39 s.vm) (eT : T.heap = h) {vs : List Int32} (F : VA Z h a .boolean (vs.map Value.int)) {j : Int32} (h0 : 0 ≤ j.toInt) (h1 : j.toInt < vs.length)
    {g : JFrame} (hg : g.method = m) {rest : List Value} (hs : g.stack = .int j :: .ref a :: rest) (hd : decode c.code g.pc = .ok (.baload, 1)) (target : State)
    (k : Steps p.tables e below (T.setTop { g with pc := g.pc + 1, stack := .int (vs.getD j.toNatClampNeg 0) :: rest }) target) : Steps p.tables e below (T.setTop g) target := by
  obtain ⟨cl, A, q1, q2, -⟩ := F.inb h0 (by rw [List.length_map]; exact h1)
  have hj := own_nat h0
  refine X.baloadBooleans hx (j := j) (v := .int (vs.getD j.toNatClampNeg 0)) (by rw [eT]; exact A.1) (State.isArrayOf_alike hZ.alike A.2.1) A.2.2 q1 ?_ hg hs hd target k
  rw [q2, List.getElem?_map, List.getD_eq_getElem?_getD, List.getElem?_eq_getElem (by omega)]; rfl
theorem putZ (X : Stand p l e R s m args below meth c T locs cells slots) (hx : p.tables.exec = Jvm.exec) (hZ : Z.Warmed39 s.vm) (eT : T.heap = h) {vs : List Int32} (F : VA Z h a .boolean (vs.map Value.int)) {j x : Int32} (h0 : 0 ≤ j.toInt) (h1 : j.toInt < vs.length)
    {g : JFrame} (hg : g.method = m) {rest : List Value} (hs : g.stack = .int x :: .int j :: .ref a :: rest) (hd : decode c.code g.pc = .ok (.bastore, 1)) :
    ∃ T' h', Stand p l e R s m args below meth c T' (locs ++ [⟨a, j.toNatClampNeg⟩]) cells slots ∧ T'.heap = h' ∧ Wr h h' a j.toNatClampNeg (.int (nar .boolean x)) ∧ VA Z h' a .boolean ((vs.set j.toNatClampNeg (nar .boolean x)).map Value.int) ∧ ∀ target, Steps p.tables e below (T'.setTop { g with pc := g.pc + 1, stack := rest }) target → Steps p.tables e below (T.setTop g) target := by
  obtain ⟨cl, A, q1, q2, q3⟩ := F.inb h0 (by rw [List.length_map]; exact h1)
  obtain ⟨T', h', X', e', W, st⟩ := stZ X hx hZ eT A q1 hg hs hd
  exact ⟨T', h', X', e', W, by rw [List.map_set]; exact q3 _ _ W, st⟩
theorem newZ (X : Stand p l e R s m args below meth c T locs cells slots) (hx : p.tables.exec = Jvm.exec) (hZ : Z.Warmed39 s.vm) (w : (Cond.arrayClass .boolean).before a0 Z = true) (eT : T.heap = h) {g : JFrame} (hg : g.method = m) (hd : decode c.code g.pc = .ok (.newarray .boolean, 2)) {n : Int32} {rest : List Value} (hs : g.stack = .int n :: rest)
    (hn : 0 ≤ n.toInt) {cap : Nat} (hcap : n.toInt ≤ cap) (hb : cap * 8 ≤ 536870912) (hc : cells + 1 ≤ R.cells) (hl : slots + cap ≤ R.slots) :
    ∃ T' h', Stand p l e R s m args below meth c T' locs (cells + 1) (slots + cap) ∧ T'.heap = h' ∧ Ext h h' ∧ VA Z h' h.size .boolean ((List.replicate n.toInt.toNat (0 : Int32)).map Value.int) ∧
      ∀ target, Steps p.tables e below (T'.setTop { g with pc := g.pc + 2, stack := .ref h.size :: rest }) target → Steps p.tables e below (T.setTop g) target := by
  have q : ¬ n < 0 := by rw [Int32.lt_iff_toInt_lt]; have k0 : (0 : Int32).toInt = 0 := rfl; omega
  have en : n.toNatClampNeg = n.toInt.toNat := rfl
  obtain ⟨T', h', cA, X', e', E, A, st⟩ := newP X hx hZ (aty := .boolean) w eT hg hd hs q (cap := cap) (by rw [en]; omega) hb hc hl
  have V1 : VA Z h' h.size .boolean (List.replicate n.toNatClampNeg (Value.int (0 : Int32))) := VA.new A q
  rw [en] at V1
  refine ⟨T', h', X', e', E, ?_, st⟩
  rw [List.map_replicate]
  exact V1
end Steps2
end New
end Jvm.RoadKit
namespace Jvm.Pilot.@@N@@
open Jvm Jvm.ClassFile Sem Op Lib Jvm.Free Jvm.Stand Jvm.LawKit Jvm.RoadKit Bundle Jvm.Pilot.@@N@@.Jvm.D
theorem own_notsub {Z : State} {a0 : Array Value} {C O K : String} {n : Nat} (w : (Cond.superclass C O).before a0 Z = true) (w0 : (Cond.noSuperclass O).before a0 Z = true) (wi : (Cond.instantiable K n).before a0 Z = true) (hn : C ≠ K) (hn2 : O ≠ K) : ∃ c t, Z.vm.findClass C = some c ∧ Z.vm.findClass K = some t ∧ Z.vm.assignable c t = false := by
  obtain ⟨t, kt, g1, g2, g3, g4, -, -⟩ := Cond.instantiable_spec wi
  obtain ⟨c, h0⟩ := found_sup w
  obtain ⟨p, k, kp, h1, h2, h3, h4, h5, -, h7⟩ := Cond.superclass_spec h0 w
  obtain ⟨p', kp', r1, r2, r3, -, -⟩ := Cond.noSuperclass_spec w0
  have e1 := Option.some.inj (r1.symm.trans h1)
  subst e1
  have e2 := Option.some.inj (r2.symm.trans h3)
  subst e2
  have ne1 := ids_ne h0 g1 hn
  have ne2 := ids_ne h1 g1 hn2
  have i1 : kt.isInterface = false := by
    cases q : kt.isInterface
    · rfl
    · rw [q] at g4; simp at g4
  have n3 : ∀ fuel, Z.vm.isSubclassAux fuel c t = false := fun fuel => by
    cases fuel with
    | zero => rfl
    | succ f =>
      have n2 : Z.vm.isSubclassAux f p' t = false := by
        cases f with
        | zero => rfl
        | succ f' => simp [Vm.isSubclassAux, ne2, r2, r3]
      simp [Vm.isSubclassAux, ne1, h2, h4, n2]
  refine ⟨c, t, h0, g1, ?_⟩
  show Z.vm.assignableAux (255 + 1) c t = false
  simp [Vm.assignableAux, ne1, h2, g2, h5, g3, i1, Vm.isSubclass, n3]
theorem d1_0 : decode method_2_code 0 = .ok (.iload 4, 2) := by decide +kernel
theorem d1_2 : decode method_2_code 2 = .ok (.iconst 3, 1) := by decide +kernel
theorem d1_3 : decode method_2_code 3 = .ok (.iand, 1) := by decide +kernel
theorem d1_4 : decode method_2_code 4 = .ok (.istore 5, 2) := by decide +kernel
theorem d1_6 : decode method_2_code 6 = .ok (.iload 5, 2) := by decide +kernel
theorem d1_8 : decode method_2_code 8 = .ok (.ifCond .ne 5, 3) := by decide +kernel
theorem d1_11 : decode method_2_code 11 = .ok (.lload_n 0, 1) := by decide +kernel
theorem d1_12 : decode method_2_code 12 = .ok (.lreturn, 1) := by decide +kernel
theorem d1_13 : decode method_2_code 13 = .ok (.iload 5, 2) := by decide +kernel
theorem d1_15 : decode method_2_code 15 = .ok (.iconst 1, 1) := by decide +kernel
theorem d1_16 : decode method_2_code 16 = .ok (.if_icmp .ne 5, 3) := by decide +kernel
theorem d1_19 : decode method_2_code 19 = .ok (.lload_n 2, 1) := by decide +kernel
theorem d1_20 : decode method_2_code 20 = .ok (.lreturn, 1) := by decide +kernel
theorem d1_21 : decode method_2_code 21 = .ok (.iload 5, 2) := by decide +kernel
theorem d1_23 : decode method_2_code 23 = .ok (.iconst 2, 1) := by decide +kernel
theorem d1_24 : decode method_2_code 24 = .ok (.if_icmp .ne 15, 3) := by decide +kernel
theorem d1_27 : decode method_2_code 27 = .ok (.lload_n 0, 1) := by decide +kernel
theorem d1_28 : decode method_2_code 28 = .ok (.lconst 1, 1) := by decide +kernel
theorem d1_29 : decode method_2_code 29 = .ok (.iload 4, 2) := by decide +kernel
theorem d1_31 : decode method_2_code 31 = .ok (.iconst 2, 1) := by decide +kernel
theorem d1_32 : decode method_2_code 32 = .ok (.iushr, 1) := by decide +kernel
theorem d1_33 : decode method_2_code 33 = .ok (.bipush 63, 2) := by decide +kernel
theorem d1_35 : decode method_2_code 35 = .ok (.iand, 1) := by decide +kernel
theorem d1_36 : decode method_2_code 36 = .ok (.lshl, 1) := by decide +kernel
theorem d1_37 : decode method_2_code 37 = .ok (.lxor, 1) := by decide +kernel
theorem d1_38 : decode method_2_code 38 = .ok (.lreturn, 1) := by decide +kernel
theorem d1_39 : decode method_2_code 39 = .ok (.lload_n 0, 1) := by decide +kernel
theorem d1_40 : decode method_2_code 40 = .ok (.lreturn, 1) := by decide +kernel
theorem pn_0 : plainName "com/example/plumbline/plumbline/model/PlistUidEqualsPinLaw" = true := by first | (simp [plainName, overriddenIn]; done) | decide +kernel
theorem ef_pick (m : MethodId) (x0 : Int64) (x1 : Int64) (x2 : Int32) : entryFrame m #[(.long x0), (.long x1), (.int x2)] 6 = mkF m 0 #[.val (.long x0), .second, .val (.long x1), .second, .val (.int x2), .unset] [] := by first | (simp [entryFrame, mkF, argsToLocals, Value.category]; done) | rfl
def pick (p1 : Int64) (p2 : Int64) (p3 : Int32) : Int64 := (if (p3 &&& (3 : Int32)) = (0 : Int32) then p1 else (if (p3 &&& (3 : Int32)) = (1 : Int32) then p2 else (if (p3 &&& (3 : Int32)) = (2 : Int32) then (p1 ^^^ ((1 : Int64) <<< ((((p3.toUInt32 >>> ((2 : Int32) &&& 31).toUInt32).toInt32) &&& (63 : Int32)) &&& 0x3f).toInt64)) else p1)))
def Qpick (RES : Int64) (h0 : Heap) (n0 : Nat) (v : Option Value) (h : Heap) (L : List Loc) : Prop := v = some (.long RES) ∧ Fr n0 L ∧ h = h0
set_option maxRecDepth 65536 in
set_option maxHeartbeats 40000000 in
theorem rm_pick (l : Launch) (Z : State) (a0 : Array Value) (hw : ∀ d ∈ tables_1, d.before a0 Z = true) (ws : List Jvm.Cond) (p1 : Int64) (p2 : Int64) (p3 : Int32)  (h0 : Heap) (n0 : Nat) (Z0 : n0 ≤ h0.size) :
    MetFree l (⟨"com/example/plumbline/plumbline/model/PlistUidEqualsPinLaw", "pick", "(JJI)J"⟩ : MethodName) (head1 (Jvm.Cond.code (⟨"com/example/plumbline/plumbline/model/PlistUidEqualsPinLaw", "pick", "(JJI)J"⟩ : MethodName) method_2_code 6 (some .long) :: ws) ({ frames := 0, cells := 0, slots := 0, locals := 0 } : Room)) (fun A_ U => A_ = #[(.long p1), (.long p2), (.int p3)] ∧ Z.Warmed39 U.vm ∧ U.heap = h0) (fun _ _ _ _ _ => True) (fun _ U o U' => ∃ v L, o = .returned v ∧ Qpick (pick p1 p2 p3) h0 n0 v U'.heap L ∧ FrameEnd U o U' L ({ frames := 0, cells := 0, slots := 0, locals := 0 } : Room).cells ({ frames := 0, cells := 0, slots := 0, locals := 0 } : Room).slots) := by
  refine MetFree.of_bodySF (plainFor_of_name pn_0) hisR ?_
  intro p e s m args below meth c s₁ Bd hml0 hP hK
  obtain ⟨rfl, hZ, hh⟩ := hP
  have hx := Bd.exec
  have hby := Bd.bytes
  have hml : c.maxLocals = 6 := hml0
  have hown : s.vm.findClass "com/example/plumbline/plumbline/model/PlistUidEqualsPinLaw" = some m.cls := findClass_of_methodNamed Bd.named
  have hnm := (name_of_methodNamed Bd.named Bd.method).1
  have X0 : Stand p l e ({ frames := 0, cells := 0, slots := 0, locals := 0 } : Room) s m #[(.long p1), (.long p2), (.int p3)] below meth c s₁ [] 0 0 := Stand.of_body Bd
  have e0 : s₁.heap = h0 := by rw [← hh, Bd.state]; rfl
  have N0 := Fr.nil n0
  obtain ⟨RES, hf⟩ : ∃ z, z = pick p1 p2 p3 := ⟨_, rfl⟩
  rw [← hf]
  rw [pick] at hf
  suffices HGO : Go p e below s (Qpick RES h0 n0) ({ frames := 0, cells := 0, slots := 0, locals := 0 } : Room).cells ({ frames := 0, cells := 0, slots := 0, locals := 0 } : Room).slots s₁ (mkF m 0 #[.val (.long p1), .second, .val (.long p2), .second, .val (.int p3), .unset] []) from Go.cast (ef_pick m p1 p2 p3) HGO
  refine Go.step (T' := s₁) (f' := (mkF m 8 #[.val (.long p1), .second, .val (.long p2), .second, .val (.int p3), .val (.int (p3 &&& (3 : Int32)))] [(.int (p3 &&& (3 : Int32)))])) (fun t kt => ?_) ?_
  · show Steps p.tables e below (s₁.setTop (mkF m 0 #[.val (.long p1), .second, .val (.long p2), .second, .val (.int p3), .unset] [])) _
    refine XS.iload X0.here hx rfl (hb hby d1_0) rfl ?_
    show Steps p.tables e below (s₁.setTop (mkF m 2 #[.val (.long p1), .second, .val (.long p2), .second, .val (.int p3), .unset] [(.int p3)])) _
    refine XS.iconst X0.here hx rfl (hb hby d1_2) ?_
    show Steps p.tables e below (s₁.setTop (mkF m 3 #[.val (.long p1), .second, .val (.long p2), .second, .val (.int p3), .unset] [(.int (3 : Int32)), (.int p3)])) _
    refine XS.iand X0.here hx rfl (hb hby d1_3) rfl ?_
    show Steps p.tables e below (s₁.setTop (mkF m 4 #[.val (.long p1), .second, .val (.long p2), .second, .val (.int p3), .unset] [(.int (p3 &&& (3 : Int32)))])) _
    refine XS.istore X0.here hx rfl (hb hby d1_4) rfl (l' := #[.val (.long p1), .second, .val (.long p2), .second, .val (.int p3), .val (.int (p3 &&& (3 : Int32)))]) rfl ?_
    show Steps p.tables e below (s₁.setTop (mkF m 6 #[.val (.long p1), .second, .val (.long p2), .second, .val (.int p3), .val (.int (p3 &&& (3 : Int32)))] [])) _
    refine XS.iload X0.here hx rfl (hb hby d1_6) rfl ?_
    exact kt
  by_cases hc1 : (p3 &&& (3 : Int32)) = (0 : Int32)
  · rw [if_pos hc1] at hf
    refine Go.step (T' := s₁) (f' := (mkF m 11 #[.val (.long p1), .second, .val (.long p2), .second, .val (.int p3), .val (.int (p3 &&& (3 : Int32)))] [])) (fun t kt => ?_) ?_
    · show Steps p.tables e below (s₁.setTop (mkF m 8 #[.val (.long p1), .second, .val (.long p2), .second, .val (.int p3), .val (.int (p3 &&& (3 : Int32)))] [(.int (p3 &&& (3 : Int32)))])) _
      refine XS.ifNo X0.here hx rfl (hb hby d1_8) rfl ((if0 _ _).trans (teq hc1).2) ?_
      exact kt
    refine Go.step (T' := s₁) (f' := (mkF m 12 #[.val (.long p1), .second, .val (.long p2), .second, .val (.int p3), .val (.int (p3 &&& (3 : Int32)))] [(.long p1)])) (fun t kt => ?_) ?_
    · show Steps p.tables e below (s₁.setTop (mkF m 11 #[.val (.long p1), .second, .val (.long p2), .second, .val (.int p3), .val (.int (p3 &&& (3 : Int32)))] [])) _
      refine XS.lloadN X0.here hx rfl (hb hby d1_11) rfl ?_
      exact kt
    refine Go.fin X0 (v := some (.long p1)) (fun h => by rw [Bd.returns] at h; cases h) Bd.notSynchronized ?_ (Nat.le_trans (Nat.le_refl 0) (by decide)) (Nat.le_trans (Nat.le_refl 0) (by decide)) (fun fs hr => X0.lreturnOut hx Bd.returns (hb hby d1_12) hr)
    · exact ⟨by rw [hf], N0, e0⟩
  · rw [if_neg hc1] at hf
    refine Go.step (T' := s₁) (f' := (mkF m 13 #[.val (.long p1), .second, .val (.long p2), .second, .val (.int p3), .val (.int (p3 &&& (3 : Int32)))] [])) (fun t kt => ?_) ?_
    · show Steps p.tables e below (s₁.setTop (mkF m 8 #[.val (.long p1), .second, .val (.long p2), .second, .val (.int p3), .val (.int (p3 &&& (3 : Int32)))] [(.int (p3 &&& (3 : Int32)))])) _
      refine XS.ifYes X0.here hx rfl (pc0 := 8) (pc' := 13) rfl (hb hby d1_8) rfl ((if0 _ _).trans (feq hc1).2) (by decide) (by decide) ?_
      exact kt
    refine Go.step (T' := s₁) (f' := (mkF m 16 #[.val (.long p1), .second, .val (.long p2), .second, .val (.int p3), .val (.int (p3 &&& (3 : Int32)))] [(.int (1 : Int32)), (.int (p3 &&& (3 : Int32)))])) (fun t kt => ?_) ?_
    · show Steps p.tables e below (s₁.setTop (mkF m 13 #[.val (.long p1), .second, .val (.long p2), .second, .val (.int p3), .val (.int (p3 &&& (3 : Int32)))] [])) _
      refine XS.iload X0.here hx rfl (hb hby d1_13) rfl ?_
      show Steps p.tables e below (s₁.setTop (mkF m 15 #[.val (.long p1), .second, .val (.long p2), .second, .val (.int p3), .val (.int (p3 &&& (3 : Int32)))] [(.int (p3 &&& (3 : Int32)))])) _
      refine XS.iconst X0.here hx rfl (hb hby d1_15) ?_
      exact kt
    by_cases hc2 : (p3 &&& (3 : Int32)) = (1 : Int32)
    · rw [if_pos hc2] at hf
      refine Go.step (T' := s₁) (f' := (mkF m 19 #[.val (.long p1), .second, .val (.long p2), .second, .val (.int p3), .val (.int (p3 &&& (3 : Int32)))] [])) (fun t kt => ?_) ?_
      · show Steps p.tables e below (s₁.setTop (mkF m 16 #[.val (.long p1), .second, .val (.long p2), .second, .val (.int p3), .val (.int (p3 &&& (3 : Int32)))] [(.int (1 : Int32)), (.int (p3 &&& (3 : Int32)))])) _
        refine XS.icmpNo X0.here hx rfl (hb hby d1_16) rfl (teq hc2).2 ?_
        exact kt
      refine Go.step (T' := s₁) (f' := (mkF m 20 #[.val (.long p1), .second, .val (.long p2), .second, .val (.int p3), .val (.int (p3 &&& (3 : Int32)))] [(.long p2)])) (fun t kt => ?_) ?_
      · show Steps p.tables e below (s₁.setTop (mkF m 19 #[.val (.long p1), .second, .val (.long p2), .second, .val (.int p3), .val (.int (p3 &&& (3 : Int32)))] [])) _
        refine XS.lloadN X0.here hx rfl (hb hby d1_19) rfl ?_
        exact kt
      refine Go.fin X0 (v := some (.long p2)) (fun h => by rw [Bd.returns] at h; cases h) Bd.notSynchronized ?_ (Nat.le_trans (Nat.le_refl 0) (by decide)) (Nat.le_trans (Nat.le_refl 0) (by decide)) (fun fs hr => X0.lreturnOut hx Bd.returns (hb hby d1_20) hr)
      · exact ⟨by rw [hf], N0, e0⟩
    · rw [if_neg hc2] at hf
      refine Go.step (T' := s₁) (f' := (mkF m 21 #[.val (.long p1), .second, .val (.long p2), .second, .val (.int p3), .val (.int (p3 &&& (3 : Int32)))] [])) (fun t kt => ?_) ?_
      · show Steps p.tables e below (s₁.setTop (mkF m 16 #[.val (.long p1), .second, .val (.long p2), .second, .val (.int p3), .val (.int (p3 &&& (3 : Int32)))] [(.int (1 : Int32)), (.int (p3 &&& (3 : Int32)))])) _
        refine XS.icmpYes X0.here hx rfl (pc0 := 16) (pc' := 21) rfl (hb hby d1_16) rfl (feq hc2).2 (by decide) (by decide) ?_
        exact kt
      refine Go.step (T' := s₁) (f' := (mkF m 24 #[.val (.long p1), .second, .val (.long p2), .second, .val (.int p3), .val (.int (p3 &&& (3 : Int32)))] [(.int (2 : Int32)), (.int (p3 &&& (3 : Int32)))])) (fun t kt => ?_) ?_
      · show Steps p.tables e below (s₁.setTop (mkF m 21 #[.val (.long p1), .second, .val (.long p2), .second, .val (.int p3), .val (.int (p3 &&& (3 : Int32)))] [])) _
        refine XS.iload X0.here hx rfl (hb hby d1_21) rfl ?_
        show Steps p.tables e below (s₁.setTop (mkF m 23 #[.val (.long p1), .second, .val (.long p2), .second, .val (.int p3), .val (.int (p3 &&& (3 : Int32)))] [(.int (p3 &&& (3 : Int32)))])) _
        refine XS.iconst X0.here hx rfl (hb hby d1_23) ?_
        exact kt
      by_cases hc3 : (p3 &&& (3 : Int32)) = (2 : Int32)
      · rw [if_pos hc3] at hf
        refine Go.step (T' := s₁) (f' := (mkF m 27 #[.val (.long p1), .second, .val (.long p2), .second, .val (.int p3), .val (.int (p3 &&& (3 : Int32)))] [])) (fun t kt => ?_) ?_
        · show Steps p.tables e below (s₁.setTop (mkF m 24 #[.val (.long p1), .second, .val (.long p2), .second, .val (.int p3), .val (.int (p3 &&& (3 : Int32)))] [(.int (2 : Int32)), (.int (p3 &&& (3 : Int32)))])) _
          refine XS.icmpNo X0.here hx rfl (hb hby d1_24) rfl (teq hc3).2 ?_
          exact kt
        refine Go.step (T' := s₁) (f' := (mkF m 38 #[.val (.long p1), .second, .val (.long p2), .second, .val (.int p3), .val (.int (p3 &&& (3 : Int32)))] [(.long (p1 ^^^ ((1 : Int64) <<< ((((p3.toUInt32 >>> ((2 : Int32) &&& 31).toUInt32).toInt32) &&& (63 : Int32)) &&& 0x3f).toInt64)))])) (fun t kt => ?_) ?_
        · show Steps p.tables e below (s₁.setTop (mkF m 27 #[.val (.long p1), .second, .val (.long p2), .second, .val (.int p3), .val (.int (p3 &&& (3 : Int32)))] [])) _
          refine XS.lloadN X0.here hx rfl (hb hby d1_27) rfl ?_
          show Steps p.tables e below (s₁.setTop (mkF m 28 #[.val (.long p1), .second, .val (.long p2), .second, .val (.int p3), .val (.int (p3 &&& (3 : Int32)))] [(.long p1)])) _
          refine XS.lconst X0.here hx rfl (hb hby d1_28) ?_
          show Steps p.tables e below (s₁.setTop (mkF m 29 #[.val (.long p1), .second, .val (.long p2), .second, .val (.int p3), .val (.int (p3 &&& (3 : Int32)))] [(.long (1 : Int64)), (.long p1)])) _
          refine XS.iload X0.here hx rfl (hb hby d1_29) rfl ?_
          show Steps p.tables e below (s₁.setTop (mkF m 31 #[.val (.long p1), .second, .val (.long p2), .second, .val (.int p3), .val (.int (p3 &&& (3 : Int32)))] [(.int p3), (.long (1 : Int64)), (.long p1)])) _
          refine XS.iconst X0.here hx rfl (hb hby d1_31) ?_
          show Steps p.tables e below (s₁.setTop (mkF m 32 #[.val (.long p1), .second, .val (.long p2), .second, .val (.int p3), .val (.int (p3 &&& (3 : Int32)))] [(.int (2 : Int32)), (.int p3), (.long (1 : Int64)), (.long p1)])) _
          refine XS.iushr X0.here hx rfl (hb hby d1_32) rfl ?_
          show Steps p.tables e below (s₁.setTop (mkF m 33 #[.val (.long p1), .second, .val (.long p2), .second, .val (.int p3), .val (.int (p3 &&& (3 : Int32)))] [(.int ((p3.toUInt32 >>> ((2 : Int32) &&& 31).toUInt32).toInt32)), (.long (1 : Int64)), (.long p1)])) _
          refine XS.bipush X0.here hx rfl (hb hby d1_33) ?_
          show Steps p.tables e below (s₁.setTop (mkF m 35 #[.val (.long p1), .second, .val (.long p2), .second, .val (.int p3), .val (.int (p3 &&& (3 : Int32)))] [(.int (63 : Int32)), (.int ((p3.toUInt32 >>> ((2 : Int32) &&& 31).toUInt32).toInt32)), (.long (1 : Int64)), (.long p1)])) _
          refine XS.iand X0.here hx rfl (hb hby d1_35) rfl ?_
          show Steps p.tables e below (s₁.setTop (mkF m 36 #[.val (.long p1), .second, .val (.long p2), .second, .val (.int p3), .val (.int (p3 &&& (3 : Int32)))] [(.int (((p3.toUInt32 >>> ((2 : Int32) &&& 31).toUInt32).toInt32) &&& (63 : Int32))), (.long (1 : Int64)), (.long p1)])) _
          refine XS.lshl X0.here hx rfl (hb hby d1_36) rfl ?_
          show Steps p.tables e below (s₁.setTop (mkF m 37 #[.val (.long p1), .second, .val (.long p2), .second, .val (.int p3), .val (.int (p3 &&& (3 : Int32)))] [(.long ((1 : Int64) <<< ((((p3.toUInt32 >>> ((2 : Int32) &&& 31).toUInt32).toInt32) &&& (63 : Int32)) &&& 0x3f).toInt64)), (.long p1)])) _
          refine XS.lxor X0.here hx rfl (hb hby d1_37) rfl ?_
          exact kt
        refine Go.fin X0 (v := some (.long (p1 ^^^ ((1 : Int64) <<< ((((p3.toUInt32 >>> ((2 : Int32) &&& 31).toUInt32).toInt32) &&& (63 : Int32)) &&& 0x3f).toInt64)))) (fun h => by rw [Bd.returns] at h; cases h) Bd.notSynchronized ?_ (Nat.le_trans (Nat.le_refl 0) (by decide)) (Nat.le_trans (Nat.le_refl 0) (by decide)) (fun fs hr => X0.lreturnOut hx Bd.returns (hb hby d1_38) hr)
        · exact ⟨by rw [hf], N0, e0⟩
      · rw [if_neg hc3] at hf
        refine Go.step (T' := s₁) (f' := (mkF m 39 #[.val (.long p1), .second, .val (.long p2), .second, .val (.int p3), .val (.int (p3 &&& (3 : Int32)))] [])) (fun t kt => ?_) ?_
        · show Steps p.tables e below (s₁.setTop (mkF m 24 #[.val (.long p1), .second, .val (.long p2), .second, .val (.int p3), .val (.int (p3 &&& (3 : Int32)))] [(.int (2 : Int32)), (.int (p3 &&& (3 : Int32)))])) _
          refine XS.icmpYes X0.here hx rfl (pc0 := 24) (pc' := 39) rfl (hb hby d1_24) rfl (feq hc3).2 (by decide) (by decide) ?_
          exact kt
        refine Go.step (T' := s₁) (f' := (mkF m 40 #[.val (.long p1), .second, .val (.long p2), .second, .val (.int p3), .val (.int (p3 &&& (3 : Int32)))] [(.long p1)])) (fun t kt => ?_) ?_
        · show Steps p.tables e below (s₁.setTop (mkF m 39 #[.val (.long p1), .second, .val (.long p2), .second, .val (.int p3), .val (.int (p3 &&& (3 : Int32)))] [])) _
          refine XS.lloadN X0.here hx rfl (hb hby d1_39) rfl ?_
          exact kt
        refine Go.fin X0 (v := some (.long p1)) (fun h => by rw [Bd.returns] at h; cases h) Bd.notSynchronized ?_ (Nat.le_trans (Nat.le_refl 0) (by decide)) (Nat.le_trans (Nat.le_refl 0) (by decide)) (fun fs hr => X0.lreturnOut hx Bd.returns (hb hby d1_40) hr)
        · exact ⟨by rw [hf], N0, e0⟩
theorem d2_0 : decode prog_49_method_1_code 0 = .ok (.aload_n 0, 1) := by decide +kernel
theorem d2_1 : decode prog_49_method_1_code 1 = .ok (.invokespecial 1, 3) := by decide +kernel
theorem d2_4 : decode prog_49_method_1_code 4 = .ok (.aload_n 0, 1) := by decide +kernel
theorem d2_5 : decode prog_49_method_1_code 5 = .ok (.lload_n 1, 1) := by decide +kernel
theorem d2_6 : decode prog_49_method_1_code 6 = .ok (.putfield 7, 3) := by decide +kernel
theorem d2_9 : decode prog_49_method_1_code 9 = .ok (.return_, 1) := by decide +kernel
theorem pn_1 : plainName "com/example/plumbline/plumbline/model/PlistUid" = true := by first | (simp [plainName, overriddenIn]; done) | decide +kernel
theorem ef_iniU (m : MethodId) (x0 : Addr) (x1 : Int64) : entryFrame m #[(.ref x0), (.long x1)] 3 = mkF m 0 #[.val (.ref x0), .val (.long x1), .second] [] := by first | (simp [entryFrame, mkF, argsToLocals, Value.category]; done) | rfl
def iniU (p1 : Int64) (u : Int64) : Int64 := p1
def QiniU (Z : State) (a : Addr) (p1 : Int64) (u : Int64) (RES : Int64) (h0 : Heap) (n0 : Nat) (v : Option Value) (h : Heap) (L : List Loc) : Prop := v = none ∧ Fr n0 L ∧ Keep h0 h [a] ∧ Fld Z h a "com/example/plumbline/plumbline/model/PlistUid" "value" "J" (.long RES)
set_option maxRecDepth 65536 in
set_option maxHeartbeats 40000000 in
theorem rm_iniU (l : Launch) (Z : State) (a0 : Array Value) (hw : ∀ d ∈ tables_1, d.before a0 Z = true) (ws : List Jvm.Cond) (a : Addr) (p1 : Int64) (u : Int64) (h0 : Heap) (n0 : Nat) (Z0 : n0 ≤ h0.size) (F0 : Exa Z h0 a "com/example/plumbline/plumbline/model/PlistUid") (F1 : Fld Z h0 a "com/example/plumbline/plumbline/model/PlistUid" "value" "J" (.long u)) (g_a : n0 ≤ a) :
    MetFree l (⟨"com/example/plumbline/plumbline/model/PlistUid", "<init>", "(J)V"⟩ : MethodName) (head1 (Jvm.Cond.code (⟨"com/example/plumbline/plumbline/model/PlistUid", "<init>", "(J)V"⟩ : MethodName) prog_49_method_1_code 3 none :: ws) ({ frames := 1, cells := 0, slots := 0, locals := 12 } : Room)) (fun A_ U => A_ = #[(.ref a), (.long p1)] ∧ Z.Warmed39 U.vm ∧ U.heap = h0) (fun _ _ _ _ _ => True) (fun _ U o U' => ∃ v L, o = .returned v ∧ QiniU Z a p1 u (iniU p1 u) h0 n0 v U'.heap L ∧ FrameEnd U o U' L ({ frames := 1, cells := 0, slots := 0, locals := 12 } : Room).cells ({ frames := 1, cells := 0, slots := 0, locals := 12 } : Room).slots) := by
  refine MetFree.of_bodySF (plainFor_of_name pn_1) hisR ?_
  intro p e s m args below meth c s₁ Bd hml0 hP hK
  obtain ⟨rfl, hZ, hh⟩ := hP
  have hx := Bd.exec
  have hby := Bd.bytes
  have hml : c.maxLocals = 3 := hml0
  have hown : s.vm.findClass "com/example/plumbline/plumbline/model/PlistUid" = some m.cls := findClass_of_methodNamed Bd.named
  have hnm := (name_of_methodNamed Bd.named Bd.method).1
  have X0 : Stand p l e ({ frames := 1, cells := 0, slots := 0, locals := 12 } : Room) s m #[(.ref a), (.long p1)] below meth c s₁ [] 0 0 := Stand.of_body Bd
  have e0 : s₁.heap = h0 := by rw [← hh, Bd.state]; rfl
  have N0 := Fr.nil n0
  obtain ⟨RES, hf⟩ : ∃ z, z = iniU p1 u := ⟨_, rfl⟩
  rw [← hf]
  rw [iniU] at hf
  suffices HGO : Go p e below s (QiniU Z a p1 u RES h0 n0) ({ frames := 1, cells := 0, slots := 0, locals := 12 } : Room).cells ({ frames := 1, cells := 0, slots := 0, locals := 12 } : Room).slots s₁ (mkF m 0 #[.val (.ref a), .val (.long p1), .second] []) from Go.cast (ef_iniU m a p1) HGO
  obtain ⟨T1, X1, e1, st1⟩ := initO X0 hx hZ hown (hw _ (List.mem_of_getElem? (i := 10) rfl)) (hw _ (List.mem_of_getElem? (i := 11) rfl)) (hw _ (List.mem_of_getElem? (i := 12) rfl)) e0 (g := (mkF m 1 #[.val (.ref a), .val (.long p1), .second] [(.ref a)])) rfl (by rw [hml]; rfl) rfl (hb hby d2_1) (by decide) (W := 0) (by show 2 * 0 + _ ≤ _; exact Nat.le_of_eq rfl) (by decide)
  obtain ⟨T2, h2, X2, e2, W2, st2⟩ := putF X1 hx hZ hown (host := "") (Or.inl (hw _ (List.mem_of_getElem? (i := 13) rfl))) Via.refl e1 F1 F0 (Or.inr ⟨(hw _ (List.mem_of_getElem? (i := 14) rfl)), rfl, hnm⟩) (hw _ (List.mem_of_getElem? (i := 5) rfl)) (ty := .long) (by decide) rfl rfl (g := (mkF m 6 #[.val (.ref a), .val (.long p1), .second] [(.long p1), (.ref a)])) rfl rfl (hb hby d2_6)
  have G3 : Exa Z h2 a "com/example/plumbline/plumbline/model/PlistUid" := F0.wr W2
  have G4 : Fld Z h2 a "com/example/plumbline/plumbline/model/PlistUid" "value" "J" (.long p1) := F1.same W2
  have N2 := Fr.snoc X2 N0 g_a
  have K2 : Keep h0 h2 [a] := Keep.wr (Keep.refl h0 [a]) W2 (Or.inl (List.mem_of_getElem? (i := 0) rfl))
  have Z2 : n0 ≤ h2.size := Nat.le_trans Z0 K2.1
  refine Go.step (T' := T2) (f' := (mkF m 9 #[.val (.ref a), .val (.long p1), .second] [])) (fun t kt => ?_) ?_
  · show Steps p.tables e below (s₁.setTop (mkF m 0 #[.val (.ref a), .val (.long p1), .second] [])) _
    refine XS.aloadN X0.here hx rfl (hb hby d2_0) rfl rfl ?_
    show Steps p.tables e below (s₁.setTop (mkF m 1 #[.val (.ref a), .val (.long p1), .second] [(.ref a)])) _
    refine st1 _ ?_
    show Steps p.tables e below (T1.setTop (mkF m 4 #[.val (.ref a), .val (.long p1), .second] [])) _
    refine XS.aloadN X1.here hx rfl (hb hby d2_4) rfl rfl ?_
    show Steps p.tables e below (T1.setTop (mkF m 5 #[.val (.ref a), .val (.long p1), .second] [(.ref a)])) _
    refine XS.lloadN X1.here hx rfl (hb hby d2_5) rfl ?_
    show Steps p.tables e below (T1.setTop (mkF m 6 #[.val (.ref a), .val (.long p1), .second] [(.long p1), (.ref a)])) _
    refine st2 _ ?_
    exact kt
  refine Go.fin X2 (v := none) (fun _ => rfl) Bd.notSynchronized ?_ (Nat.le_trans (Nat.le_refl 0) (by decide)) (Nat.le_trans (Nat.le_refl 0) (by decide)) (fun fs hr => X2.returnOut hx Bd.returns (hb hby d2_9) hr)
  · show QiniU Z a p1 u RES h0 n0 _ T2.heap _
    rw [e2, hf]
    exact ⟨rfl, N2, K2, G4⟩
theorem d5_0 : decode prog_45_method_1_code 0 = .ok (.aload_n 0, 1) := by decide +kernel
theorem d5_1 : decode prog_45_method_1_code 1 = .ok (.invokespecial 1, 3) := by decide +kernel
theorem d5_4 : decode prog_45_method_1_code 4 = .ok (.aload_n 0, 1) := by decide +kernel
theorem d5_5 : decode prog_45_method_1_code 5 = .ok (.lload_n 1, 1) := by decide +kernel
theorem d5_6 : decode prog_45_method_1_code 6 = .ok (.putfield 7, 3) := by decide +kernel
theorem d5_9 : decode prog_45_method_1_code 9 = .ok (.aload_n 0, 1) := by decide +kernel
theorem d5_10 : decode prog_45_method_1_code 10 = .ok (.iload_n 3, 1) := by decide +kernel
theorem d5_11 : decode prog_45_method_1_code 11 = .ok (.putfield 13, 3) := by decide +kernel
theorem d5_14 : decode prog_45_method_1_code 14 = .ok (.return_, 1) := by decide +kernel
theorem pn_2 : plainName "com/example/plumbline/plumbline/model/PlistInteger" = true := by first | (simp [plainName, overriddenIn]; done) | decide +kernel
theorem ef_iniI (m : MethodId) (x0 : Addr) (x1 : Int64) (x2 : Int32) : entryFrame m #[(.ref x0), (.long x1), (.int x2)] 4 = mkF m 0 #[.val (.ref x0), .val (.long x1), .second, .val (.int x2)] [] := by first | (simp [entryFrame, mkF, argsToLocals, Value.category]; done) | rfl
def iniI (p1 : Int64) (p2 : Int32) (u : Int64) (w : Int32) : Int64 × Int32 := (p1, (nar .boolean p2))
def QiniI (Z : State) (a : Addr) (p1 : Int64) (p2 : Int32) (u : Int64) (w : Int32) (RES : Int64 × Int32) (h0 : Heap) (n0 : Nat) (v : Option Value) (h : Heap) (L : List Loc) : Prop := v = none ∧ Fr n0 L ∧ Keep h0 h [a] ∧ Fld Z h a "com/example/plumbline/plumbline/model/PlistInteger" "bits" "J" (.long RES.1) ∧ Fld Z h a "com/example/plumbline/plumbline/model/PlistInteger" "aboveLong" "Z" (.int RES.2)
set_option maxRecDepth 65536 in
set_option maxHeartbeats 40000000 in
theorem rm_iniI (l : Launch) (Z : State) (a0 : Array Value) (hw : ∀ d ∈ tables_1, d.before a0 Z = true) (ws : List Jvm.Cond) (a : Addr) (p1 : Int64) (p2 : Int32) (u : Int64) (w : Int32) (h0 : Heap) (n0 : Nat) (Z0 : n0 ≤ h0.size) (F0 : Exa Z h0 a "com/example/plumbline/plumbline/model/PlistInteger") (F1 : Fld Z h0 a "com/example/plumbline/plumbline/model/PlistInteger" "bits" "J" (.long u)) (F2 : Fld Z h0 a "com/example/plumbline/plumbline/model/PlistInteger" "aboveLong" "Z" (.int w)) (g_a : n0 ≤ a) :
    MetFree l (⟨"com/example/plumbline/plumbline/model/PlistInteger", "<init>", "(JZ)V"⟩ : MethodName) (head1 (Jvm.Cond.code (⟨"com/example/plumbline/plumbline/model/PlistInteger", "<init>", "(JZ)V"⟩ : MethodName) prog_45_method_1_code 4 none :: ws) ({ frames := 1, cells := 0, slots := 0, locals := 12 } : Room)) (fun A_ U => A_ = #[(.ref a), (.long p1), (.int p2)] ∧ Z.Warmed39 U.vm ∧ U.heap = h0) (fun _ _ _ _ _ => True) (fun _ U o U' => ∃ v L, o = .returned v ∧ QiniI Z a p1 p2 u w (iniI p1 p2 u w) h0 n0 v U'.heap L ∧ FrameEnd U o U' L ({ frames := 1, cells := 0, slots := 0, locals := 12 } : Room).cells ({ frames := 1, cells := 0, slots := 0, locals := 12 } : Room).slots) := by
  refine MetFree.of_bodySF (plainFor_of_name pn_2) hisR ?_
  intro p e s m args below meth c s₁ Bd hml0 hP hK
  obtain ⟨rfl, hZ, hh⟩ := hP
  have hx := Bd.exec
  have hby := Bd.bytes
  have hml : c.maxLocals = 4 := hml0
  have hown : s.vm.findClass "com/example/plumbline/plumbline/model/PlistInteger" = some m.cls := findClass_of_methodNamed Bd.named
  have hnm := (name_of_methodNamed Bd.named Bd.method).1
  have X0 : Stand p l e ({ frames := 1, cells := 0, slots := 0, locals := 12 } : Room) s m #[(.ref a), (.long p1), (.int p2)] below meth c s₁ [] 0 0 := Stand.of_body Bd
  have e0 : s₁.heap = h0 := by rw [← hh, Bd.state]; rfl
  have N0 := Fr.nil n0
  obtain ⟨RES, hf⟩ : ∃ z, z = iniI p1 p2 u w := ⟨_, rfl⟩
  rw [← hf]
  rw [iniI] at hf
  suffices HGO : Go p e below s (QiniI Z a p1 p2 u w RES h0 n0) ({ frames := 1, cells := 0, slots := 0, locals := 12 } : Room).cells ({ frames := 1, cells := 0, slots := 0, locals := 12 } : Room).slots s₁ (mkF m 0 #[.val (.ref a), .val (.long p1), .second, .val (.int p2)] []) from Go.cast (ef_iniI m a p1 p2) HGO
  obtain ⟨T1, X1, e1, st1⟩ := initO X0 hx hZ hown (hw _ (List.mem_of_getElem? (i := 24) rfl)) (hw _ (List.mem_of_getElem? (i := 11) rfl)) (hw _ (List.mem_of_getElem? (i := 12) rfl)) e0 (g := (mkF m 1 #[.val (.ref a), .val (.long p1), .second, .val (.int p2)] [(.ref a)])) rfl (by rw [hml]; rfl) rfl (hb hby d5_1) (by decide) (W := 0) (by show 2 * 0 + _ ≤ _; exact Nat.le_of_eq rfl) (by decide)
  obtain ⟨T2, h2, X2, e2, W2, st2⟩ := putF X1 hx hZ hown (host := "") (Or.inl (hw _ (List.mem_of_getElem? (i := 25) rfl))) Via.refl e1 F1 F0 (Or.inr ⟨(hw _ (List.mem_of_getElem? (i := 26) rfl)), rfl, hnm⟩) (hw _ (List.mem_of_getElem? (i := 20) rfl)) (ty := .long) (by decide) rfl rfl (g := (mkF m 6 #[.val (.ref a), .val (.long p1), .second, .val (.int p2)] [(.long p1), (.ref a)])) rfl rfl (hb hby d5_6)
  have G3 : Exa Z h2 a "com/example/plumbline/plumbline/model/PlistInteger" := F0.wr W2
  have G4 : Fld Z h2 a "com/example/plumbline/plumbline/model/PlistInteger" "bits" "J" (.long p1) := F1.same W2
  have G5 : Fld Z h2 a "com/example/plumbline/plumbline/model/PlistInteger" "aboveLong" "Z" (.int w) := F2.other W2 (Or.inr (slot_ne (Or.inr (hw _ (List.mem_of_getElem? (i := 28) rfl))) (Or.inr (hw _ (List.mem_of_getElem? (i := 26) rfl))) (by decide) (t := .boolean) (t' := .long) (by decide) (by decide)))
  have N2 := Fr.snoc X2 N0 g_a
  have K2 : Keep h0 h2 [a] := Keep.wr (Keep.refl h0 [a]) W2 (Or.inl (List.mem_of_getElem? (i := 0) rfl))
  have Z2 : n0 ≤ h2.size := Nat.le_trans Z0 K2.1
  obtain ⟨T6, h6, X6, e6, W6, st6⟩ := putFN X2 hx hZ hown (hw _ (List.mem_of_getElem? (i := 27) rfl)) Via.refl e2 G5 G3 (Or.inr ⟨(hw _ (List.mem_of_getElem? (i := 28) rfl)), rfl, hnm⟩) (hw _ (List.mem_of_getElem? (i := 20) rfl)) (ty := .boolean) (v' := (.int (nar .boolean p2))) (by decide) rfl (fits_nar_bool _) (g := (mkF m 11 #[.val (.ref a), .val (.long p1), .second, .val (.int p2)] [(.int p2), (.ref a)])) rfl rfl (hb hby d5_11)
  have G7 : Exa Z h6 a "com/example/plumbline/plumbline/model/PlistInteger" := G3.wr W6
  have G8 : Fld Z h6 a "com/example/plumbline/plumbline/model/PlistInteger" "bits" "J" (.long p1) := G4.other W6 (Or.inr (slot_ne (Or.inr (hw _ (List.mem_of_getElem? (i := 26) rfl))) (Or.inr (hw _ (List.mem_of_getElem? (i := 28) rfl))) (by decide) (t := .long) (t' := .boolean) (by decide) (by decide)))
  have G9 : Fld Z h6 a "com/example/plumbline/plumbline/model/PlistInteger" "aboveLong" "Z" (.int (nar .boolean p2)) := G5.same W6
  have N6 := Fr.snoc X6 N2 g_a
  have K6 : Keep h0 h6 [a] := Keep.wr K2 W6 (Or.inl (List.mem_of_getElem? (i := 0) rfl))
  have Z6 : n0 ≤ h6.size := Nat.le_trans Z0 K6.1
  refine Go.step (T' := T6) (f' := (mkF m 14 #[.val (.ref a), .val (.long p1), .second, .val (.int p2)] [])) (fun t kt => ?_) ?_
  · show Steps p.tables e below (s₁.setTop (mkF m 0 #[.val (.ref a), .val (.long p1), .second, .val (.int p2)] [])) _
    refine XS.aloadN X0.here hx rfl (hb hby d5_0) rfl rfl ?_
    show Steps p.tables e below (s₁.setTop (mkF m 1 #[.val (.ref a), .val (.long p1), .second, .val (.int p2)] [(.ref a)])) _
    refine st1 _ ?_
    show Steps p.tables e below (T1.setTop (mkF m 4 #[.val (.ref a), .val (.long p1), .second, .val (.int p2)] [])) _
    refine XS.aloadN X1.here hx rfl (hb hby d5_4) rfl rfl ?_
    show Steps p.tables e below (T1.setTop (mkF m 5 #[.val (.ref a), .val (.long p1), .second, .val (.int p2)] [(.ref a)])) _
    refine XS.lloadN X1.here hx rfl (hb hby d5_5) rfl ?_
    show Steps p.tables e below (T1.setTop (mkF m 6 #[.val (.ref a), .val (.long p1), .second, .val (.int p2)] [(.long p1), (.ref a)])) _
    refine st2 _ ?_
    show Steps p.tables e below (T2.setTop (mkF m 9 #[.val (.ref a), .val (.long p1), .second, .val (.int p2)] [])) _
    refine XS.aloadN X2.here hx rfl (hb hby d5_9) rfl rfl ?_
    show Steps p.tables e below (T2.setTop (mkF m 10 #[.val (.ref a), .val (.long p1), .second, .val (.int p2)] [(.ref a)])) _
    refine XS.iloadN X2.here hx rfl (hb hby d5_10) rfl ?_
    show Steps p.tables e below (T2.setTop (mkF m 11 #[.val (.ref a), .val (.long p1), .second, .val (.int p2)] [(.int p2), (.ref a)])) _
    refine st6 _ ?_
    exact kt
  refine Go.fin X6 (v := none) (fun _ => rfl) Bd.notSynchronized ?_ (Nat.le_trans (Nat.le_refl 0) (by decide)) (Nat.le_trans (Nat.le_refl 0) (by decide)) (fun fs hr => X6.returnOut hx Bd.returns (hb hby d5_14) hr)
  · show QiniI Z a p1 p2 u w RES h0 n0 _ T6.heap _
    rw [e6, hf]
    exact ⟨rfl, N6, K6, G8, G9⟩
theorem pd_0 : parseMethodDescriptor "(JZ)V" = some ⟨[.long, .boolean], none⟩ := by decide +kernel
theorem d4_0 : decode prog_45_method_2_code 0 = .ok (.new 8, 3) := by decide +kernel
theorem d4_3 : decode prog_45_method_2_code 3 = .ok (.dup, 1) := by decide +kernel
theorem d4_4 : decode prog_45_method_2_code 4 = .ok (.lload_n 0, 1) := by decide +kernel
theorem d4_5 : decode prog_45_method_2_code 5 = .ok (.iconst 0, 1) := by decide +kernel
theorem d4_6 : decode prog_45_method_2_code 6 = .ok (.invokespecial 17, 3) := by decide +kernel
theorem d4_9 : decode prog_45_method_2_code 9 = .ok (.areturn, 1) := by decide +kernel
theorem ef_ofI (m : MethodId) (x0 : Int64) : entryFrame m #[(.long x0)] 2 = mkF m 0 #[.val (.long x0), .second] [] := by first | (simp [entryFrame, mkF, argsToLocals, Value.category]; done) | rfl
def QofI (Z : State) (p1 : Int64)  (h0 : Heap) (n0 : Nat) (v : Option Value) (h : Heap) (L : List Loc) : Prop := ∃ (b : Addr), v = some (.ref b) ∧ Fr n0 L ∧ Keep h0 h [] ∧ h0.size ≤ b ∧ Exa Z h b "com/example/plumbline/plumbline/model/PlistInteger"
set_option maxRecDepth 65536 in
set_option maxHeartbeats 40000000 in
theorem rm_ofI (l : Launch) (Z : State) (a0 : Array Value) (hw : ∀ d ∈ tables_1, d.before a0 Z = true) (ws : List Jvm.Cond) (p1 : Int64)  (h0 : Heap) (n0 : Nat) (Z0 : n0 ≤ h0.size) :
    MetFree l (⟨"com/example/plumbline/plumbline/model/PlistInteger", "of", "(J)Lcom/example/plumbline/plumbline/model/PlistInteger;"⟩ : MethodName) (head1 (Jvm.Cond.code (⟨"com/example/plumbline/plumbline/model/PlistInteger", "of", "(J)Lcom/example/plumbline/plumbline/model/PlistInteger;"⟩ : MethodName) prog_45_method_2_code 2 (some (.object "com/example/plumbline/plumbline/model/PlistInteger")) :: ws) ({ frames := 2, cells := 1, slots := 2, locals := 28 } : Room)) (fun A_ U => A_ = #[(.long p1)] ∧ Z.Warmed39 U.vm ∧ U.heap = h0) (fun _ _ _ _ _ => True) (fun _ U o U' => ∃ v L, o = .returned v ∧ QofI Z p1 h0 n0 v U'.heap L ∧ FrameEnd U o U' L ({ frames := 2, cells := 1, slots := 2, locals := 28 } : Room).cells ({ frames := 2, cells := 1, slots := 2, locals := 28 } : Room).slots) := by
  refine MetFree.of_bodySF (plainFor_of_name pn_2) hisR ?_
  intro p e s m args below meth c s₁ Bd hml0 hP hK
  obtain ⟨rfl, hZ, hh⟩ := hP
  have hx := Bd.exec
  have hby := Bd.bytes
  have hml : c.maxLocals = 2 := hml0
  have hown : s.vm.findClass "com/example/plumbline/plumbline/model/PlistInteger" = some m.cls := findClass_of_methodNamed Bd.named
  have hnm := (name_of_methodNamed Bd.named Bd.method).1
  have X0 : Stand p l e ({ frames := 2, cells := 1, slots := 2, locals := 28 } : Room) s m #[(.long p1)] below meth c s₁ [] 0 0 := Stand.of_body Bd
  have e0 : s₁.heap = h0 := by rw [← hh, Bd.state]; rfl
  have N0 := Fr.nil n0
  suffices HGO : Go p e below s (QofI Z p1 h0 n0) ({ frames := 2, cells := 1, slots := 2, locals := 28 } : Room).cells ({ frames := 2, cells := 1, slots := 2, locals := 28 } : Room).slots s₁ (mkF m 0 #[.val (.long p1), .second] []) from Go.cast (ef_ofI m p1) HGO
  obtain ⟨T1, h1, X1, e1, E1, A1, D1, -, st1⟩ := newO X0 hx hZ hown (hw _ (List.mem_of_getElem? (i := 19) rfl)) (hw _ (List.mem_of_getElem? (i := 20) rfl)) (hw _ (List.mem_of_getElem? (i := 17) rfl)) e0 (g := (mkF m 0 #[.val (.long p1), .second] [])) rfl (hb hby d4_0) (Nat.le_trans (Nat.add_le_add_right (Nat.le_refl 0) 1) (by decide)) (Nat.le_trans (Nat.add_le_add_right (Nat.le_refl 0) 2) (by decide))
  obtain ⟨b1, g1⟩ : ∃ z, z = h0.size := ⟨_, rfl⟩
  rw [← g1] at A1 D1 st1
  have g_b1 : n0 ≤ b1 := Nat.le_trans Z0 (Nat.le_of_eq g1.symm)
  have sz_b1 : h0.size ≤ b1 := Nat.le_trans (Keep.refl h0 []).1 (Nat.le_of_eq g1.symm)
  have K1 : Keep h0 h1 [] := Keep.ext (Keep.refl h0 []) E1
  have Z1 : n0 ≤ h1.size := Nat.le_trans Z0 K1.1
  have G2 : Fld Z h1 b1 "com/example/plumbline/plumbline/model/PlistInteger" "bits" "J" (.long (0 : Int64)) := D1 (Or.inr (hw _ (List.mem_of_getElem? (i := 26) rfl))) (ty := .long) (by decide)
  have G3 : Fld Z h1 b1 "com/example/plumbline/plumbline/model/PlistInteger" "aboveLong" "Z" (.int (0 : Int32)) := D1 (Or.inr (hw _ (List.mem_of_getElem? (i := 28) rfl))) (ty := .boolean) (by decide)
  obtain ⟨_, _, ⟨T4, L4, k4, n4⟩, -, X4, ⟨Lc4, hQ4, l4, y4, z4⟩, st4⟩ := X1.specialBack hx (y := (⟨"com/example/plumbline/plumbline/model/PlistInteger", "<init>", "(JZ)V"⟩ : MethodName)) rfl hown (mvT hZ (hw _ (List.mem_of_getElem? (i := 21) rfl))) (mvT hZ (hw _ (List.mem_of_getElem? (i := 22) rfl))) (mvT hZ (hw _ (List.mem_of_getElem? (i := 23) rfl))) (by decide) (backOf (W := 1) (rm_iniI l Z a0 hw [] b1 p1 (0 : Int32) (0 : Int64) (0 : Int32) h1 n0 Z1 A1 G2 G3 g_b1 ) hZ (hw _ (List.mem_of_getElem? (i := 23) rfl)) (hw _ (List.mem_of_getElem? (i := 17) rfl)) (by decide) (by decide)) (g := (mkF m 6 #[.val (.long p1), .second] [(.int (0 : Int32)), (.long p1), (.ref b1), (.ref b1)])) rfl (by rw [hml]; rfl) (Steps.refl _) (a := b1) (argsL := [(.long p1), (.int (0 : Int32))]) (rest := [(.ref b1)]) (lenOf pd_0 rfl) rfl (by show 2 * 0 + _ ≤ _; exact Nat.le_of_eq rfl) (hb hby d4_6) (fun _ _ => ⟨rfl, e1, (Nat.le_trans (Nat.add_le_add_right (Nat.add_le_add_right (Nat.le_refl 0) 1) 0) (by decide)), (Nat.le_trans (Nat.add_le_add_right (Nat.add_le_add_right (Nat.le_refl 0) 2) 0) (by decide))⟩)
  dsimp only [Pt.U, Pt.locs, Pt.cells, Pt.slots] at X4 l4 y4 z4 st4 hQ4
  subst l4 y4 z4
  obtain ⟨rfl, N4q, Kq4, pf4_0, pf4_1⟩ := hQ4
  have G5 : Exa Z T4.heap b1 "com/example/plumbline/plumbline/model/PlistInteger" := Exa.keep A1 Kq4
  have K4 : Keep h0 T4.heap [] := Keep.trans K1 Kq4 (allS (Or.inr sz_b1) all0)
  have Z4 : n0 ≤ T4.heap.size := Nat.le_trans Z0 K4.1
  have N4 := Fr.app N0 N4q
  refine Go.step (T' := T4) (f' := (mkF m 9 #[.val (.long p1), .second] [(.ref b1)])) (fun t kt => ?_) ?_
  · show Steps p.tables e below (s₁.setTop (mkF m 0 #[.val (.long p1), .second] [])) _
    refine st1 _ ?_
    show Steps p.tables e below (T1.setTop (mkF m 3 #[.val (.long p1), .second] [(.ref b1)])) _
    refine XS.dup X1.here hx rfl (hb hby d4_3) rfl rfl ?_
    show Steps p.tables e below (T1.setTop (mkF m 4 #[.val (.long p1), .second] [(.ref b1), (.ref b1)])) _
    refine XS.lloadN X1.here hx rfl (hb hby d4_4) rfl ?_
    show Steps p.tables e below (T1.setTop (mkF m 5 #[.val (.long p1), .second] [(.long p1), (.ref b1), (.ref b1)])) _
    refine XS.iconst X1.here hx rfl (hb hby d4_5) ?_
    show Steps p.tables e below (T1.setTop (mkF m 6 #[.val (.long p1), .second] [(.int (0 : Int32)), (.long p1), (.ref b1), (.ref b1)])) _
    refine st4.trans ?_
    exact kt
  refine Go.fin X4 (v := some (.ref b1)) (fun h => by rw [Bd.returns] at h; cases h) Bd.notSynchronized ?_ (Nat.le_trans (Nat.add_le_add_right (Nat.add_le_add_right (Nat.le_refl 0) 1) 0) (by decide)) (Nat.le_trans (Nat.add_le_add_right (Nat.add_le_add_right (Nat.le_refl 0) 2) 0) (by decide)) (fun fs hr => X4.areturnOut hx rfl Bd.returns rfl (hb hby d4_9) hr)
  · show QofI Z p1 h0 n0 _ T4.heap _
    exact ⟨b1, rfl, N4, K4, sz_b1, G5⟩
theorem d6_0 : decode prog_49_method_3_code 0 = .ok (.aload_n 1, 1) := by decide +kernel
theorem d6_1 : decode prog_49_method_3_code 1 = .ok (.instanceof 8, 3) := by decide +kernel
theorem d6_4 : decode prog_49_method_3_code 4 = .ok (.ifCond .eq 24, 3) := by decide +kernel
theorem d6_7 : decode prog_49_method_3_code 7 = .ok (.aload_n 1, 1) := by decide +kernel
theorem d6_8 : decode prog_49_method_3_code 8 = .ok (.checkcast 8, 3) := by decide +kernel
theorem d6_11 : decode prog_49_method_3_code 11 = .ok (.astore_n 2, 1) := by decide +kernel
theorem d6_12 : decode prog_49_method_3_code 12 = .ok (.aload_n 0, 1) := by decide +kernel
theorem d6_13 : decode prog_49_method_3_code 13 = .ok (.getfield 7, 3) := by decide +kernel
theorem d6_16 : decode prog_49_method_3_code 16 = .ok (.aload_n 2, 1) := by decide +kernel
theorem d6_17 : decode prog_49_method_3_code 17 = .ok (.getfield 7, 3) := by decide +kernel
theorem d6_20 : decode prog_49_method_3_code 20 = .ok (.lcmp, 1) := by decide +kernel
theorem d6_21 : decode prog_49_method_3_code 21 = .ok (.ifCond .ne 7, 3) := by decide +kernel
theorem d6_24 : decode prog_49_method_3_code 24 = .ok (.iconst 1, 1) := by decide +kernel
theorem d6_25 : decode prog_49_method_3_code 25 = .ok (.goto 4, 3) := by decide +kernel
theorem d6_28 : decode prog_49_method_3_code 28 = .ok (.iconst 0, 1) := by decide +kernel
theorem d6_29 : decode prog_49_method_3_code 29 = .ok (.ireturn, 1) := by decide +kernel
theorem ef_eqU (m : MethodId) (x0 : Addr) (x1 : Addr) : entryFrame m #[(.ref x0), (.ref x1)] 3 = mkF m 0 #[.val (.ref x0), .val (.ref x1), .unset] [] := by first | (simp [entryFrame, mkF, argsToLocals, Value.category]; done) | rfl
def eqU (u : Int64) (w : Int64) : Int32 := (if u = w then (1 : Int32) else (0 : Int32))
def QeqU (Z : State) (a : Addr) (b : Addr) (u : Int64) (w : Int64) (RES : Int32) (h0 : Heap) (n0 : Nat) (v : Option Value) (h : Heap) (L : List Loc) : Prop := v = some (.int RES) ∧ Fr n0 L ∧ h = h0
set_option maxRecDepth 65536 in
set_option maxHeartbeats 40000000 in
theorem rm_eqU (l : Launch) (Z : State) (a0 : Array Value) (hw : ∀ d ∈ tables_1, d.before a0 Z = true) (ws : List Jvm.Cond) (a : Addr) (b : Addr) (u : Int64) (w : Int64) (h0 : Heap) (n0 : Nat) (Z0 : n0 ≤ h0.size) (F0 : Exa Z h0 b "com/example/plumbline/plumbline/model/PlistUid") (F1 : Fld Z h0 a "com/example/plumbline/plumbline/model/PlistUid" "value" "J" (.long u)) (F2 : Fld Z h0 b "com/example/plumbline/plumbline/model/PlistUid" "value" "J" (.long w)) :
    MetFree l (⟨"com/example/plumbline/plumbline/model/PlistUid", "equals", "(Ljava/lang/Object;)Z"⟩ : MethodName) (head1 (Jvm.Cond.code (⟨"com/example/plumbline/plumbline/model/PlistUid", "equals", "(Ljava/lang/Object;)Z"⟩ : MethodName) prog_49_method_3_code 3 (some .boolean) :: ws) ({ frames := 0, cells := 0, slots := 0, locals := 0 } : Room)) (fun A_ U => A_ = #[(.ref a), (.ref b)] ∧ Z.Warmed39 U.vm ∧ U.heap = h0) (fun _ _ _ _ _ => True) (fun _ U o U' => ∃ v L, o = .returned v ∧ QeqU Z a b u w (eqU u w) h0 n0 v U'.heap L ∧ FrameEnd U o U' L ({ frames := 0, cells := 0, slots := 0, locals := 0 } : Room).cells ({ frames := 0, cells := 0, slots := 0, locals := 0 } : Room).slots) := by
  refine MetFree.of_bodySF (plainFor_of_name pn_1) hisR ?_
  intro p e s m args below meth c s₁ Bd hml0 hP hK
  obtain ⟨rfl, hZ, hh⟩ := hP
  have hx := Bd.exec
  have hby := Bd.bytes
  have hml : c.maxLocals = 3 := hml0
  have hown : s.vm.findClass "com/example/plumbline/plumbline/model/PlistUid" = some m.cls := findClass_of_methodNamed Bd.named
  have hnm := (name_of_methodNamed Bd.named Bd.method).1
  have X0 : Stand p l e ({ frames := 0, cells := 0, slots := 0, locals := 0 } : Room) s m #[(.ref a), (.ref b)] below meth c s₁ [] 0 0 := Stand.of_body Bd
  have e0 : s₁.heap = h0 := by rw [← hh, Bd.state]; rfl
  have N0 := Fr.nil n0
  obtain ⟨RES, hf⟩ : ∃ z, z = eqU u w := ⟨_, rfl⟩
  rw [← hf]
  rw [eqU] at hf
  suffices HGO : Go p e below s (QeqU Z a b u w RES h0 n0) ({ frames := 0, cells := 0, slots := 0, locals := 0 } : Room).cells ({ frames := 0, cells := 0, slots := 0, locals := 0 } : Room).slots s₁ (mkF m 0 #[.val (.ref a), .val (.ref b), .unset] []) from Go.cast (ef_eqU m a b) HGO
  obtain ⟨T1, X1, e1, st1⟩ := instY X0 hx hZ hown (hw _ (List.mem_of_getElem? (i := 34) rfl)) e0 (Ins.self F0) (g := (mkF m 1 #[.val (.ref a), .val (.ref b), .unset] [(.ref b)])) rfl rfl (hb hby d6_1)
  obtain ⟨T2, X2, e2, st2⟩ := castY X1 hx hZ hown (hw _ (List.mem_of_getElem? (i := 34) rfl)) e1 (Ins.self F0) (g := (mkF m 8 #[.val (.ref a), .val (.ref b), .unset] [(.ref b)])) rfl rfl (hb hby d6_8)
  obtain ⟨T3, X3, e3, st3⟩ := getF X2 hx hZ hown (host := "") (Or.inl (hw _ (List.mem_of_getElem? (i := 13) rfl))) Via.refl e2 F1 (g := (mkF m 13 #[.val (.ref a), .val (.ref b), .val (.ref b)] [(.ref a)])) rfl rfl (hb hby d6_13)
  obtain ⟨T4, X4, e4, st4⟩ := getF X3 hx hZ hown (host := "") (Or.inl (hw _ (List.mem_of_getElem? (i := 13) rfl))) Via.refl e3 F2 (g := (mkF m 17 #[.val (.ref a), .val (.ref b), .val (.ref b)] [(.ref b), (.long u)])) rfl rfl (hb hby d6_17)
  refine Go.step (T' := T4) (f' := (mkF m 21 #[.val (.ref a), .val (.ref b), .val (.ref b)] [(.int (lcmpW u w))])) (fun t kt => ?_) ?_
  · show Steps p.tables e below (s₁.setTop (mkF m 0 #[.val (.ref a), .val (.ref b), .unset] [])) _
    refine XS.aloadN X0.here hx rfl (hb hby d6_0) rfl rfl ?_
    show Steps p.tables e below (s₁.setTop (mkF m 1 #[.val (.ref a), .val (.ref b), .unset] [(.ref b)])) _
    refine st1 _ ?_
    show Steps p.tables e below (T1.setTop (mkF m 4 #[.val (.ref a), .val (.ref b), .unset] [(.int (1 : Int32))])) _
    refine XS.ifNo X1.here hx rfl (hb hby d6_4) rfl ((if0 _ _).trans (feq (by decide : ¬ ((1 : Int32) = (0 : Int32)))).1) ?_
    show Steps p.tables e below (T1.setTop (mkF m 7 #[.val (.ref a), .val (.ref b), .unset] [])) _
    refine XS.aloadN X1.here hx rfl (hb hby d6_7) rfl rfl ?_
    show Steps p.tables e below (T1.setTop (mkF m 8 #[.val (.ref a), .val (.ref b), .unset] [(.ref b)])) _
    refine st2 _ ?_
    show Steps p.tables e below (T2.setTop (mkF m 11 #[.val (.ref a), .val (.ref b), .unset] [(.ref b)])) _
    refine XS.astoreN X2.here hx rfl (hb hby d6_11) rfl rfl (l' := #[.val (.ref a), .val (.ref b), .val (.ref b)]) rfl ?_
    show Steps p.tables e below (T2.setTop (mkF m 12 #[.val (.ref a), .val (.ref b), .val (.ref b)] [])) _
    refine XS.aloadN X2.here hx rfl (hb hby d6_12) rfl rfl ?_
    show Steps p.tables e below (T2.setTop (mkF m 13 #[.val (.ref a), .val (.ref b), .val (.ref b)] [(.ref a)])) _
    refine st3 _ ?_
    show Steps p.tables e below (T3.setTop (mkF m 16 #[.val (.ref a), .val (.ref b), .val (.ref b)] [(.long u)])) _
    refine XS.aloadN X3.here hx rfl (hb hby d6_16) rfl rfl ?_
    show Steps p.tables e below (T3.setTop (mkF m 17 #[.val (.ref a), .val (.ref b), .val (.ref b)] [(.ref b), (.long u)])) _
    refine st4 _ ?_
    show Steps p.tables e below (T4.setTop (mkF m 20 #[.val (.ref a), .val (.ref b), .val (.ref b)] [(.long w), (.long u)])) _
    refine XS.lcmp X4.here hx rfl (hb hby d6_20) rfl ?_
    exact kt
  by_cases hc5 : u = w
  · rw [if_pos hc5] at hf
    refine Go.step (T' := T4) (f' := (mkF m 24 #[.val (.ref a), .val (.ref b), .val (.ref b)] [])) (fun t kt => ?_) ?_
    · show Steps p.tables e below (T4.setTop (mkF m 21 #[.val (.ref a), .val (.ref b), .val (.ref b)] [(.int (lcmpW u w))])) _
      refine XS.ifNo X4.here hx rfl (hb hby d6_21) rfl ((if0 _ _).trans (teq ((lw_eq _ _).mpr hc5)).2) ?_
      exact kt
    refine Go.step (T' := T4) (f' := (mkF m 29 #[.val (.ref a), .val (.ref b), .val (.ref b)] [(.int (1 : Int32))])) (fun t kt => ?_) ?_
    · show Steps p.tables e below (T4.setTop (mkF m 24 #[.val (.ref a), .val (.ref b), .val (.ref b)] [])) _
      refine XS.iconst X4.here hx rfl (hb hby d6_24) ?_
      show Steps p.tables e below (T4.setTop (mkF m 25 #[.val (.ref a), .val (.ref b), .val (.ref b)] [(.int (1 : Int32))])) _
      refine XS.goto X4.here hx rfl (pc0 := 25) (pc' := 29) rfl (hb hby d6_25) (by decide) (by decide) ?_
      exact kt
    refine Go.fin X4 (v := some (.int (1 : Int32))) (fun h => by rw [Bd.returns] at h; cases h) Bd.notSynchronized ?_ (Nat.le_trans (Nat.le_refl 0) (by decide)) (Nat.le_trans (Nat.le_refl 0) (by decide)) (fun fs hr => retN X4 hx (t := .boolean) Bd.returns (by simp) (hb hby d6_29) hr)
    · exact ⟨by rw [hf], N0, e4⟩
  · rw [if_neg hc5] at hf
    refine Go.step (T' := T4) (f' := (mkF m 28 #[.val (.ref a), .val (.ref b), .val (.ref b)] [])) (fun t kt => ?_) ?_
    · show Steps p.tables e below (T4.setTop (mkF m 21 #[.val (.ref a), .val (.ref b), .val (.ref b)] [(.int (lcmpW u w))])) _
      refine XS.ifYes X4.here hx rfl (pc0 := 21) (pc' := 28) rfl (hb hby d6_21) rfl ((if0 _ _).trans (feq (fun q => hc5 ((lw_eq _ _).mp q))).2) (by decide) (by decide) ?_
      exact kt
    refine Go.step (T' := T4) (f' := (mkF m 29 #[.val (.ref a), .val (.ref b), .val (.ref b)] [(.int (0 : Int32))])) (fun t kt => ?_) ?_
    · show Steps p.tables e below (T4.setTop (mkF m 28 #[.val (.ref a), .val (.ref b), .val (.ref b)] [])) _
      refine XS.iconst X4.here hx rfl (hb hby d6_28) ?_
      exact kt
    refine Go.fin X4 (v := some (.int (0 : Int32))) (fun h => by rw [Bd.returns] at h; cases h) Bd.notSynchronized ?_ (Nat.le_trans (Nat.le_refl 0) (by decide)) (Nat.le_trans (Nat.le_refl 0) (by decide)) (fun fs hr => retN X4 hx (t := .boolean) Bd.returns (by simp) (hb hby d6_29) hr)
    · exact ⟨by rw [hf], N0, e4⟩
theorem ef_eqN (m : MethodId) (x0 : Addr) : entryFrame m #[(.ref x0), .null] 3 = mkF m 0 #[.val (.ref x0), .val .null, .unset] [] := by first | (simp [entryFrame, mkF, argsToLocals, Value.category]; done) | rfl
def eqN  : Int32 := (0 : Int32)
def QeqN (Z : State) (a : Addr)  (RES : Int32) (h0 : Heap) (n0 : Nat) (v : Option Value) (h : Heap) (L : List Loc) : Prop := v = some (.int RES) ∧ Fr n0 L ∧ h = h0
set_option maxRecDepth 65536 in
set_option maxHeartbeats 40000000 in
theorem rm_eqN (l : Launch) (Z : State) (a0 : Array Value) (hw : ∀ d ∈ tables_1, d.before a0 Z = true) (ws : List Jvm.Cond) (a : Addr)  (h0 : Heap) (n0 : Nat) (Z0 : n0 ≤ h0.size) :
    MetFree l (⟨"com/example/plumbline/plumbline/model/PlistUid", "equals", "(Ljava/lang/Object;)Z"⟩ : MethodName) (head1 (Jvm.Cond.code (⟨"com/example/plumbline/plumbline/model/PlistUid", "equals", "(Ljava/lang/Object;)Z"⟩ : MethodName) prog_49_method_3_code 3 (some .boolean) :: ws) ({ frames := 0, cells := 0, slots := 0, locals := 0 } : Room)) (fun A_ U => A_ = #[(.ref a), .null] ∧ Z.Warmed39 U.vm ∧ U.heap = h0) (fun _ _ _ _ _ => True) (fun _ U o U' => ∃ v L, o = .returned v ∧ QeqN Z a (eqN ) h0 n0 v U'.heap L ∧ FrameEnd U o U' L ({ frames := 0, cells := 0, slots := 0, locals := 0 } : Room).cells ({ frames := 0, cells := 0, slots := 0, locals := 0 } : Room).slots) := by
  refine MetFree.of_bodySF (plainFor_of_name pn_1) hisR ?_
  intro p e s m args below meth c s₁ Bd hml0 hP hK
  obtain ⟨rfl, hZ, hh⟩ := hP
  have hx := Bd.exec
  have hby := Bd.bytes
  have hml : c.maxLocals = 3 := hml0
  have hown : s.vm.findClass "com/example/plumbline/plumbline/model/PlistUid" = some m.cls := findClass_of_methodNamed Bd.named
  have hnm := (name_of_methodNamed Bd.named Bd.method).1
  have X0 : Stand p l e ({ frames := 0, cells := 0, slots := 0, locals := 0 } : Room) s m #[(.ref a), .null] below meth c s₁ [] 0 0 := Stand.of_body Bd
  have e0 : s₁.heap = h0 := by rw [← hh, Bd.state]; rfl
  have N0 := Fr.nil n0
  obtain ⟨RES, hf⟩ : ∃ z, z = eqN  := ⟨_, rfl⟩
  rw [← hf]
  rw [eqN] at hf
  suffices HGO : Go p e below s (QeqN Z a RES h0 n0) ({ frames := 0, cells := 0, slots := 0, locals := 0 } : Room).cells ({ frames := 0, cells := 0, slots := 0, locals := 0 } : Room).slots s₁ (mkF m 0 #[.val (.ref a), .val .null, .unset] []) from Go.cast (ef_eqN m a) HGO
  refine Go.step (T' := s₁) (f' := (mkF m 29 #[.val (.ref a), .val .null, .unset] [(.int (0 : Int32))])) (fun t kt => ?_) ?_
  · show Steps p.tables e below (s₁.setTop (mkF m 0 #[.val (.ref a), .val .null, .unset] [])) _
    refine XS.aloadN X0.here hx rfl (hb hby d6_0) rfl rfl ?_
    show Steps p.tables e below (s₁.setTop (mkF m 1 #[.val (.ref a), .val .null, .unset] [.null])) _
    refine X0.instanceofNull hx (g := (mkF m 1 #[.val (.ref a), .val .null, .unset] [.null])) rfl rfl (hb hby d6_1) _ ?_
    show Steps p.tables e below (s₁.setTop (mkF m 4 #[.val (.ref a), .val .null, .unset] [(.int (0 : Int32))])) _
    refine XS.ifYes X0.here hx rfl (pc0 := 4) (pc' := 28) rfl (hb hby d6_4) rfl ((if0 _ _).trans (teq (by decide : ((0 : Int32) = (0 : Int32)))).1) (by decide) (by decide) ?_
    show Steps p.tables e below (s₁.setTop (mkF m 28 #[.val (.ref a), .val .null, .unset] [])) _
    refine XS.iconst X0.here hx rfl (hb hby d6_28) ?_
    exact kt
  refine Go.fin X0 (v := some (.int (0 : Int32))) (fun h => by rw [Bd.returns] at h; cases h) Bd.notSynchronized ?_ (Nat.le_trans (Nat.le_refl 0) (by decide)) (Nat.le_trans (Nat.le_refl 0) (by decide)) (fun fs hr => retN X0 hx (t := .boolean) Bd.returns (by simp) (hb hby d6_29) hr)
  · exact ⟨by rw [hf], N0, e0⟩
theorem ef_eqI (m : MethodId) (x0 : Addr) (x1 : Addr) : entryFrame m #[(.ref x0), (.ref x1)] 3 = mkF m 0 #[.val (.ref x0), .val (.ref x1), .unset] [] := by first | (simp [entryFrame, mkF, argsToLocals, Value.category]; done) | rfl
def eqI  : Int32 := (0 : Int32)
def QeqI (Z : State) (a : Addr) (b : Addr)  (RES : Int32) (h0 : Heap) (n0 : Nat) (v : Option Value) (h : Heap) (L : List Loc) : Prop := v = some (.int RES) ∧ Fr n0 L ∧ h = h0
set_option maxRecDepth 65536 in
set_option maxHeartbeats 40000000 in
theorem rm_eqI (l : Launch) (Z : State) (a0 : Array Value) (hw : ∀ d ∈ tables_1, d.before a0 Z = true) (ws : List Jvm.Cond) (a : Addr) (b : Addr)  (h0 : Heap) (n0 : Nat) (Z0 : n0 ≤ h0.size) (F0 : Exa Z h0 b "com/example/plumbline/plumbline/model/PlistInteger") :
    MetFree l (⟨"com/example/plumbline/plumbline/model/PlistUid", "equals", "(Ljava/lang/Object;)Z"⟩ : MethodName) (head1 (Jvm.Cond.code (⟨"com/example/plumbline/plumbline/model/PlistUid", "equals", "(Ljava/lang/Object;)Z"⟩ : MethodName) prog_49_method_3_code 3 (some .boolean) :: ws) ({ frames := 0, cells := 0, slots := 0, locals := 0 } : Room)) (fun A_ U => A_ = #[(.ref a), (.ref b)] ∧ Z.Warmed39 U.vm ∧ U.heap = h0) (fun _ _ _ _ _ => True) (fun _ U o U' => ∃ v L, o = .returned v ∧ QeqI Z a b (eqI ) h0 n0 v U'.heap L ∧ FrameEnd U o U' L ({ frames := 0, cells := 0, slots := 0, locals := 0 } : Room).cells ({ frames := 0, cells := 0, slots := 0, locals := 0 } : Room).slots) := by
  refine MetFree.of_bodySF (plainFor_of_name pn_1) hisR ?_
  intro p e s m args below meth c s₁ Bd hml0 hP hK
  obtain ⟨rfl, hZ, hh⟩ := hP
  have hx := Bd.exec
  have hby := Bd.bytes
  have hml : c.maxLocals = 3 := hml0
  have hown : s.vm.findClass "com/example/plumbline/plumbline/model/PlistUid" = some m.cls := findClass_of_methodNamed Bd.named
  have hnm := (name_of_methodNamed Bd.named Bd.method).1
  have X0 : Stand p l e ({ frames := 0, cells := 0, slots := 0, locals := 0 } : Room) s m #[(.ref a), (.ref b)] below meth c s₁ [] 0 0 := Stand.of_body Bd
  have e0 : s₁.heap = h0 := by rw [← hh, Bd.state]; rfl
  have N0 := Fr.nil n0
  obtain ⟨RES, hf⟩ : ∃ z, z = eqI  := ⟨_, rfl⟩
  rw [← hf]
  rw [eqI] at hf
  suffices HGO : Go p e below s (QeqI Z a b RES h0 n0) ({ frames := 0, cells := 0, slots := 0, locals := 0 } : Room).cells ({ frames := 0, cells := 0, slots := 0, locals := 0 } : Room).slots s₁ (mkF m 0 #[.val (.ref a), .val (.ref b), .unset] []) from Go.cast (ef_eqI m a b) HGO
  obtain ⟨T1, X1, e1, st1⟩ := instNo X0 hx hZ hown (hw _ (List.mem_of_getElem? (i := 34) rfl)) e0 F0 (own_notsub (hw _ (List.mem_of_getElem? (i := 36) rfl)) (hw _ (List.mem_of_getElem? (i := 37) rfl)) (hw _ (List.mem_of_getElem? (i := 5) rfl)) (by decide) (by decide)) (g := (mkF m 1 #[.val (.ref a), .val (.ref b), .unset] [(.ref b)])) rfl rfl (hb hby d6_1)
  refine Go.step (T' := T1) (f' := (mkF m 29 #[.val (.ref a), .val (.ref b), .unset] [(.int (0 : Int32))])) (fun t kt => ?_) ?_
  · show Steps p.tables e below (s₁.setTop (mkF m 0 #[.val (.ref a), .val (.ref b), .unset] [])) _
    refine XS.aloadN X0.here hx rfl (hb hby d6_0) rfl rfl ?_
    show Steps p.tables e below (s₁.setTop (mkF m 1 #[.val (.ref a), .val (.ref b), .unset] [(.ref b)])) _
    refine st1 _ ?_
    show Steps p.tables e below (T1.setTop (mkF m 4 #[.val (.ref a), .val (.ref b), .unset] [(.int (0 : Int32))])) _
    refine XS.ifYes X1.here hx rfl (pc0 := 4) (pc' := 28) rfl (hb hby d6_4) rfl ((if0 _ _).trans (teq (by decide : ((0 : Int32) = (0 : Int32)))).1) (by decide) (by decide) ?_
    show Steps p.tables e below (T1.setTop (mkF m 28 #[.val (.ref a), .val (.ref b), .unset] [])) _
    refine XS.iconst X1.here hx rfl (hb hby d6_28) ?_
    exact kt
  refine Go.fin X1 (v := some (.int (0 : Int32))) (fun h => by rw [Bd.returns] at h; cases h) Bd.notSynchronized ?_ (Nat.le_trans (Nat.le_refl 0) (by decide)) (Nat.le_trans (Nat.le_refl 0) (by decide)) (fun fs hr => retN X1 hx (t := .boolean) Bd.returns (by simp) (hb hby d6_29) hr)
  · exact ⟨by rw [hf], N0, e1⟩
theorem pd_1 : parseMethodDescriptor "(JJI)J" = some ⟨[.long, .long, .int], some .long⟩ := by decide +kernel
theorem pd_2 : parseMethodDescriptor "(J)V" = some ⟨[.long], none⟩ := by decide +kernel
theorem pd_3 : parseMethodDescriptor "(J)Lcom/example/plumbline/plumbline/model/PlistInteger;" = some ⟨[.long], some (.object "com/example/plumbline/plumbline/model/PlistInteger")⟩ := by decide +kernel
theorem pd_4 : parseMethodDescriptor "(Ljava/lang/Object;)Z" = some ⟨[(.object "java/lang/Object")], some .boolean⟩ := by decide +kernel
theorem ef_0 (m : MethodId) (x0 : Int64) (x1 : Int64) (x2 : Int32) : entryFrame m #[(.long x0), (.long x1), (.int x2)] maxLocals = mkF m 0 #[.val (.long x0), .second, .val (.long x1), .second, .val (.int x2), .unset, .unset, .unset, .unset, .unset, .unset, .unset, .unset, .unset, .unset, .unset] [] := by first | (simp [entryFrame, mkF, argsToLocals, Value.category, maxLocals]; done) | rfl
def lawF (p1 : Int64) (p2 : Int64) (p3 : Int32) : Int32 := (if p1 = (pick p1 p2 p3) then (if (eqU p1 (pick p1 p2 p3)) = (1 : Int32) then (if (eqU (pick p1 p2 p3) p1) = (1 : Int32) then (if (eqN ) = (0 : Int32) then (if (eqI ) = (0 : Int32) then (if (eqU p1 p1) = (0 : Int32) then (0 : Int32) else (1 : Int32)) else (if (eqU p1 p1) = (0 : Int32) then (0 : Int32) else (0 : Int32))) else (if (eqI ) = (0 : Int32) then (if (eqU p1 p1) = (0 : Int32) then (0 : Int32) else (0 : Int32)) else (if (eqU p1 p1) = (0 : Int32) then (0 : Int32) else (0 : Int32)))) else (if (eqN ) = (0 : Int32) then (if (eqI ) = (0 : Int32) then (0 : Int32) else (0 : Int32)) else (if (eqI ) = (0 : Int32) then (0 : Int32) else (0 : Int32)))) else (if (eqU (pick p1 p2 p3) p1) = (1 : Int32) then (if (eqN ) = (0 : Int32) then (if (eqI ) = (0 : Int32) then (0 : Int32) else (0 : Int32)) else (if (eqI ) = (0 : Int32) then (0 : Int32) else (0 : Int32))) else (if (eqN ) = (0 : Int32) then (if (eqI ) = (0 : Int32) then (0 : Int32) else (0 : Int32)) else (if (eqI ) = (0 : Int32) then (0 : Int32) else (0 : Int32))))) else (if (eqU p1 (pick p1 p2 p3)) = (0 : Int32) then (if (eqU (pick p1 p2 p3) p1) = (0 : Int32) then (if (eqN ) = (0 : Int32) then (if (eqI ) = (0 : Int32) then (if (eqU p1 p1) = (0 : Int32) then (0 : Int32) else (1 : Int32)) else (if (eqU p1 p1) = (0 : Int32) then (0 : Int32) else (0 : Int32))) else (if (eqI ) = (0 : Int32) then (if (eqU p1 p1) = (0 : Int32) then (0 : Int32) else (0 : Int32)) else (if (eqU p1 p1) = (0 : Int32) then (0 : Int32) else (0 : Int32)))) else (if (eqN ) = (0 : Int32) then (if (eqI ) = (0 : Int32) then (0 : Int32) else (0 : Int32)) else (if (eqI ) = (0 : Int32) then (0 : Int32) else (0 : Int32)))) else (if (eqU (pick p1 p2 p3) p1) = (0 : Int32) then (if (eqN ) = (0 : Int32) then (if (eqI ) = (0 : Int32) then (0 : Int32) else (0 : Int32)) else (if (eqI ) = (0 : Int32) then (0 : Int32) else (0 : Int32))) else (if (eqN ) = (0 : Int32) then (if (eqI ) = (0 : Int32) then (0 : Int32) else (0 : Int32)) else (if (eqI ) = (0 : Int32) then (0 : Int32) else (0 : Int32))))))
def Q0 (Z : State) (p1 : Int64) (p2 : Int64) (p3 : Int32)  (RES : Int32) (h0 : Heap) (n0 : Nat) (v : Option Value) (h : Heap) (L : List Loc) : Prop := v = some (.int RES) ∧ Fr n0 L
set_option maxRecDepth 65536 in
set_option maxHeartbeats 40000000 in
theorem rm_0 (l : Launch) (Z : State) (a0 : Array Value) (hw : ∀ d ∈ tables_1, d.before a0 Z = true) (ws : List Jvm.Cond) (p1 : Int64) (p2 : Int64) (p3 : Int32)  (h0 : Heap) (n0 : Nat) (Z0 : n0 ≤ h0.size) :
    MetFree l x (head1 (Jvm.Cond.code x code maxLocals ret :: ws) room_1) (fun A_ U => A_ = #[(.long p1), (.long p2), (.int p3)] ∧ Z.Warmed39 U.vm ∧ U.heap = h0) (fun _ _ _ _ _ => True) (fun _ U o U' => ∃ v L, o = .returned v ∧ Q0 Z p1 p2 p3 (lawF p1 p2 p3) h0 n0 v U'.heap L ∧ FrameEnd U o U' L 16 128) := by
  refine MetFree.of_bodySF (plainFor_of_name pn_0) hisR ?_
  intro p e s m args below meth c s₁ Bd hml0 hP hK
  obtain ⟨rfl, hZ, hh⟩ := hP
  have hx := Bd.exec
  have hby := Bd.bytes
  have hml : c.maxLocals = 16 := hml0
  have hown : s.vm.findClass "com/example/plumbline/plumbline/model/PlistUidEqualsPinLaw" = some m.cls := findClass_of_methodNamed Bd.named
  have hnm := (name_of_methodNamed Bd.named Bd.method).1
  have X0 : Stand p l e room_1 s m #[(.long p1), (.long p2), (.int p3)] below meth c s₁ [] 0 0 := Stand.of_body Bd
  have e0 : s₁.heap = h0 := by rw [← hh, Bd.state]; rfl
  have N0 := Fr.nil n0
  obtain ⟨RES, hf⟩ : ∃ z, z = lawF p1 p2 p3 := ⟨_, rfl⟩
  rw [← hf]
  rw [lawF] at hf
  suffices HGO : Go p e below s (Q0 Z p1 p2 p3 RES h0 n0) 16 128 s₁ (mkF m 0 #[.val (.long p1), .second, .val (.long p2), .second, .val (.int p3), .unset, .unset, .unset, .unset, .unset, .unset, .unset, .unset, .unset, .unset, .unset] []) from Go.cast (ef_0 m p1 p2 p3) HGO
  obtain ⟨_, _, ⟨T1, L1, k1, n1⟩, -, X1, ⟨Lc1, hQ1, l1, y1, z1⟩, st1⟩ := Jvm.LawKit.callS X0 hx (y := (⟨"com/example/plumbline/plumbline/model/PlistUidEqualsPinLaw", "pick", "(JJI)J"⟩ : MethodName)) hown (mvT hZ (hw _ (List.mem_of_getElem? (i := 0) rfl))) (mvT hZ (hw _ (List.mem_of_getElem? (i := 1) rfl))) (mvT hZ (hw _ (List.mem_of_getElem? (i := 2) rfl))) (mvT hZ (hw _ (List.mem_of_getElem? (i := 3) rfl))) (by decide) (backOf (W := 0) (rm_pick l Z a0 hw [] p1 p2 p3  h0 n0 Z0 ) hZ (hw _ (List.mem_of_getElem? (i := 3) rfl)) (hw _ (List.mem_of_getElem? (i := 2) rfl)) (by decide) (by decide)) (g := (mkF m 4 #[.val (.long p1), .second, .val (.long p2), .second, .val (.int p3), .unset, .unset, .unset, .unset, .unset, .unset, .unset, .unset, .unset, .unset, .unset] [(.int p3), (.long p2), (.long p1)])) rfl (by rw [hml]; rfl) (argsL := [(.long p1), (.long p2), (.int p3)]) (rest := []) (lenOf pd_1 rfl) rfl (by show 2 * 0 + _ ≤ _; exact Nat.le_of_eq rfl) (hb hby at_4) (fun _ _ => ⟨rfl, e0, (Nat.le_trans (Nat.add_le_add_right (Nat.le_refl 0) 0) (by decide)), (Nat.le_trans (Nat.add_le_add_right (Nat.le_refl 0) 0) (by decide))⟩)
  dsimp only [Pt.U, Pt.locs, Pt.cells, Pt.slots] at X1 l1 y1 z1 st1 hQ1
  subst l1 y1 z1
  obtain ⟨rfl, N1q, e1⟩ := hQ1
  have N1 := Fr.app N0 N1q
  obtain ⟨T2, h2, X2, e2, E2, A2, D2, -, st2⟩ := newO X1 hx hZ hown (hw _ (List.mem_of_getElem? (i := 4) rfl)) (hw _ (List.mem_of_getElem? (i := 5) rfl)) (hw _ (List.mem_of_getElem? (i := 6) rfl)) e1 (g := (mkF m 9 #[.val (.long p1), .second, .val (.long p2), .second, .val (.int p3), .val (.long (pick p1 p2 p3)), .second, .unset, .unset, .unset, .unset, .unset, .unset, .unset, .unset, .unset] [])) rfl (hb hby at_9) (Nat.le_trans (Nat.add_le_add_right (Nat.add_le_add_right (Nat.le_refl 0) 0) 1) (by decide)) (Nat.le_trans (Nat.add_le_add_right (Nat.add_le_add_right (Nat.le_refl 0) 0) 1) (by decide))
  obtain ⟨b2, g2⟩ : ∃ z, z = h0.size := ⟨_, rfl⟩
  rw [← g2] at A2 D2 st2
  have g_b2 : n0 ≤ b2 := Nat.le_trans Z0 (Nat.le_of_eq g2.symm)
  have sz_b2 : h0.size ≤ b2 := Nat.le_trans (Keep.refl h0 []).1 (Nat.le_of_eq g2.symm)
  have K2 : Keep h0 h2 [] := Keep.ext (Keep.refl h0 []) E2
  have Z2 : n0 ≤ h2.size := Nat.le_trans Z0 K2.1
  have G3 : Fld Z h2 b2 "com/example/plumbline/plumbline/model/PlistUid" "value" "J" (.long (0 : Int64)) := D2 (Or.inr (hw _ (List.mem_of_getElem? (i := 14) rfl))) (ty := .long) (by decide)
  obtain ⟨_, _, ⟨T4, L4, k4, n4⟩, -, X4, ⟨Lc4, hQ4, l4, y4, z4⟩, st4⟩ := X2.specialBack hx (y := (⟨"com/example/plumbline/plumbline/model/PlistUid", "<init>", "(J)V"⟩ : MethodName)) rfl hown (mvT hZ (hw _ (List.mem_of_getElem? (i := 7) rfl))) (mvT hZ (hw _ (List.mem_of_getElem? (i := 8) rfl))) (mvT hZ (hw _ (List.mem_of_getElem? (i := 9) rfl))) (by decide) (backOf (W := 1) (rm_iniU l Z a0 hw [] b2 p1 (0 : Int64) h2 n0 Z2 A2 G3 g_b2 ) hZ (hw _ (List.mem_of_getElem? (i := 9) rfl)) (hw _ (List.mem_of_getElem? (i := 6) rfl)) (by decide) (by decide)) (g := (mkF m 14 #[.val (.long p1), .second, .val (.long p2), .second, .val (.int p3), .val (.long (pick p1 p2 p3)), .second, .unset, .unset, .unset, .unset, .unset, .unset, .unset, .unset, .unset] [(.long p1), (.ref b2), (.ref b2)])) rfl (by rw [hml]; rfl) (Steps.refl _) (a := b2) (argsL := [(.long p1)]) (rest := [(.ref b2)]) (lenOf pd_2 rfl) rfl (by show 2 * 0 + _ ≤ _; exact Nat.le_of_eq rfl) (hb hby at_14) (fun _ _ => ⟨rfl, e2, (Nat.le_trans (Nat.add_le_add_right (Nat.add_le_add_right (Nat.add_le_add_right (Nat.le_refl 0) 0) 1) 0) (by decide)), (Nat.le_trans (Nat.add_le_add_right (Nat.add_le_add_right (Nat.add_le_add_right (Nat.le_refl 0) 0) 1) 0) (by decide))⟩)
  dsimp only [Pt.U, Pt.locs, Pt.cells, Pt.slots] at X4 l4 y4 z4 st4 hQ4
  subst l4 y4 z4
  obtain ⟨rfl, N4q, Kq4, pf4_0⟩ := hQ4
  have G5 : Exa Z T4.heap b2 "com/example/plumbline/plumbline/model/PlistUid" := Exa.keep A2 Kq4
  have G6 : Fld Z T4.heap b2 "com/example/plumbline/plumbline/model/PlistUid" "value" "J" (.long p1) := pf4_0
  have K4 : Keep h0 T4.heap [] := Keep.trans K2 Kq4 (allS (Or.inr sz_b2) all0)
  have Z4 : n0 ≤ T4.heap.size := Nat.le_trans Z0 K4.1
  have N4 := Fr.app N1 N4q
  obtain ⟨T7, h7, X7, e7, E7, A7, D7, -, st7⟩ := newO X4 hx hZ hown (hw _ (List.mem_of_getElem? (i := 4) rfl)) (hw _ (List.mem_of_getElem? (i := 5) rfl)) (hw _ (List.mem_of_getElem? (i := 6) rfl)) rfl (g := (mkF m 19 #[.val (.long p1), .second, .val (.long p2), .second, .val (.int p3), .val (.long (pick p1 p2 p3)), .second, .val (.ref b2), .unset, .unset, .unset, .unset, .unset, .unset, .unset, .unset] [])) rfl (hb hby at_19) (Nat.le_trans (Nat.add_le_add_right (Nat.add_le_add_right (Nat.add_le_add_right (Nat.add_le_add_right (Nat.le_refl 0) 0) 1) 0) 1) (by decide)) (Nat.le_trans (Nat.add_le_add_right (Nat.add_le_add_right (Nat.add_le_add_right (Nat.add_le_add_right (Nat.le_refl 0) 0) 1) 0) 1) (by decide))
  obtain ⟨b7, g7⟩ : ∃ z, z = T4.heap.size := ⟨_, rfl⟩
  rw [← g7] at A7 D7 st7
  have ne_b2_b7 : b2 ≠ b7 := Nat.ne_of_lt (Nat.lt_of_lt_of_le G5.lt (Nat.le_of_eq g7.symm))
  have G8 : Exa Z h7 b2 "com/example/plumbline/plumbline/model/PlistUid" := G5.ext E7
  have G9 : Fld Z h7 b2 "com/example/plumbline/plumbline/model/PlistUid" "value" "J" (.long p1) := G6.ext E7
  have g_b7 : n0 ≤ b7 := Nat.le_trans Z4 (Nat.le_of_eq g7.symm)
  have sz_b7 : h0.size ≤ b7 := Nat.le_trans K4.1 (Nat.le_of_eq g7.symm)
  have K7 : Keep h0 h7 [] := Keep.ext K4 E7
  have Z7 : n0 ≤ h7.size := Nat.le_trans Z0 K7.1
  have G10 : Fld Z h7 b7 "com/example/plumbline/plumbline/model/PlistUid" "value" "J" (.long (0 : Int64)) := D7 (Or.inr (hw _ (List.mem_of_getElem? (i := 14) rfl))) (ty := .long) (by decide)
  obtain ⟨_, _, ⟨T11, L11, k11, n11⟩, -, X11, ⟨Lc11, hQ11, l11, y11, z11⟩, st11⟩ := X7.specialBack hx (y := (⟨"com/example/plumbline/plumbline/model/PlistUid", "<init>", "(J)V"⟩ : MethodName)) rfl hown (mvT hZ (hw _ (List.mem_of_getElem? (i := 7) rfl))) (mvT hZ (hw _ (List.mem_of_getElem? (i := 8) rfl))) (mvT hZ (hw _ (List.mem_of_getElem? (i := 9) rfl))) (by decide) (backOf (W := 1) (rm_iniU l Z a0 hw [] b7 (pick p1 p2 p3) (0 : Int64) h7 n0 Z7 A7 G10 g_b7 ) hZ (hw _ (List.mem_of_getElem? (i := 9) rfl)) (hw _ (List.mem_of_getElem? (i := 6) rfl)) (by decide) (by decide)) (g := (mkF m 25 #[.val (.long p1), .second, .val (.long p2), .second, .val (.int p3), .val (.long (pick p1 p2 p3)), .second, .val (.ref b2), .unset, .unset, .unset, .unset, .unset, .unset, .unset, .unset] [(.long (pick p1 p2 p3)), (.ref b7), (.ref b7)])) rfl (by rw [hml]; rfl) (Steps.refl _) (a := b7) (argsL := [(.long (pick p1 p2 p3))]) (rest := [(.ref b7)]) (lenOf pd_2 rfl) rfl (by show 2 * 0 + _ ≤ _; exact Nat.le_of_eq rfl) (hb hby at_25) (fun _ _ => ⟨rfl, e7, (Nat.le_trans (Nat.add_le_add_right (Nat.add_le_add_right (Nat.add_le_add_right (Nat.add_le_add_right (Nat.add_le_add_right (Nat.le_refl 0) 0) 1) 0) 1) 0) (by decide)), (Nat.le_trans (Nat.add_le_add_right (Nat.add_le_add_right (Nat.add_le_add_right (Nat.add_le_add_right (Nat.add_le_add_right (Nat.le_refl 0) 0) 1) 0) 1) 0) (by decide))⟩)
  dsimp only [Pt.U, Pt.locs, Pt.cells, Pt.slots] at X11 l11 y11 z11 st11 hQ11
  subst l11 y11 z11
  obtain ⟨rfl, N11q, Kq11, pf11_0⟩ := hQ11
  have G12 : Exa Z T11.heap b2 "com/example/plumbline/plumbline/model/PlistUid" := Exa.keep G8 Kq11
  have G13 : Fld Z T11.heap b2 "com/example/plumbline/plumbline/model/PlistUid" "value" "J" (.long p1) := G9.keep Kq11 (ninS ne_b2_b7 nin0)
  have G14 : Exa Z T11.heap b7 "com/example/plumbline/plumbline/model/PlistUid" := Exa.keep A7 Kq11
  have G15 : Fld Z T11.heap b7 "com/example/plumbline/plumbline/model/PlistUid" "value" "J" (.long (pick p1 p2 p3)) := pf11_0
  have K11 : Keep h0 T11.heap [] := Keep.trans K7 Kq11 (allS (Or.inr sz_b7) all0)
  have Z11 : n0 ≤ T11.heap.size := Nat.le_trans Z0 K11.1
  have N11 := Fr.app N4 N11q
  obtain ⟨_, _, ⟨T16, L16, k16, n16⟩, -, X16, ⟨Lc16, hQ16, l16, y16, z16⟩, st16⟩ := Jvm.LawKit.callS X11 hx (y := (⟨"com/example/plumbline/plumbline/model/PlistInteger", "of", "(J)Lcom/example/plumbline/plumbline/model/PlistInteger;"⟩ : MethodName)) hown (mvT hZ (hw _ (List.mem_of_getElem? (i := 15) rfl))) (mvT hZ (hw _ (List.mem_of_getElem? (i := 16) rfl))) (mvT hZ (hw _ (List.mem_of_getElem? (i := 17) rfl))) (mvT hZ (hw _ (List.mem_of_getElem? (i := 18) rfl))) (by decide) (backOf (W := 0) (rm_ofI l Z a0 hw [] p1  T11.heap n0 Z11  ) hZ (hw _ (List.mem_of_getElem? (i := 18) rfl)) (hw _ (List.mem_of_getElem? (i := 17) rfl)) (by decide) (by decide)) (g := (mkF m 31 #[.val (.long p1), .second, .val (.long p2), .second, .val (.int p3), .val (.long (pick p1 p2 p3)), .second, .val (.ref b2), .val (.ref b7), .unset, .unset, .unset, .unset, .unset, .unset, .unset] [(.long p1)])) rfl (by rw [hml]; rfl) (argsL := [(.long p1)]) (rest := []) (lenOf pd_3 rfl) rfl (by show 2 * 0 + _ ≤ _; exact Nat.le_of_eq rfl) (hb hby at_31) (fun _ _ => ⟨rfl, rfl, (Nat.le_trans (Nat.add_le_add_right (Nat.add_le_add_right (Nat.add_le_add_right (Nat.add_le_add_right (Nat.add_le_add_right (Nat.add_le_add_right (Nat.le_refl 0) 0) 1) 0) 1) 0) 1) (by decide)), (Nat.le_trans (Nat.add_le_add_right (Nat.add_le_add_right (Nat.add_le_add_right (Nat.add_le_add_right (Nat.add_le_add_right (Nat.add_le_add_right (Nat.le_refl 0) 0) 1) 0) 1) 0) 2) (by decide))⟩)
  dsimp only [Pt.U, Pt.locs, Pt.cells, Pt.slots] at X16 l16 y16 z16 st16 hQ16
  subst l16 y16 z16
  obtain ⟨b_16, rfl, N16q, Kq16, fz_b_16, pf16_0⟩ := hQ16
  have oldlt_16_b2 : b2 < T11.heap.size := G12.lt
  have oldlt_16_b7 : b7 < T11.heap.size := G14.lt
  have G17 : Exa Z T16.heap b2 "com/example/plumbline/plumbline/model/PlistUid" := Exa.keep G12 Kq16
  have G18 : Fld Z T16.heap b2 "com/example/plumbline/plumbline/model/PlistUid" "value" "J" (.long p1) := G13.keep Kq16 nin0
  have G19 : Exa Z T16.heap b7 "com/example/plumbline/plumbline/model/PlistUid" := Exa.keep G14 Kq16
  have G20 : Fld Z T16.heap b7 "com/example/plumbline/plumbline/model/PlistUid" "value" "J" (.long (pick p1 p2 p3)) := G15.keep Kq16 nin0
  have ne_b2_b_16 : b2 ≠ b_16 := Nat.ne_of_lt (Nat.lt_of_lt_of_le oldlt_16_b2 fz_b_16)
  have ne_b7_b_16 : b7 ≠ b_16 := Nat.ne_of_lt (Nat.lt_of_lt_of_le oldlt_16_b7 fz_b_16)
  have g_b_16 : n0 ≤ b_16 := Nat.le_trans Z11 fz_b_16
  have sz_b_16 : h0.size ≤ b_16 := Nat.le_trans K11.1 fz_b_16
  have K16 : Keep h0 T16.heap [] := Keep.trans K11 Kq16 all0
  have Z16 : n0 ≤ T16.heap.size := Nat.le_trans Z0 K16.1
  have N16 := Fr.app N11 N16q
  refine Go.step (T' := T16) (f' := (mkF m 40 #[.val (.long p1), .second, .val (.long p2), .second, .val (.int p3), .val (.long (pick p1 p2 p3)), .second, .val (.ref b2), .val (.ref b7), .val (.ref b_16), .unset, .unset, .unset, .unset, .unset, .unset] [(.int (lcmpW p1 (pick p1 p2 p3)))])) (fun t kt => ?_) ?_
  · show Steps p.tables e below (s₁.setTop (mkF m 0 #[.val (.long p1), .second, .val (.long p2), .second, .val (.int p3), .unset, .unset, .unset, .unset, .unset, .unset, .unset, .unset, .unset, .unset, .unset] [])) _
    refine XS.lloadN X0.here hx rfl (hb hby at_0) rfl ?_
    show Steps p.tables e below (s₁.setTop (mkF m 1 #[.val (.long p1), .second, .val (.long p2), .second, .val (.int p3), .unset, .unset, .unset, .unset, .unset, .unset, .unset, .unset, .unset, .unset, .unset] [(.long p1)])) _
    refine XS.lloadN X0.here hx rfl (hb hby at_1) rfl ?_
    show Steps p.tables e below (s₁.setTop (mkF m 2 #[.val (.long p1), .second, .val (.long p2), .second, .val (.int p3), .unset, .unset, .unset, .unset, .unset, .unset, .unset, .unset, .unset, .unset, .unset] [(.long p2), (.long p1)])) _
    refine XS.iload X0.here hx rfl (hb hby at_2) rfl ?_
    show Steps p.tables e below (s₁.setTop (mkF m 4 #[.val (.long p1), .second, .val (.long p2), .second, .val (.int p3), .unset, .unset, .unset, .unset, .unset, .unset, .unset, .unset, .unset, .unset, .unset] [(.int p3), (.long p2), (.long p1)])) _
    refine st1 _ ?_
    show Steps p.tables e below (T1.setTop (mkF m 7 #[.val (.long p1), .second, .val (.long p2), .second, .val (.int p3), .unset, .unset, .unset, .unset, .unset, .unset, .unset, .unset, .unset, .unset, .unset] [(.long (pick p1 p2 p3))])) _
    refine XS.lstore X1.here hx rfl (hb hby at_7) rfl (l' := #[.val (.long p1), .second, .val (.long p2), .second, .val (.int p3), .val (.long (pick p1 p2 p3)), .second, .unset, .unset, .unset, .unset, .unset, .unset, .unset, .unset, .unset]) rfl ?_
    show Steps p.tables e below (T1.setTop (mkF m 9 #[.val (.long p1), .second, .val (.long p2), .second, .val (.int p3), .val (.long (pick p1 p2 p3)), .second, .unset, .unset, .unset, .unset, .unset, .unset, .unset, .unset, .unset] [])) _
    refine st2 _ ?_
    show Steps p.tables e below (T2.setTop (mkF m 12 #[.val (.long p1), .second, .val (.long p2), .second, .val (.int p3), .val (.long (pick p1 p2 p3)), .second, .unset, .unset, .unset, .unset, .unset, .unset, .unset, .unset, .unset] [(.ref b2)])) _
    refine XS.dup X2.here hx rfl (hb hby at_12) rfl rfl ?_
    show Steps p.tables e below (T2.setTop (mkF m 13 #[.val (.long p1), .second, .val (.long p2), .second, .val (.int p3), .val (.long (pick p1 p2 p3)), .second, .unset, .unset, .unset, .unset, .unset, .unset, .unset, .unset, .unset] [(.ref b2), (.ref b2)])) _
    refine XS.lloadN X2.here hx rfl (hb hby at_13) rfl ?_
    show Steps p.tables e below (T2.setTop (mkF m 14 #[.val (.long p1), .second, .val (.long p2), .second, .val (.int p3), .val (.long (pick p1 p2 p3)), .second, .unset, .unset, .unset, .unset, .unset, .unset, .unset, .unset, .unset] [(.long p1), (.ref b2), (.ref b2)])) _
    refine st4.trans ?_
    show Steps p.tables e below (T4.setTop (mkF m 17 #[.val (.long p1), .second, .val (.long p2), .second, .val (.int p3), .val (.long (pick p1 p2 p3)), .second, .unset, .unset, .unset, .unset, .unset, .unset, .unset, .unset, .unset] [(.ref b2)])) _
    refine XS.astore X4.here hx rfl (hb hby at_17) rfl rfl (l' := #[.val (.long p1), .second, .val (.long p2), .second, .val (.int p3), .val (.long (pick p1 p2 p3)), .second, .val (.ref b2), .unset, .unset, .unset, .unset, .unset, .unset, .unset, .unset]) rfl ?_
    show Steps p.tables e below (T4.setTop (mkF m 19 #[.val (.long p1), .second, .val (.long p2), .second, .val (.int p3), .val (.long (pick p1 p2 p3)), .second, .val (.ref b2), .unset, .unset, .unset, .unset, .unset, .unset, .unset, .unset] [])) _
    refine st7 _ ?_
    show Steps p.tables e below (T7.setTop (mkF m 22 #[.val (.long p1), .second, .val (.long p2), .second, .val (.int p3), .val (.long (pick p1 p2 p3)), .second, .val (.ref b2), .unset, .unset, .unset, .unset, .unset, .unset, .unset, .unset] [(.ref b7)])) _
    refine XS.dup X7.here hx rfl (hb hby at_22) rfl rfl ?_
    show Steps p.tables e below (T7.setTop (mkF m 23 #[.val (.long p1), .second, .val (.long p2), .second, .val (.int p3), .val (.long (pick p1 p2 p3)), .second, .val (.ref b2), .unset, .unset, .unset, .unset, .unset, .unset, .unset, .unset] [(.ref b7), (.ref b7)])) _
    refine XS.lload X7.here hx rfl (hb hby at_23) rfl ?_
    show Steps p.tables e below (T7.setTop (mkF m 25 #[.val (.long p1), .second, .val (.long p2), .second, .val (.int p3), .val (.long (pick p1 p2 p3)), .second, .val (.ref b2), .unset, .unset, .unset, .unset, .unset, .unset, .unset, .unset] [(.long (pick p1 p2 p3)), (.ref b7), (.ref b7)])) _
    refine st11.trans ?_
    show Steps p.tables e below (T11.setTop (mkF m 28 #[.val (.long p1), .second, .val (.long p2), .second, .val (.int p3), .val (.long (pick p1 p2 p3)), .second, .val (.ref b2), .unset, .unset, .unset, .unset, .unset, .unset, .unset, .unset] [(.ref b7)])) _
    refine XS.astore X11.here hx rfl (hb hby at_28) rfl rfl (l' := #[.val (.long p1), .second, .val (.long p2), .second, .val (.int p3), .val (.long (pick p1 p2 p3)), .second, .val (.ref b2), .val (.ref b7), .unset, .unset, .unset, .unset, .unset, .unset, .unset]) rfl ?_
    show Steps p.tables e below (T11.setTop (mkF m 30 #[.val (.long p1), .second, .val (.long p2), .second, .val (.int p3), .val (.long (pick p1 p2 p3)), .second, .val (.ref b2), .val (.ref b7), .unset, .unset, .unset, .unset, .unset, .unset, .unset] [])) _
    refine XS.lloadN X11.here hx rfl (hb hby at_30) rfl ?_
    show Steps p.tables e below (T11.setTop (mkF m 31 #[.val (.long p1), .second, .val (.long p2), .second, .val (.int p3), .val (.long (pick p1 p2 p3)), .second, .val (.ref b2), .val (.ref b7), .unset, .unset, .unset, .unset, .unset, .unset, .unset] [(.long p1)])) _
    refine st16 _ ?_
    show Steps p.tables e below (T16.setTop (mkF m 34 #[.val (.long p1), .second, .val (.long p2), .second, .val (.int p3), .val (.long (pick p1 p2 p3)), .second, .val (.ref b2), .val (.ref b7), .unset, .unset, .unset, .unset, .unset, .unset, .unset] [(.ref b_16)])) _
    refine XS.astore X16.here hx rfl (hb hby at_34) rfl rfl (l' := #[.val (.long p1), .second, .val (.long p2), .second, .val (.int p3), .val (.long (pick p1 p2 p3)), .second, .val (.ref b2), .val (.ref b7), .val (.ref b_16), .unset, .unset, .unset, .unset, .unset, .unset]) rfl ?_
    show Steps p.tables e below (T16.setTop (mkF m 36 #[.val (.long p1), .second, .val (.long p2), .second, .val (.int p3), .val (.long (pick p1 p2 p3)), .second, .val (.ref b2), .val (.ref b7), .val (.ref b_16), .unset, .unset, .unset, .unset, .unset, .unset] [])) _
    refine XS.lloadN X16.here hx rfl (hb hby at_36) rfl ?_
    show Steps p.tables e below (T16.setTop (mkF m 37 #[.val (.long p1), .second, .val (.long p2), .second, .val (.int p3), .val (.long (pick p1 p2 p3)), .second, .val (.ref b2), .val (.ref b7), .val (.ref b_16), .unset, .unset, .unset, .unset, .unset, .unset] [(.long p1)])) _
    refine XS.lload X16.here hx rfl (hb hby at_37) rfl ?_
    show Steps p.tables e below (T16.setTop (mkF m 39 #[.val (.long p1), .second, .val (.long p2), .second, .val (.int p3), .val (.long (pick p1 p2 p3)), .second, .val (.ref b2), .val (.ref b7), .val (.ref b_16), .unset, .unset, .unset, .unset, .unset, .unset] [(.long (pick p1 p2 p3)), (.long p1)])) _
    refine XS.lcmp X16.here hx rfl (hb hby at_39) rfl ?_
    exact kt
  by_cases hc21 : p1 = (pick p1 p2 p3)
  · rw [if_pos hc21] at hf
    refine Go.step (T' := T16) (f' := (mkF m 43 #[.val (.long p1), .second, .val (.long p2), .second, .val (.int p3), .val (.long (pick p1 p2 p3)), .second, .val (.ref b2), .val (.ref b7), .val (.ref b_16), .unset, .unset, .unset, .unset, .unset, .unset] [])) (fun t kt => ?_) ?_
    · show Steps p.tables e below (T16.setTop (mkF m 40 #[.val (.long p1), .second, .val (.long p2), .second, .val (.int p3), .val (.long (pick p1 p2 p3)), .second, .val (.ref b2), .val (.ref b7), .val (.ref b_16), .unset, .unset, .unset, .unset, .unset, .unset] [(.int (lcmpW p1 (pick p1 p2 p3)))])) _
      refine XS.ifNo X16.here hx rfl (hb hby at_40) rfl ((if0 _ _).trans (teq ((lw_eq _ _).mpr hc21)).2) ?_
      exact kt
    obtain ⟨cq22, kq22, q22a, q22b, q22c⟩ := isOf hZ rfl (G17 : Exa Z T16.heap b2 "com/example/plumbline/plumbline/model/PlistUid")
    obtain ⟨_, _, ⟨T22, L22, k22, n22⟩, -, X22, ⟨Lc22, hQ22, l22, y22, z22⟩, st22⟩ := X16.virtualBack hx (y := (⟨"com/example/plumbline/plumbline/model/PlistUid", "equals", "(Ljava/lang/Object;)Z"⟩ : MethodName)) (z := (⟨"com/example/plumbline/plumbline/model/PlistUid", "equals", "(Ljava/lang/Object;)Z"⟩ : MethodName)) hown (mvT hZ (hw _ (List.mem_of_getElem? (i := 29) rfl))) (mvT hZ (hw _ (List.mem_of_getElem? (i := 30) rfl))) (notFace_of_selects (args := #[]) (mvT hZ (hw _ (List.mem_of_getElem? (i := 32) rfl)))) (mvT hZ (hw _ (List.mem_of_getElem? (i := 32) rfl))) (mvT hZ (hw _ (List.mem_of_getElem? (i := 31) rfl))) (by decide) (backOf (W := 0) (rm_eqU l Z a0 hw [] b2 b7 p1 (pick p1 p2 p3) T16.heap n0 Z16 G19 G18 G20 ) hZ (hw _ (List.mem_of_getElem? (i := 33) rfl)) (hw _ (List.mem_of_getElem? (i := 6) rfl)) (by decide) (by decide)) q22a q22c (g := (mkF m 54 #[.val (.long p1), .second, .val (.long p2), .second, .val (.int p3), .val (.long (pick p1 p2 p3)), .second, .val (.ref b2), .val (.ref b7), .val (.ref b_16), .val (.int (1 : Int32)), .unset, .unset, .unset, .unset, .unset] [(.ref b7), (.ref b2)])) rfl (by rw [hml]; rfl) (Steps.refl _) (argsL := [(.ref b7)]) (rest := []) (lenOf pd_4 rfl) rfl (by show 2 * 0 + _ ≤ _; exact Nat.le_of_eq rfl) (hb hby at_54) (fun _ _ => ⟨rfl, rfl, (Nat.le_trans (Nat.add_le_add_right (Nat.add_le_add_right (Nat.add_le_add_right (Nat.add_le_add_right (Nat.add_le_add_right (Nat.add_le_add_right (Nat.add_le_add_right (Nat.le_refl 0) 0) 1) 0) 1) 0) 1) 0) (by decide)), (Nat.le_trans (Nat.add_le_add_right (Nat.add_le_add_right (Nat.add_le_add_right (Nat.add_le_add_right (Nat.add_le_add_right (Nat.add_le_add_right (Nat.add_le_add_right (Nat.le_refl 0) 0) 1) 0) 1) 0) 2) 0) (by decide))⟩)
    dsimp only [Pt.U, Pt.locs, Pt.cells, Pt.slots] at X22 l22 y22 z22 st22 hQ22
    subst l22 y22 z22
    obtain ⟨rfl, N22q, e22⟩ := hQ22
    have N22 := Fr.app N16 N22q
    refine Go.step (T' := T22) (f' := (mkF m 59 #[.val (.long p1), .second, .val (.long p2), .second, .val (.int p3), .val (.long (pick p1 p2 p3)), .second, .val (.ref b2), .val (.ref b7), .val (.ref b_16), .val (.int (1 : Int32)), .unset, .unset, .unset, .unset, .unset] [(.int (1 : Int32)), (.int (eqU p1 (pick p1 p2 p3)))])) (fun t kt => ?_) ?_
    · show Steps p.tables e below (T16.setTop (mkF m 43 #[.val (.long p1), .second, .val (.long p2), .second, .val (.int p3), .val (.long (pick p1 p2 p3)), .second, .val (.ref b2), .val (.ref b7), .val (.ref b_16), .unset, .unset, .unset, .unset, .unset, .unset] [])) _
      refine XS.iconst X16.here hx rfl (hb hby at_43) ?_
      show Steps p.tables e below (T16.setTop (mkF m 44 #[.val (.long p1), .second, .val (.long p2), .second, .val (.int p3), .val (.long (pick p1 p2 p3)), .second, .val (.ref b2), .val (.ref b7), .val (.ref b_16), .unset, .unset, .unset, .unset, .unset, .unset] [(.int (1 : Int32))])) _
      refine XS.goto X16.here hx rfl (pc0 := 44) (pc' := 48) rfl (hb hby at_44) (by decide) (by decide) ?_
      show Steps p.tables e below (T16.setTop (mkF m 48 #[.val (.long p1), .second, .val (.long p2), .second, .val (.int p3), .val (.long (pick p1 p2 p3)), .second, .val (.ref b2), .val (.ref b7), .val (.ref b_16), .unset, .unset, .unset, .unset, .unset, .unset] [(.int (1 : Int32))])) _
      refine XS.istore X16.here hx rfl (hb hby at_48) rfl (l' := #[.val (.long p1), .second, .val (.long p2), .second, .val (.int p3), .val (.long (pick p1 p2 p3)), .second, .val (.ref b2), .val (.ref b7), .val (.ref b_16), .val (.int (1 : Int32)), .unset, .unset, .unset, .unset, .unset]) rfl ?_
      show Steps p.tables e below (T16.setTop (mkF m 50 #[.val (.long p1), .second, .val (.long p2), .second, .val (.int p3), .val (.long (pick p1 p2 p3)), .second, .val (.ref b2), .val (.ref b7), .val (.ref b_16), .val (.int (1 : Int32)), .unset, .unset, .unset, .unset, .unset] [])) _
      refine XS.aload X16.here hx rfl (hb hby at_50) rfl rfl ?_
      show Steps p.tables e below (T16.setTop (mkF m 52 #[.val (.long p1), .second, .val (.long p2), .second, .val (.int p3), .val (.long (pick p1 p2 p3)), .second, .val (.ref b2), .val (.ref b7), .val (.ref b_16), .val (.int (1 : Int32)), .unset, .unset, .unset, .unset, .unset] [(.ref b2)])) _
      refine XS.aload X16.here hx rfl (hb hby at_52) rfl rfl ?_
      show Steps p.tables e below (T16.setTop (mkF m 54 #[.val (.long p1), .second, .val (.long p2), .second, .val (.int p3), .val (.long (pick p1 p2 p3)), .second, .val (.ref b2), .val (.ref b7), .val (.ref b_16), .val (.int (1 : Int32)), .unset, .unset, .unset, .unset, .unset] [(.ref b7), (.ref b2)])) _
      refine st22.trans ?_
      show Steps p.tables e below (T22.setTop (mkF m 57 #[.val (.long p1), .second, .val (.long p2), .second, .val (.int p3), .val (.long (pick p1 p2 p3)), .second, .val (.ref b2), .val (.ref b7), .val (.ref b_16), .val (.int (1 : Int32)), .unset, .unset, .unset, .unset, .unset] [(.int (eqU p1 (pick p1 p2 p3)))])) _
      refine XS.iload X22.here hx rfl (hb hby at_57) rfl ?_
      exact kt
    by_cases hc23 : (eqU p1 (pick p1 p2 p3)) = (1 : Int32)
    · rw [if_pos hc23] at hf
      refine Go.step (T' := T22) (f' := (mkF m 62 #[.val (.long p1), .second, .val (.long p2), .second, .val (.int p3), .val (.long (pick p1 p2 p3)), .second, .val (.ref b2), .val (.ref b7), .val (.ref b_16), .val (.int (1 : Int32)), .unset, .unset, .unset, .unset, .unset] [])) (fun t kt => ?_) ?_
      · show Steps p.tables e below (T22.setTop (mkF m 59 #[.val (.long p1), .second, .val (.long p2), .second, .val (.int p3), .val (.long (pick p1 p2 p3)), .second, .val (.ref b2), .val (.ref b7), .val (.ref b_16), .val (.int (1 : Int32)), .unset, .unset, .unset, .unset, .unset] [(.int (1 : Int32)), (.int (eqU p1 (pick p1 p2 p3)))])) _
        refine XS.icmpNo X22.here hx rfl (hb hby at_59) rfl (teq hc23).2 ?_
        exact kt
      obtain ⟨cq24, kq24, q24a, q24b, q24c⟩ := isOf hZ e22 (G19 : Exa Z T16.heap b7 "com/example/plumbline/plumbline/model/PlistUid")
      obtain ⟨_, _, ⟨T24, L24, k24, n24⟩, -, X24, ⟨Lc24, hQ24, l24, y24, z24⟩, st24⟩ := X22.virtualBack hx (y := (⟨"com/example/plumbline/plumbline/model/PlistUid", "equals", "(Ljava/lang/Object;)Z"⟩ : MethodName)) (z := (⟨"com/example/plumbline/plumbline/model/PlistUid", "equals", "(Ljava/lang/Object;)Z"⟩ : MethodName)) hown (mvT hZ (hw _ (List.mem_of_getElem? (i := 29) rfl))) (mvT hZ (hw _ (List.mem_of_getElem? (i := 30) rfl))) (notFace_of_selects (args := #[]) (mvT hZ (hw _ (List.mem_of_getElem? (i := 32) rfl)))) (mvT hZ (hw _ (List.mem_of_getElem? (i := 32) rfl))) (mvT hZ (hw _ (List.mem_of_getElem? (i := 31) rfl))) (by decide) (backOf (W := 0) (rm_eqU l Z a0 hw [] b7 b2 (pick p1 p2 p3) p1 T16.heap n0 Z16 G17 G20 G18 ) hZ (hw _ (List.mem_of_getElem? (i := 33) rfl)) (hw _ (List.mem_of_getElem? (i := 6) rfl)) (by decide) (by decide)) q24a q24c (g := (mkF m 73 #[.val (.long p1), .second, .val (.long p2), .second, .val (.int p3), .val (.long (pick p1 p2 p3)), .second, .val (.ref b2), .val (.ref b7), .val (.ref b_16), .val (.int (1 : Int32)), .val (.int (1 : Int32)), .unset, .unset, .unset, .unset] [(.ref b2), (.ref b7)])) rfl (by rw [hml]; rfl) (Steps.refl _) (argsL := [(.ref b2)]) (rest := []) (lenOf pd_4 rfl) rfl (by show 2 * 0 + _ ≤ _; exact Nat.le_of_eq rfl) (hb hby at_73) (fun _ _ => ⟨rfl, e22, (Nat.le_trans (Nat.add_le_add_right (Nat.add_le_add_right (Nat.add_le_add_right (Nat.add_le_add_right (Nat.add_le_add_right (Nat.add_le_add_right (Nat.add_le_add_right (Nat.add_le_add_right (Nat.le_refl 0) 0) 1) 0) 1) 0) 1) 0) 0) (by decide)), (Nat.le_trans (Nat.add_le_add_right (Nat.add_le_add_right (Nat.add_le_add_right (Nat.add_le_add_right (Nat.add_le_add_right (Nat.add_le_add_right (Nat.add_le_add_right (Nat.add_le_add_right (Nat.le_refl 0) 0) 1) 0) 1) 0) 2) 0) 0) (by decide))⟩)
      dsimp only [Pt.U, Pt.locs, Pt.cells, Pt.slots] at X24 l24 y24 z24 st24 hQ24
      subst l24 y24 z24
      obtain ⟨rfl, N24q, e24⟩ := hQ24
      have N24 := Fr.app N22 N24q
      refine Go.step (T' := T24) (f' := (mkF m 78 #[.val (.long p1), .second, .val (.long p2), .second, .val (.int p3), .val (.long (pick p1 p2 p3)), .second, .val (.ref b2), .val (.ref b7), .val (.ref b_16), .val (.int (1 : Int32)), .val (.int (1 : Int32)), .unset, .unset, .unset, .unset] [(.int (1 : Int32)), (.int (eqU (pick p1 p2 p3) p1))])) (fun t kt => ?_) ?_
      · show Steps p.tables e below (T22.setTop (mkF m 62 #[.val (.long p1), .second, .val (.long p2), .second, .val (.int p3), .val (.long (pick p1 p2 p3)), .second, .val (.ref b2), .val (.ref b7), .val (.ref b_16), .val (.int (1 : Int32)), .unset, .unset, .unset, .unset, .unset] [])) _
        refine XS.iconst X22.here hx rfl (hb hby at_62) ?_
        show Steps p.tables e below (T22.setTop (mkF m 63 #[.val (.long p1), .second, .val (.long p2), .second, .val (.int p3), .val (.long (pick p1 p2 p3)), .second, .val (.ref b2), .val (.ref b7), .val (.ref b_16), .val (.int (1 : Int32)), .unset, .unset, .unset, .unset, .unset] [(.int (1 : Int32))])) _
        refine XS.goto X22.here hx rfl (pc0 := 63) (pc' := 67) rfl (hb hby at_63) (by decide) (by decide) ?_
        show Steps p.tables e below (T22.setTop (mkF m 67 #[.val (.long p1), .second, .val (.long p2), .second, .val (.int p3), .val (.long (pick p1 p2 p3)), .second, .val (.ref b2), .val (.ref b7), .val (.ref b_16), .val (.int (1 : Int32)), .unset, .unset, .unset, .unset, .unset] [(.int (1 : Int32))])) _
        refine XS.istore X22.here hx rfl (hb hby at_67) rfl (l' := #[.val (.long p1), .second, .val (.long p2), .second, .val (.int p3), .val (.long (pick p1 p2 p3)), .second, .val (.ref b2), .val (.ref b7), .val (.ref b_16), .val (.int (1 : Int32)), .val (.int (1 : Int32)), .unset, .unset, .unset, .unset]) rfl ?_
        show Steps p.tables e below (T22.setTop (mkF m 69 #[.val (.long p1), .second, .val (.long p2), .second, .val (.int p3), .val (.long (pick p1 p2 p3)), .second, .val (.ref b2), .val (.ref b7), .val (.ref b_16), .val (.int (1 : Int32)), .val (.int (1 : Int32)), .unset, .unset, .unset, .unset] [])) _
        refine XS.aload X22.here hx rfl (hb hby at_69) rfl rfl ?_
        show Steps p.tables e below (T22.setTop (mkF m 71 #[.val (.long p1), .second, .val (.long p2), .second, .val (.int p3), .val (.long (pick p1 p2 p3)), .second, .val (.ref b2), .val (.ref b7), .val (.ref b_16), .val (.int (1 : Int32)), .val (.int (1 : Int32)), .unset, .unset, .unset, .unset] [(.ref b7)])) _
        refine XS.aload X22.here hx rfl (hb hby at_71) rfl rfl ?_
        show Steps p.tables e below (T22.setTop (mkF m 73 #[.val (.long p1), .second, .val (.long p2), .second, .val (.int p3), .val (.long (pick p1 p2 p3)), .second, .val (.ref b2), .val (.ref b7), .val (.ref b_16), .val (.int (1 : Int32)), .val (.int (1 : Int32)), .unset, .unset, .unset, .unset] [(.ref b2), (.ref b7)])) _
        refine st24.trans ?_
        show Steps p.tables e below (T24.setTop (mkF m 76 #[.val (.long p1), .second, .val (.long p2), .second, .val (.int p3), .val (.long (pick p1 p2 p3)), .second, .val (.ref b2), .val (.ref b7), .val (.ref b_16), .val (.int (1 : Int32)), .val (.int (1 : Int32)), .unset, .unset, .unset, .unset] [(.int (eqU (pick p1 p2 p3) p1))])) _
        refine XS.iload X24.here hx rfl (hb hby at_76) rfl ?_
        exact kt
      by_cases hc25 : (eqU (pick p1 p2 p3) p1) = (1 : Int32)
      · rw [if_pos hc25] at hf
        refine Go.step (T' := T24) (f' := (mkF m 81 #[.val (.long p1), .second, .val (.long p2), .second, .val (.int p3), .val (.long (pick p1 p2 p3)), .second, .val (.ref b2), .val (.ref b7), .val (.ref b_16), .val (.int (1 : Int32)), .val (.int (1 : Int32)), .unset, .unset, .unset, .unset] [])) (fun t kt => ?_) ?_
        · show Steps p.tables e below (T24.setTop (mkF m 78 #[.val (.long p1), .second, .val (.long p2), .second, .val (.int p3), .val (.long (pick p1 p2 p3)), .second, .val (.ref b2), .val (.ref b7), .val (.ref b_16), .val (.int (1 : Int32)), .val (.int (1 : Int32)), .unset, .unset, .unset, .unset] [(.int (1 : Int32)), (.int (eqU (pick p1 p2 p3) p1))])) _
          refine XS.icmpNo X24.here hx rfl (hb hby at_78) rfl (teq hc25).2 ?_
          exact kt
        obtain ⟨cq26, kq26, q26a, q26b, q26c⟩ := isOf hZ e24 (G17 : Exa Z T16.heap b2 "com/example/plumbline/plumbline/model/PlistUid")
        obtain ⟨_, _, ⟨T26, L26, k26, n26⟩, -, X26, ⟨Lc26, hQ26, l26, y26, z26⟩, st26⟩ := X24.virtualBack hx (y := (⟨"com/example/plumbline/plumbline/model/PlistUid", "equals", "(Ljava/lang/Object;)Z"⟩ : MethodName)) (z := (⟨"com/example/plumbline/plumbline/model/PlistUid", "equals", "(Ljava/lang/Object;)Z"⟩ : MethodName)) hown (mvT hZ (hw _ (List.mem_of_getElem? (i := 29) rfl))) (mvT hZ (hw _ (List.mem_of_getElem? (i := 30) rfl))) (notFace_of_selects (args := #[]) (mvT hZ (hw _ (List.mem_of_getElem? (i := 32) rfl)))) (mvT hZ (hw _ (List.mem_of_getElem? (i := 32) rfl))) (mvT hZ (hw _ (List.mem_of_getElem? (i := 31) rfl))) (by decide) (backOf (W := 0) (rm_eqU l Z a0 hw [] b2 b2 p1 p1 T16.heap n0 Z16 G17 G18 G18 ) hZ (hw _ (List.mem_of_getElem? (i := 33) rfl)) (hw _ (List.mem_of_getElem? (i := 6) rfl)) (by decide) (by decide)) q26a q26c (g := (mkF m 92 #[.val (.long p1), .second, .val (.long p2), .second, .val (.int p3), .val (.long (pick p1 p2 p3)), .second, .val (.ref b2), .val (.ref b7), .val (.ref b_16), .val (.int (1 : Int32)), .val (.int (1 : Int32)), .val (.int (1 : Int32)), .unset, .unset, .unset] [(.ref b2), (.ref b2)])) rfl (by rw [hml]; rfl) (Steps.refl _) (argsL := [(.ref b2)]) (rest := []) (lenOf pd_4 rfl) rfl (by show 2 * 0 + _ ≤ _; exact Nat.le_of_eq rfl) (hb hby at_92) (fun _ _ => ⟨rfl, e24, (Nat.le_trans (Nat.add_le_add_right (Nat.add_le_add_right (Nat.add_le_add_right (Nat.add_le_add_right (Nat.add_le_add_right (Nat.add_le_add_right (Nat.add_le_add_right (Nat.add_le_add_right (Nat.add_le_add_right (Nat.le_refl 0) 0) 1) 0) 1) 0) 1) 0) 0) 0) (by decide)), (Nat.le_trans (Nat.add_le_add_right (Nat.add_le_add_right (Nat.add_le_add_right (Nat.add_le_add_right (Nat.add_le_add_right (Nat.add_le_add_right (Nat.add_le_add_right (Nat.add_le_add_right (Nat.add_le_add_right (Nat.le_refl 0) 0) 1) 0) 1) 0) 2) 0) 0) 0) (by decide))⟩)
        dsimp only [Pt.U, Pt.locs, Pt.cells, Pt.slots] at X26 l26 y26 z26 st26 hQ26
        subst l26 y26 z26
        obtain ⟨rfl, N26q, e26⟩ := hQ26
        have N26 := Fr.app N24 N26q
        obtain ⟨cq27, kq27, q27a, q27b, q27c⟩ := isOf hZ e26 (G17 : Exa Z T16.heap b2 "com/example/plumbline/plumbline/model/PlistUid")
        obtain ⟨_, _, ⟨T27, L27, k27, n27⟩, -, X27, ⟨Lc27, hQ27, l27, y27, z27⟩, st27⟩ := X26.virtualBack hx (y := (⟨"com/example/plumbline/plumbline/model/PlistUid", "equals", "(Ljava/lang/Object;)Z"⟩ : MethodName)) (z := (⟨"com/example/plumbline/plumbline/model/PlistUid", "equals", "(Ljava/lang/Object;)Z"⟩ : MethodName)) hown (mvT hZ (hw _ (List.mem_of_getElem? (i := 29) rfl))) (mvT hZ (hw _ (List.mem_of_getElem? (i := 30) rfl))) (notFace_of_selects (args := #[]) (mvT hZ (hw _ (List.mem_of_getElem? (i := 32) rfl)))) (mvT hZ (hw _ (List.mem_of_getElem? (i := 32) rfl))) (mvT hZ (hw _ (List.mem_of_getElem? (i := 31) rfl))) (by decide) (backOf (W := 0) (rm_eqN l Z a0 hw [] b2  T16.heap n0 Z16  ) hZ (hw _ (List.mem_of_getElem? (i := 33) rfl)) (hw _ (List.mem_of_getElem? (i := 6) rfl)) (by decide) (by decide)) q27a q27c (g := (mkF m 100 #[.val (.long p1), .second, .val (.long p2), .second, .val (.int p3), .val (.long (pick p1 p2 p3)), .second, .val (.ref b2), .val (.ref b7), .val (.ref b_16), .val (.int (1 : Int32)), .val (.int (1 : Int32)), .val (.int (1 : Int32)), .val (.int (eqU p1 p1)), .unset, .unset] [.null, (.ref b2)])) rfl (by rw [hml]; rfl) (Steps.refl _) (argsL := [.null]) (rest := []) (lenOf pd_4 rfl) rfl (by show 2 * 0 + _ ≤ _; exact Nat.le_of_eq rfl) (hb hby at_100) (fun _ _ => ⟨rfl, e26, (Nat.le_trans (Nat.add_le_add_right (Nat.add_le_add_right (Nat.add_le_add_right (Nat.add_le_add_right (Nat.add_le_add_right (Nat.add_le_add_right (Nat.add_le_add_right (Nat.add_le_add_right (Nat.add_le_add_right (Nat.add_le_add_right (Nat.le_refl 0) 0) 1) 0) 1) 0) 1) 0) 0) 0) 0) (by decide)), (Nat.le_trans (Nat.add_le_add_right (Nat.add_le_add_right (Nat.add_le_add_right (Nat.add_le_add_right (Nat.add_le_add_right (Nat.add_le_add_right (Nat.add_le_add_right (Nat.add_le_add_right (Nat.add_le_add_right (Nat.add_le_add_right (Nat.le_refl 0) 0) 1) 0) 1) 0) 2) 0) 0) 0) 0) (by decide))⟩)
        dsimp only [Pt.U, Pt.locs, Pt.cells, Pt.slots] at X27 l27 y27 z27 st27 hQ27
        subst l27 y27 z27
        obtain ⟨rfl, N27q, e27⟩ := hQ27
        have N27 := Fr.app N26 N27q
        refine Go.step (T' := T27) (f' := (mkF m 103 #[.val (.long p1), .second, .val (.long p2), .second, .val (.int p3), .val (.long (pick p1 p2 p3)), .second, .val (.ref b2), .val (.ref b7), .val (.ref b_16), .val (.int (1 : Int32)), .val (.int (1 : Int32)), .val (.int (1 : Int32)), .val (.int (eqU p1 p1)), .unset, .unset] [(.int (eqN ))])) (fun t kt => ?_) ?_
        · show Steps p.tables e below (T24.setTop (mkF m 81 #[.val (.long p1), .second, .val (.long p2), .second, .val (.int p3), .val (.long (pick p1 p2 p3)), .second, .val (.ref b2), .val (.ref b7), .val (.ref b_16), .val (.int (1 : Int32)), .val (.int (1 : Int32)), .unset, .unset, .unset, .unset] [])) _
          refine XS.iconst X24.here hx rfl (hb hby at_81) ?_
          show Steps p.tables e below (T24.setTop (mkF m 82 #[.val (.long p1), .second, .val (.long p2), .second, .val (.int p3), .val (.long (pick p1 p2 p3)), .second, .val (.ref b2), .val (.ref b7), .val (.ref b_16), .val (.int (1 : Int32)), .val (.int (1 : Int32)), .unset, .unset, .unset, .unset] [(.int (1 : Int32))])) _
          refine XS.goto X24.here hx rfl (pc0 := 82) (pc' := 86) rfl (hb hby at_82) (by decide) (by decide) ?_
          show Steps p.tables e below (T24.setTop (mkF m 86 #[.val (.long p1), .second, .val (.long p2), .second, .val (.int p3), .val (.long (pick p1 p2 p3)), .second, .val (.ref b2), .val (.ref b7), .val (.ref b_16), .val (.int (1 : Int32)), .val (.int (1 : Int32)), .unset, .unset, .unset, .unset] [(.int (1 : Int32))])) _
          refine XS.istore X24.here hx rfl (hb hby at_86) rfl (l' := #[.val (.long p1), .second, .val (.long p2), .second, .val (.int p3), .val (.long (pick p1 p2 p3)), .second, .val (.ref b2), .val (.ref b7), .val (.ref b_16), .val (.int (1 : Int32)), .val (.int (1 : Int32)), .val (.int (1 : Int32)), .unset, .unset, .unset]) rfl ?_
          show Steps p.tables e below (T24.setTop (mkF m 88 #[.val (.long p1), .second, .val (.long p2), .second, .val (.int p3), .val (.long (pick p1 p2 p3)), .second, .val (.ref b2), .val (.ref b7), .val (.ref b_16), .val (.int (1 : Int32)), .val (.int (1 : Int32)), .val (.int (1 : Int32)), .unset, .unset, .unset] [])) _
          refine XS.aload X24.here hx rfl (hb hby at_88) rfl rfl ?_
          show Steps p.tables e below (T24.setTop (mkF m 90 #[.val (.long p1), .second, .val (.long p2), .second, .val (.int p3), .val (.long (pick p1 p2 p3)), .second, .val (.ref b2), .val (.ref b7), .val (.ref b_16), .val (.int (1 : Int32)), .val (.int (1 : Int32)), .val (.int (1 : Int32)), .unset, .unset, .unset] [(.ref b2)])) _
          refine XS.aload X24.here hx rfl (hb hby at_90) rfl rfl ?_
          show Steps p.tables e below (T24.setTop (mkF m 92 #[.val (.long p1), .second, .val (.long p2), .second, .val (.int p3), .val (.long (pick p1 p2 p3)), .second, .val (.ref b2), .val (.ref b7), .val (.ref b_16), .val (.int (1 : Int32)), .val (.int (1 : Int32)), .val (.int (1 : Int32)), .unset, .unset, .unset] [(.ref b2), (.ref b2)])) _
          refine st26.trans ?_
          show Steps p.tables e below (T26.setTop (mkF m 95 #[.val (.long p1), .second, .val (.long p2), .second, .val (.int p3), .val (.long (pick p1 p2 p3)), .second, .val (.ref b2), .val (.ref b7), .val (.ref b_16), .val (.int (1 : Int32)), .val (.int (1 : Int32)), .val (.int (1 : Int32)), .unset, .unset, .unset] [(.int (eqU p1 p1))])) _
          refine XS.istore X26.here hx rfl (hb hby at_95) rfl (l' := #[.val (.long p1), .second, .val (.long p2), .second, .val (.int p3), .val (.long (pick p1 p2 p3)), .second, .val (.ref b2), .val (.ref b7), .val (.ref b_16), .val (.int (1 : Int32)), .val (.int (1 : Int32)), .val (.int (1 : Int32)), .val (.int (eqU p1 p1)), .unset, .unset]) rfl ?_
          show Steps p.tables e below (T26.setTop (mkF m 97 #[.val (.long p1), .second, .val (.long p2), .second, .val (.int p3), .val (.long (pick p1 p2 p3)), .second, .val (.ref b2), .val (.ref b7), .val (.ref b_16), .val (.int (1 : Int32)), .val (.int (1 : Int32)), .val (.int (1 : Int32)), .val (.int (eqU p1 p1)), .unset, .unset] [])) _
          refine XS.aload X26.here hx rfl (hb hby at_97) rfl rfl ?_
          show Steps p.tables e below (T26.setTop (mkF m 99 #[.val (.long p1), .second, .val (.long p2), .second, .val (.int p3), .val (.long (pick p1 p2 p3)), .second, .val (.ref b2), .val (.ref b7), .val (.ref b_16), .val (.int (1 : Int32)), .val (.int (1 : Int32)), .val (.int (1 : Int32)), .val (.int (eqU p1 p1)), .unset, .unset] [(.ref b2)])) _
          refine XS.aconstNull X26.here hx rfl (hb hby at_99) ?_
          show Steps p.tables e below (T26.setTop (mkF m 100 #[.val (.long p1), .second, .val (.long p2), .second, .val (.int p3), .val (.long (pick p1 p2 p3)), .second, .val (.ref b2), .val (.ref b7), .val (.ref b_16), .val (.int (1 : Int32)), .val (.int (1 : Int32)), .val (.int (1 : Int32)), .val (.int (eqU p1 p1)), .unset, .unset] [.null, (.ref b2)])) _
          refine st27.trans ?_
          exact kt
        by_cases hc28 : (eqN ) = (0 : Int32)
        · rw [if_pos hc28] at hf
          refine Go.step (T' := T27) (f' := (mkF m 106 #[.val (.long p1), .second, .val (.long p2), .second, .val (.int p3), .val (.long (pick p1 p2 p3)), .second, .val (.ref b2), .val (.ref b7), .val (.ref b_16), .val (.int (1 : Int32)), .val (.int (1 : Int32)), .val (.int (1 : Int32)), .val (.int (eqU p1 p1)), .unset, .unset] [])) (fun t kt => ?_) ?_
          · show Steps p.tables e below (T27.setTop (mkF m 103 #[.val (.long p1), .second, .val (.long p2), .second, .val (.int p3), .val (.long (pick p1 p2 p3)), .second, .val (.ref b2), .val (.ref b7), .val (.ref b_16), .val (.int (1 : Int32)), .val (.int (1 : Int32)), .val (.int (1 : Int32)), .val (.int (eqU p1 p1)), .unset, .unset] [(.int (eqN ))])) _
            refine XS.ifNo X27.here hx rfl (hb hby at_103) rfl ((if0 _ _).trans (teq hc28).2) ?_
            exact kt
          obtain ⟨cq29, kq29, q29a, q29b, q29c⟩ := isOf hZ e27 (G17 : Exa Z T16.heap b2 "com/example/plumbline/plumbline/model/PlistUid")
          obtain ⟨_, _, ⟨T29, L29, k29, n29⟩, -, X29, ⟨Lc29, hQ29, l29, y29, z29⟩, st29⟩ := X27.virtualBack hx (y := (⟨"com/example/plumbline/plumbline/model/PlistUid", "equals", "(Ljava/lang/Object;)Z"⟩ : MethodName)) (z := (⟨"com/example/plumbline/plumbline/model/PlistUid", "equals", "(Ljava/lang/Object;)Z"⟩ : MethodName)) hown (mvT hZ (hw _ (List.mem_of_getElem? (i := 29) rfl))) (mvT hZ (hw _ (List.mem_of_getElem? (i := 30) rfl))) (notFace_of_selects (args := #[]) (mvT hZ (hw _ (List.mem_of_getElem? (i := 32) rfl)))) (mvT hZ (hw _ (List.mem_of_getElem? (i := 32) rfl))) (mvT hZ (hw _ (List.mem_of_getElem? (i := 31) rfl))) (by decide) (backOf (W := 0) (rm_eqI l Z a0 hw [] b2 b_16  T16.heap n0 Z16 pf16_0 ) hZ (hw _ (List.mem_of_getElem? (i := 33) rfl)) (hw _ (List.mem_of_getElem? (i := 6) rfl)) (by decide) (by decide)) q29a q29c (g := (mkF m 117 #[.val (.long p1), .second, .val (.long p2), .second, .val (.int p3), .val (.long (pick p1 p2 p3)), .second, .val (.ref b2), .val (.ref b7), .val (.ref b_16), .val (.int (1 : Int32)), .val (.int (1 : Int32)), .val (.int (1 : Int32)), .val (.int (eqU p1 p1)), .val (.int (1 : Int32)), .unset] [(.ref b_16), (.ref b2)])) rfl (by rw [hml]; rfl) (Steps.refl _) (argsL := [(.ref b_16)]) (rest := []) (lenOf pd_4 rfl) rfl (by show 2 * 0 + _ ≤ _; exact Nat.le_of_eq rfl) (hb hby at_117) (fun _ _ => ⟨rfl, e27, (Nat.le_trans (Nat.add_le_add_right (Nat.add_le_add_right (Nat.add_le_add_right (Nat.add_le_add_right (Nat.add_le_add_right (Nat.add_le_add_right (Nat.add_le_add_right (Nat.add_le_add_right (Nat.add_le_add_right (Nat.add_le_add_right (Nat.add_le_add_right (Nat.le_refl 0) 0) 1) 0) 1) 0) 1) 0) 0) 0) 0) 0) (by decide)), (Nat.le_trans (Nat.add_le_add_right (Nat.add_le_add_right (Nat.add_le_add_right (Nat.add_le_add_right (Nat.add_le_add_right (Nat.add_le_add_right (Nat.add_le_add_right (Nat.add_le_add_right (Nat.add_le_add_right (Nat.add_le_add_right (Nat.add_le_add_right (Nat.le_refl 0) 0) 1) 0) 1) 0) 2) 0) 0) 0) 0) 0) (by decide))⟩)
          dsimp only [Pt.U, Pt.locs, Pt.cells, Pt.slots] at X29 l29 y29 z29 st29 hQ29
          subst l29 y29 z29
          obtain ⟨rfl, N29q, e29⟩ := hQ29
          have N29 := Fr.app N27 N29q
          refine Go.step (T' := T29) (f' := (mkF m 120 #[.val (.long p1), .second, .val (.long p2), .second, .val (.int p3), .val (.long (pick p1 p2 p3)), .second, .val (.ref b2), .val (.ref b7), .val (.ref b_16), .val (.int (1 : Int32)), .val (.int (1 : Int32)), .val (.int (1 : Int32)), .val (.int (eqU p1 p1)), .val (.int (1 : Int32)), .unset] [(.int (eqI ))])) (fun t kt => ?_) ?_
          · show Steps p.tables e below (T27.setTop (mkF m 106 #[.val (.long p1), .second, .val (.long p2), .second, .val (.int p3), .val (.long (pick p1 p2 p3)), .second, .val (.ref b2), .val (.ref b7), .val (.ref b_16), .val (.int (1 : Int32)), .val (.int (1 : Int32)), .val (.int (1 : Int32)), .val (.int (eqU p1 p1)), .unset, .unset] [])) _
            refine XS.iconst X27.here hx rfl (hb hby at_106) ?_
            show Steps p.tables e below (T27.setTop (mkF m 107 #[.val (.long p1), .second, .val (.long p2), .second, .val (.int p3), .val (.long (pick p1 p2 p3)), .second, .val (.ref b2), .val (.ref b7), .val (.ref b_16), .val (.int (1 : Int32)), .val (.int (1 : Int32)), .val (.int (1 : Int32)), .val (.int (eqU p1 p1)), .unset, .unset] [(.int (1 : Int32))])) _
            refine XS.goto X27.here hx rfl (pc0 := 107) (pc' := 111) rfl (hb hby at_107) (by decide) (by decide) ?_
            show Steps p.tables e below (T27.setTop (mkF m 111 #[.val (.long p1), .second, .val (.long p2), .second, .val (.int p3), .val (.long (pick p1 p2 p3)), .second, .val (.ref b2), .val (.ref b7), .val (.ref b_16), .val (.int (1 : Int32)), .val (.int (1 : Int32)), .val (.int (1 : Int32)), .val (.int (eqU p1 p1)), .unset, .unset] [(.int (1 : Int32))])) _
            refine XS.istore X27.here hx rfl (hb hby at_111) rfl (l' := #[.val (.long p1), .second, .val (.long p2), .second, .val (.int p3), .val (.long (pick p1 p2 p3)), .second, .val (.ref b2), .val (.ref b7), .val (.ref b_16), .val (.int (1 : Int32)), .val (.int (1 : Int32)), .val (.int (1 : Int32)), .val (.int (eqU p1 p1)), .val (.int (1 : Int32)), .unset]) rfl ?_
            show Steps p.tables e below (T27.setTop (mkF m 113 #[.val (.long p1), .second, .val (.long p2), .second, .val (.int p3), .val (.long (pick p1 p2 p3)), .second, .val (.ref b2), .val (.ref b7), .val (.ref b_16), .val (.int (1 : Int32)), .val (.int (1 : Int32)), .val (.int (1 : Int32)), .val (.int (eqU p1 p1)), .val (.int (1 : Int32)), .unset] [])) _
            refine XS.aload X27.here hx rfl (hb hby at_113) rfl rfl ?_
            show Steps p.tables e below (T27.setTop (mkF m 115 #[.val (.long p1), .second, .val (.long p2), .second, .val (.int p3), .val (.long (pick p1 p2 p3)), .second, .val (.ref b2), .val (.ref b7), .val (.ref b_16), .val (.int (1 : Int32)), .val (.int (1 : Int32)), .val (.int (1 : Int32)), .val (.int (eqU p1 p1)), .val (.int (1 : Int32)), .unset] [(.ref b2)])) _
            refine XS.aload X27.here hx rfl (hb hby at_115) rfl rfl ?_
            show Steps p.tables e below (T27.setTop (mkF m 117 #[.val (.long p1), .second, .val (.long p2), .second, .val (.int p3), .val (.long (pick p1 p2 p3)), .second, .val (.ref b2), .val (.ref b7), .val (.ref b_16), .val (.int (1 : Int32)), .val (.int (1 : Int32)), .val (.int (1 : Int32)), .val (.int (eqU p1 p1)), .val (.int (1 : Int32)), .unset] [(.ref b_16), (.ref b2)])) _
            refine st29.trans ?_
            exact kt
          by_cases hc30 : (eqI ) = (0 : Int32)
          · rw [if_pos hc30] at hf
            refine Go.step (T' := T29) (f' := (mkF m 123 #[.val (.long p1), .second, .val (.long p2), .second, .val (.int p3), .val (.long (pick p1 p2 p3)), .second, .val (.ref b2), .val (.ref b7), .val (.ref b_16), .val (.int (1 : Int32)), .val (.int (1 : Int32)), .val (.int (1 : Int32)), .val (.int (eqU p1 p1)), .val (.int (1 : Int32)), .unset] [])) (fun t kt => ?_) ?_
            · show Steps p.tables e below (T29.setTop (mkF m 120 #[.val (.long p1), .second, .val (.long p2), .second, .val (.int p3), .val (.long (pick p1 p2 p3)), .second, .val (.ref b2), .val (.ref b7), .val (.ref b_16), .val (.int (1 : Int32)), .val (.int (1 : Int32)), .val (.int (1 : Int32)), .val (.int (eqU p1 p1)), .val (.int (1 : Int32)), .unset] [(.int (eqI ))])) _
              refine XS.ifNo X29.here hx rfl (hb hby at_120) rfl ((if0 _ _).trans (teq hc30).2) ?_
              exact kt
            refine Go.step (T' := T29) (f' := (mkF m 142 #[.val (.long p1), .second, .val (.long p2), .second, .val (.int p3), .val (.long (pick p1 p2 p3)), .second, .val (.ref b2), .val (.ref b7), .val (.ref b_16), .val (.int (1 : Int32)), .val (.int (1 : Int32)), .val (.int (1 : Int32)), .val (.int (eqU p1 p1)), .val (.int (1 : Int32)), .val (.int (1 : Int32))] [(.int (eqU p1 p1))])) (fun t kt => ?_) ?_
            · show Steps p.tables e below (T29.setTop (mkF m 123 #[.val (.long p1), .second, .val (.long p2), .second, .val (.int p3), .val (.long (pick p1 p2 p3)), .second, .val (.ref b2), .val (.ref b7), .val (.ref b_16), .val (.int (1 : Int32)), .val (.int (1 : Int32)), .val (.int (1 : Int32)), .val (.int (eqU p1 p1)), .val (.int (1 : Int32)), .unset] [])) _
              refine XS.iconst X29.here hx rfl (hb hby at_123) ?_
              show Steps p.tables e below (T29.setTop (mkF m 124 #[.val (.long p1), .second, .val (.long p2), .second, .val (.int p3), .val (.long (pick p1 p2 p3)), .second, .val (.ref b2), .val (.ref b7), .val (.ref b_16), .val (.int (1 : Int32)), .val (.int (1 : Int32)), .val (.int (1 : Int32)), .val (.int (eqU p1 p1)), .val (.int (1 : Int32)), .unset] [(.int (1 : Int32))])) _
              refine XS.goto X29.here hx rfl (pc0 := 124) (pc' := 128) rfl (hb hby at_124) (by decide) (by decide) ?_
              show Steps p.tables e below (T29.setTop (mkF m 128 #[.val (.long p1), .second, .val (.long p2), .second, .val (.int p3), .val (.long (pick p1 p2 p3)), .second, .val (.ref b2), .val (.ref b7), .val (.ref b_16), .val (.int (1 : Int32)), .val (.int (1 : Int32)), .val (.int (1 : Int32)), .val (.int (eqU p1 p1)), .val (.int (1 : Int32)), .unset] [(.int (1 : Int32))])) _
              refine XS.istore X29.here hx rfl (hb hby at_128) rfl (l' := #[.val (.long p1), .second, .val (.long p2), .second, .val (.int p3), .val (.long (pick p1 p2 p3)), .second, .val (.ref b2), .val (.ref b7), .val (.ref b_16), .val (.int (1 : Int32)), .val (.int (1 : Int32)), .val (.int (1 : Int32)), .val (.int (eqU p1 p1)), .val (.int (1 : Int32)), .val (.int (1 : Int32))]) rfl ?_
              show Steps p.tables e below (T29.setTop (mkF m 130 #[.val (.long p1), .second, .val (.long p2), .second, .val (.int p3), .val (.long (pick p1 p2 p3)), .second, .val (.ref b2), .val (.ref b7), .val (.ref b_16), .val (.int (1 : Int32)), .val (.int (1 : Int32)), .val (.int (1 : Int32)), .val (.int (eqU p1 p1)), .val (.int (1 : Int32)), .val (.int (1 : Int32))] [])) _
              refine XS.iload X29.here hx rfl (hb hby at_130) rfl ?_
              show Steps p.tables e below (T29.setTop (mkF m 132 #[.val (.long p1), .second, .val (.long p2), .second, .val (.int p3), .val (.long (pick p1 p2 p3)), .second, .val (.ref b2), .val (.ref b7), .val (.ref b_16), .val (.int (1 : Int32)), .val (.int (1 : Int32)), .val (.int (1 : Int32)), .val (.int (eqU p1 p1)), .val (.int (1 : Int32)), .val (.int (1 : Int32))] [(.int (1 : Int32))])) _
              refine XS.ifNo X29.here hx rfl (hb hby at_132) rfl ((if0 _ _).trans (feq (by decide : ¬ ((1 : Int32) = (0 : Int32)))).1) ?_
              show Steps p.tables e below (T29.setTop (mkF m 135 #[.val (.long p1), .second, .val (.long p2), .second, .val (.int p3), .val (.long (pick p1 p2 p3)), .second, .val (.ref b2), .val (.ref b7), .val (.ref b_16), .val (.int (1 : Int32)), .val (.int (1 : Int32)), .val (.int (1 : Int32)), .val (.int (eqU p1 p1)), .val (.int (1 : Int32)), .val (.int (1 : Int32))] [])) _
              refine XS.iload X29.here hx rfl (hb hby at_135) rfl ?_
              show Steps p.tables e below (T29.setTop (mkF m 137 #[.val (.long p1), .second, .val (.long p2), .second, .val (.int p3), .val (.long (pick p1 p2 p3)), .second, .val (.ref b2), .val (.ref b7), .val (.ref b_16), .val (.int (1 : Int32)), .val (.int (1 : Int32)), .val (.int (1 : Int32)), .val (.int (eqU p1 p1)), .val (.int (1 : Int32)), .val (.int (1 : Int32))] [(.int (1 : Int32))])) _
              refine XS.ifNo X29.here hx rfl (hb hby at_137) rfl ((if0 _ _).trans (feq (by decide : ¬ ((1 : Int32) = (0 : Int32)))).1) ?_
              show Steps p.tables e below (T29.setTop (mkF m 140 #[.val (.long p1), .second, .val (.long p2), .second, .val (.int p3), .val (.long (pick p1 p2 p3)), .second, .val (.ref b2), .val (.ref b7), .val (.ref b_16), .val (.int (1 : Int32)), .val (.int (1 : Int32)), .val (.int (1 : Int32)), .val (.int (eqU p1 p1)), .val (.int (1 : Int32)), .val (.int (1 : Int32))] [])) _
              refine XS.iload X29.here hx rfl (hb hby at_140) rfl ?_
              exact kt
            by_cases hc31 : (eqU p1 p1) = (0 : Int32)
            · rw [if_pos hc31] at hf
              refine Go.step (T' := T29) (f' := (mkF m 159 #[.val (.long p1), .second, .val (.long p2), .second, .val (.int p3), .val (.long (pick p1 p2 p3)), .second, .val (.ref b2), .val (.ref b7), .val (.ref b_16), .val (.int (1 : Int32)), .val (.int (1 : Int32)), .val (.int (1 : Int32)), .val (.int (eqU p1 p1)), .val (.int (1 : Int32)), .val (.int (1 : Int32))] [])) (fun t kt => ?_) ?_
              · show Steps p.tables e below (T29.setTop (mkF m 142 #[.val (.long p1), .second, .val (.long p2), .second, .val (.int p3), .val (.long (pick p1 p2 p3)), .second, .val (.ref b2), .val (.ref b7), .val (.ref b_16), .val (.int (1 : Int32)), .val (.int (1 : Int32)), .val (.int (1 : Int32)), .val (.int (eqU p1 p1)), .val (.int (1 : Int32)), .val (.int (1 : Int32))] [(.int (eqU p1 p1))])) _
                refine XS.ifYes X29.here hx rfl (pc0 := 142) (pc' := 159) rfl (hb hby at_142) rfl ((if0 _ _).trans (teq hc31).1) (by decide) (by decide) ?_
                exact kt
              refine Go.step (T' := T29) (f' := (mkF m 160 #[.val (.long p1), .second, .val (.long p2), .second, .val (.int p3), .val (.long (pick p1 p2 p3)), .second, .val (.ref b2), .val (.ref b7), .val (.ref b_16), .val (.int (1 : Int32)), .val (.int (1 : Int32)), .val (.int (1 : Int32)), .val (.int (eqU p1 p1)), .val (.int (1 : Int32)), .val (.int (1 : Int32))] [(.int (0 : Int32))])) (fun t kt => ?_) ?_
              · show Steps p.tables e below (T29.setTop (mkF m 159 #[.val (.long p1), .second, .val (.long p2), .second, .val (.int p3), .val (.long (pick p1 p2 p3)), .second, .val (.ref b2), .val (.ref b7), .val (.ref b_16), .val (.int (1 : Int32)), .val (.int (1 : Int32)), .val (.int (1 : Int32)), .val (.int (eqU p1 p1)), .val (.int (1 : Int32)), .val (.int (1 : Int32))] [])) _
                refine XS.iconst X29.here hx rfl (hb hby at_159) ?_
                exact kt
              refine Go.fin X29 (v := some (.int (0 : Int32))) (fun h => by rw [Bd.returns] at h; cases h) Bd.notSynchronized ?_ (Nat.le_trans (Nat.add_le_add_right (Nat.add_le_add_right (Nat.add_le_add_right (Nat.add_le_add_right (Nat.add_le_add_right (Nat.add_le_add_right (Nat.add_le_add_right (Nat.add_le_add_right (Nat.add_le_add_right (Nat.add_le_add_right (Nat.add_le_add_right (Nat.le_refl 0) 0) 1) 0) 1) 0) 1) 0) 0) 0) 0) 0) (by decide)) (Nat.le_trans (Nat.add_le_add_right (Nat.add_le_add_right (Nat.add_le_add_right (Nat.add_le_add_right (Nat.add_le_add_right (Nat.add_le_add_right (Nat.add_le_add_right (Nat.add_le_add_right (Nat.add_le_add_right (Nat.add_le_add_right (Nat.add_le_add_right (Nat.le_refl 0) 0) 1) 0) 1) 0) 2) 0) 0) 0) 0) 0) (by decide)) (fun fs hr => retN X29 hx (t := .boolean) Bd.returns (by simp) (hb hby at_160) hr)
              · exact ⟨by rw [hf], N29⟩
            · rw [if_neg hc31] at hf
              refine Go.step (T' := T29) (f' := (mkF m 145 #[.val (.long p1), .second, .val (.long p2), .second, .val (.int p3), .val (.long (pick p1 p2 p3)), .second, .val (.ref b2), .val (.ref b7), .val (.ref b_16), .val (.int (1 : Int32)), .val (.int (1 : Int32)), .val (.int (1 : Int32)), .val (.int (eqU p1 p1)), .val (.int (1 : Int32)), .val (.int (1 : Int32))] [])) (fun t kt => ?_) ?_
              · show Steps p.tables e below (T29.setTop (mkF m 142 #[.val (.long p1), .second, .val (.long p2), .second, .val (.int p3), .val (.long (pick p1 p2 p3)), .second, .val (.ref b2), .val (.ref b7), .val (.ref b_16), .val (.int (1 : Int32)), .val (.int (1 : Int32)), .val (.int (1 : Int32)), .val (.int (eqU p1 p1)), .val (.int (1 : Int32)), .val (.int (1 : Int32))] [(.int (eqU p1 p1))])) _
                refine XS.ifNo X29.here hx rfl (hb hby at_142) rfl ((if0 _ _).trans (feq hc31).1) ?_
                exact kt
              refine Go.step (T' := T29) (f' := (mkF m 160 #[.val (.long p1), .second, .val (.long p2), .second, .val (.int p3), .val (.long (pick p1 p2 p3)), .second, .val (.ref b2), .val (.ref b7), .val (.ref b_16), .val (.int (1 : Int32)), .val (.int (1 : Int32)), .val (.int (1 : Int32)), .val (.int (eqU p1 p1)), .val (.int (1 : Int32)), .val (.int (1 : Int32))] [(.int (1 : Int32))])) (fun t kt => ?_) ?_
              · show Steps p.tables e below (T29.setTop (mkF m 145 #[.val (.long p1), .second, .val (.long p2), .second, .val (.int p3), .val (.long (pick p1 p2 p3)), .second, .val (.ref b2), .val (.ref b7), .val (.ref b_16), .val (.int (1 : Int32)), .val (.int (1 : Int32)), .val (.int (1 : Int32)), .val (.int (eqU p1 p1)), .val (.int (1 : Int32)), .val (.int (1 : Int32))] [])) _
                refine XS.iload X29.here hx rfl (hb hby at_145) rfl ?_
                show Steps p.tables e below (T29.setTop (mkF m 147 #[.val (.long p1), .second, .val (.long p2), .second, .val (.int p3), .val (.long (pick p1 p2 p3)), .second, .val (.ref b2), .val (.ref b7), .val (.ref b_16), .val (.int (1 : Int32)), .val (.int (1 : Int32)), .val (.int (1 : Int32)), .val (.int (eqU p1 p1)), .val (.int (1 : Int32)), .val (.int (1 : Int32))] [(.int (1 : Int32))])) _
                refine XS.ifNo X29.here hx rfl (hb hby at_147) rfl ((if0 _ _).trans (feq (by decide : ¬ ((1 : Int32) = (0 : Int32)))).1) ?_
                show Steps p.tables e below (T29.setTop (mkF m 150 #[.val (.long p1), .second, .val (.long p2), .second, .val (.int p3), .val (.long (pick p1 p2 p3)), .second, .val (.ref b2), .val (.ref b7), .val (.ref b_16), .val (.int (1 : Int32)), .val (.int (1 : Int32)), .val (.int (1 : Int32)), .val (.int (eqU p1 p1)), .val (.int (1 : Int32)), .val (.int (1 : Int32))] [])) _
                refine XS.iload X29.here hx rfl (hb hby at_150) rfl ?_
                show Steps p.tables e below (T29.setTop (mkF m 152 #[.val (.long p1), .second, .val (.long p2), .second, .val (.int p3), .val (.long (pick p1 p2 p3)), .second, .val (.ref b2), .val (.ref b7), .val (.ref b_16), .val (.int (1 : Int32)), .val (.int (1 : Int32)), .val (.int (1 : Int32)), .val (.int (eqU p1 p1)), .val (.int (1 : Int32)), .val (.int (1 : Int32))] [(.int (1 : Int32))])) _
                refine XS.ifNo X29.here hx rfl (hb hby at_152) rfl ((if0 _ _).trans (feq (by decide : ¬ ((1 : Int32) = (0 : Int32)))).1) ?_
                show Steps p.tables e below (T29.setTop (mkF m 155 #[.val (.long p1), .second, .val (.long p2), .second, .val (.int p3), .val (.long (pick p1 p2 p3)), .second, .val (.ref b2), .val (.ref b7), .val (.ref b_16), .val (.int (1 : Int32)), .val (.int (1 : Int32)), .val (.int (1 : Int32)), .val (.int (eqU p1 p1)), .val (.int (1 : Int32)), .val (.int (1 : Int32))] [])) _
                refine XS.iconst X29.here hx rfl (hb hby at_155) ?_
                show Steps p.tables e below (T29.setTop (mkF m 156 #[.val (.long p1), .second, .val (.long p2), .second, .val (.int p3), .val (.long (pick p1 p2 p3)), .second, .val (.ref b2), .val (.ref b7), .val (.ref b_16), .val (.int (1 : Int32)), .val (.int (1 : Int32)), .val (.int (1 : Int32)), .val (.int (eqU p1 p1)), .val (.int (1 : Int32)), .val (.int (1 : Int32))] [(.int (1 : Int32))])) _
                refine XS.goto X29.here hx rfl (pc0 := 156) (pc' := 160) rfl (hb hby at_156) (by decide) (by decide) ?_
                exact kt
              refine Go.fin X29 (v := some (.int (1 : Int32))) (fun h => by rw [Bd.returns] at h; cases h) Bd.notSynchronized ?_ (Nat.le_trans (Nat.add_le_add_right (Nat.add_le_add_right (Nat.add_le_add_right (Nat.add_le_add_right (Nat.add_le_add_right (Nat.add_le_add_right (Nat.add_le_add_right (Nat.add_le_add_right (Nat.add_le_add_right (Nat.add_le_add_right (Nat.add_le_add_right (Nat.le_refl 0) 0) 1) 0) 1) 0) 1) 0) 0) 0) 0) 0) (by decide)) (Nat.le_trans (Nat.add_le_add_right (Nat.add_le_add_right (Nat.add_le_add_right (Nat.add_le_add_right (Nat.add_le_add_right (Nat.add_le_add_right (Nat.add_le_add_right (Nat.add_le_add_right (Nat.add_le_add_right (Nat.add_le_add_right (Nat.add_le_add_right (Nat.le_refl 0) 0) 1) 0) 1) 0) 2) 0) 0) 0) 0) 0) (by decide)) (fun fs hr => retN X29 hx (t := .boolean) Bd.returns (by simp) (hb hby at_160) hr)
              · exact ⟨by rw [hf], N29⟩
          · rw [if_neg hc30] at hf
            refine Go.step (T' := T29) (f' := (mkF m 127 #[.val (.long p1), .second, .val (.long p2), .second, .val (.int p3), .val (.long (pick p1 p2 p3)), .second, .val (.ref b2), .val (.ref b7), .val (.ref b_16), .val (.int (1 : Int32)), .val (.int (1 : Int32)), .val (.int (1 : Int32)), .val (.int (eqU p1 p1)), .val (.int (1 : Int32)), .unset] [])) (fun t kt => ?_) ?_
            · show Steps p.tables e below (T29.setTop (mkF m 120 #[.val (.long p1), .second, .val (.long p2), .second, .val (.int p3), .val (.long (pick p1 p2 p3)), .second, .val (.ref b2), .val (.ref b7), .val (.ref b_16), .val (.int (1 : Int32)), .val (.int (1 : Int32)), .val (.int (1 : Int32)), .val (.int (eqU p1 p1)), .val (.int (1 : Int32)), .unset] [(.int (eqI ))])) _
              refine XS.ifYes X29.here hx rfl (pc0 := 120) (pc' := 127) rfl (hb hby at_120) rfl ((if0 _ _).trans (feq hc30).2) (by decide) (by decide) ?_
              exact kt
            refine Go.step (T' := T29) (f' := (mkF m 142 #[.val (.long p1), .second, .val (.long p2), .second, .val (.int p3), .val (.long (pick p1 p2 p3)), .second, .val (.ref b2), .val (.ref b7), .val (.ref b_16), .val (.int (1 : Int32)), .val (.int (1 : Int32)), .val (.int (1 : Int32)), .val (.int (eqU p1 p1)), .val (.int (1 : Int32)), .val (.int (0 : Int32))] [(.int (eqU p1 p1))])) (fun t kt => ?_) ?_
            · show Steps p.tables e below (T29.setTop (mkF m 127 #[.val (.long p1), .second, .val (.long p2), .second, .val (.int p3), .val (.long (pick p1 p2 p3)), .second, .val (.ref b2), .val (.ref b7), .val (.ref b_16), .val (.int (1 : Int32)), .val (.int (1 : Int32)), .val (.int (1 : Int32)), .val (.int (eqU p1 p1)), .val (.int (1 : Int32)), .unset] [])) _
              refine XS.iconst X29.here hx rfl (hb hby at_127) ?_
              show Steps p.tables e below (T29.setTop (mkF m 128 #[.val (.long p1), .second, .val (.long p2), .second, .val (.int p3), .val (.long (pick p1 p2 p3)), .second, .val (.ref b2), .val (.ref b7), .val (.ref b_16), .val (.int (1 : Int32)), .val (.int (1 : Int32)), .val (.int (1 : Int32)), .val (.int (eqU p1 p1)), .val (.int (1 : Int32)), .unset] [(.int (0 : Int32))])) _
              refine XS.istore X29.here hx rfl (hb hby at_128) rfl (l' := #[.val (.long p1), .second, .val (.long p2), .second, .val (.int p3), .val (.long (pick p1 p2 p3)), .second, .val (.ref b2), .val (.ref b7), .val (.ref b_16), .val (.int (1 : Int32)), .val (.int (1 : Int32)), .val (.int (1 : Int32)), .val (.int (eqU p1 p1)), .val (.int (1 : Int32)), .val (.int (0 : Int32))]) rfl ?_
              show Steps p.tables e below (T29.setTop (mkF m 130 #[.val (.long p1), .second, .val (.long p2), .second, .val (.int p3), .val (.long (pick p1 p2 p3)), .second, .val (.ref b2), .val (.ref b7), .val (.ref b_16), .val (.int (1 : Int32)), .val (.int (1 : Int32)), .val (.int (1 : Int32)), .val (.int (eqU p1 p1)), .val (.int (1 : Int32)), .val (.int (0 : Int32))] [])) _
              refine XS.iload X29.here hx rfl (hb hby at_130) rfl ?_
              show Steps p.tables e below (T29.setTop (mkF m 132 #[.val (.long p1), .second, .val (.long p2), .second, .val (.int p3), .val (.long (pick p1 p2 p3)), .second, .val (.ref b2), .val (.ref b7), .val (.ref b_16), .val (.int (1 : Int32)), .val (.int (1 : Int32)), .val (.int (1 : Int32)), .val (.int (eqU p1 p1)), .val (.int (1 : Int32)), .val (.int (0 : Int32))] [(.int (1 : Int32))])) _
              refine XS.ifNo X29.here hx rfl (hb hby at_132) rfl ((if0 _ _).trans (feq (by decide : ¬ ((1 : Int32) = (0 : Int32)))).1) ?_
              show Steps p.tables e below (T29.setTop (mkF m 135 #[.val (.long p1), .second, .val (.long p2), .second, .val (.int p3), .val (.long (pick p1 p2 p3)), .second, .val (.ref b2), .val (.ref b7), .val (.ref b_16), .val (.int (1 : Int32)), .val (.int (1 : Int32)), .val (.int (1 : Int32)), .val (.int (eqU p1 p1)), .val (.int (1 : Int32)), .val (.int (0 : Int32))] [])) _
              refine XS.iload X29.here hx rfl (hb hby at_135) rfl ?_
              show Steps p.tables e below (T29.setTop (mkF m 137 #[.val (.long p1), .second, .val (.long p2), .second, .val (.int p3), .val (.long (pick p1 p2 p3)), .second, .val (.ref b2), .val (.ref b7), .val (.ref b_16), .val (.int (1 : Int32)), .val (.int (1 : Int32)), .val (.int (1 : Int32)), .val (.int (eqU p1 p1)), .val (.int (1 : Int32)), .val (.int (0 : Int32))] [(.int (1 : Int32))])) _
              refine XS.ifNo X29.here hx rfl (hb hby at_137) rfl ((if0 _ _).trans (feq (by decide : ¬ ((1 : Int32) = (0 : Int32)))).1) ?_
              show Steps p.tables e below (T29.setTop (mkF m 140 #[.val (.long p1), .second, .val (.long p2), .second, .val (.int p3), .val (.long (pick p1 p2 p3)), .second, .val (.ref b2), .val (.ref b7), .val (.ref b_16), .val (.int (1 : Int32)), .val (.int (1 : Int32)), .val (.int (1 : Int32)), .val (.int (eqU p1 p1)), .val (.int (1 : Int32)), .val (.int (0 : Int32))] [])) _
              refine XS.iload X29.here hx rfl (hb hby at_140) rfl ?_
              exact kt
            by_cases hc32 : (eqU p1 p1) = (0 : Int32)
            · rw [if_pos hc32] at hf
              refine Go.step (T' := T29) (f' := (mkF m 159 #[.val (.long p1), .second, .val (.long p2), .second, .val (.int p3), .val (.long (pick p1 p2 p3)), .second, .val (.ref b2), .val (.ref b7), .val (.ref b_16), .val (.int (1 : Int32)), .val (.int (1 : Int32)), .val (.int (1 : Int32)), .val (.int (eqU p1 p1)), .val (.int (1 : Int32)), .val (.int (0 : Int32))] [])) (fun t kt => ?_) ?_
              · show Steps p.tables e below (T29.setTop (mkF m 142 #[.val (.long p1), .second, .val (.long p2), .second, .val (.int p3), .val (.long (pick p1 p2 p3)), .second, .val (.ref b2), .val (.ref b7), .val (.ref b_16), .val (.int (1 : Int32)), .val (.int (1 : Int32)), .val (.int (1 : Int32)), .val (.int (eqU p1 p1)), .val (.int (1 : Int32)), .val (.int (0 : Int32))] [(.int (eqU p1 p1))])) _
                refine XS.ifYes X29.here hx rfl (pc0 := 142) (pc' := 159) rfl (hb hby at_142) rfl ((if0 _ _).trans (teq hc32).1) (by decide) (by decide) ?_
                exact kt
              refine Go.step (T' := T29) (f' := (mkF m 160 #[.val (.long p1), .second, .val (.long p2), .second, .val (.int p3), .val (.long (pick p1 p2 p3)), .second, .val (.ref b2), .val (.ref b7), .val (.ref b_16), .val (.int (1 : Int32)), .val (.int (1 : Int32)), .val (.int (1 : Int32)), .val (.int (eqU p1 p1)), .val (.int (1 : Int32)), .val (.int (0 : Int32))] [(.int (0 : Int32))])) (fun t kt => ?_) ?_
              · show Steps p.tables e below (T29.setTop (mkF m 159 #[.val (.long p1), .second, .val (.long p2), .second, .val (.int p3), .val (.long (pick p1 p2 p3)), .second, .val (.ref b2), .val (.ref b7), .val (.ref b_16), .val (.int (1 : Int32)), .val (.int (1 : Int32)), .val (.int (1 : Int32)), .val (.int (eqU p1 p1)), .val (.int (1 : Int32)), .val (.int (0 : Int32))] [])) _
                refine XS.iconst X29.here hx rfl (hb hby at_159) ?_
                exact kt
              refine Go.fin X29 (v := some (.int (0 : Int32))) (fun h => by rw [Bd.returns] at h; cases h) Bd.notSynchronized ?_ (Nat.le_trans (Nat.add_le_add_right (Nat.add_le_add_right (Nat.add_le_add_right (Nat.add_le_add_right (Nat.add_le_add_right (Nat.add_le_add_right (Nat.add_le_add_right (Nat.add_le_add_right (Nat.add_le_add_right (Nat.add_le_add_right (Nat.add_le_add_right (Nat.le_refl 0) 0) 1) 0) 1) 0) 1) 0) 0) 0) 0) 0) (by decide)) (Nat.le_trans (Nat.add_le_add_right (Nat.add_le_add_right (Nat.add_le_add_right (Nat.add_le_add_right (Nat.add_le_add_right (Nat.add_le_add_right (Nat.add_le_add_right (Nat.add_le_add_right (Nat.add_le_add_right (Nat.add_le_add_right (Nat.add_le_add_right (Nat.le_refl 0) 0) 1) 0) 1) 0) 2) 0) 0) 0) 0) 0) (by decide)) (fun fs hr => retN X29 hx (t := .boolean) Bd.returns (by simp) (hb hby at_160) hr)
              · exact ⟨by rw [hf], N29⟩
            · rw [if_neg hc32] at hf
              refine Go.step (T' := T29) (f' := (mkF m 145 #[.val (.long p1), .second, .val (.long p2), .second, .val (.int p3), .val (.long (pick p1 p2 p3)), .second, .val (.ref b2), .val (.ref b7), .val (.ref b_16), .val (.int (1 : Int32)), .val (.int (1 : Int32)), .val (.int (1 : Int32)), .val (.int (eqU p1 p1)), .val (.int (1 : Int32)), .val (.int (0 : Int32))] [])) (fun t kt => ?_) ?_
              · show Steps p.tables e below (T29.setTop (mkF m 142 #[.val (.long p1), .second, .val (.long p2), .second, .val (.int p3), .val (.long (pick p1 p2 p3)), .second, .val (.ref b2), .val (.ref b7), .val (.ref b_16), .val (.int (1 : Int32)), .val (.int (1 : Int32)), .val (.int (1 : Int32)), .val (.int (eqU p1 p1)), .val (.int (1 : Int32)), .val (.int (0 : Int32))] [(.int (eqU p1 p1))])) _
                refine XS.ifNo X29.here hx rfl (hb hby at_142) rfl ((if0 _ _).trans (feq hc32).1) ?_
                exact kt
              refine Go.step (T' := T29) (f' := (mkF m 160 #[.val (.long p1), .second, .val (.long p2), .second, .val (.int p3), .val (.long (pick p1 p2 p3)), .second, .val (.ref b2), .val (.ref b7), .val (.ref b_16), .val (.int (1 : Int32)), .val (.int (1 : Int32)), .val (.int (1 : Int32)), .val (.int (eqU p1 p1)), .val (.int (1 : Int32)), .val (.int (0 : Int32))] [(.int (0 : Int32))])) (fun t kt => ?_) ?_
              · show Steps p.tables e below (T29.setTop (mkF m 145 #[.val (.long p1), .second, .val (.long p2), .second, .val (.int p3), .val (.long (pick p1 p2 p3)), .second, .val (.ref b2), .val (.ref b7), .val (.ref b_16), .val (.int (1 : Int32)), .val (.int (1 : Int32)), .val (.int (1 : Int32)), .val (.int (eqU p1 p1)), .val (.int (1 : Int32)), .val (.int (0 : Int32))] [])) _
                refine XS.iload X29.here hx rfl (hb hby at_145) rfl ?_
                show Steps p.tables e below (T29.setTop (mkF m 147 #[.val (.long p1), .second, .val (.long p2), .second, .val (.int p3), .val (.long (pick p1 p2 p3)), .second, .val (.ref b2), .val (.ref b7), .val (.ref b_16), .val (.int (1 : Int32)), .val (.int (1 : Int32)), .val (.int (1 : Int32)), .val (.int (eqU p1 p1)), .val (.int (1 : Int32)), .val (.int (0 : Int32))] [(.int (1 : Int32))])) _
                refine XS.ifNo X29.here hx rfl (hb hby at_147) rfl ((if0 _ _).trans (feq (by decide : ¬ ((1 : Int32) = (0 : Int32)))).1) ?_
                show Steps p.tables e below (T29.setTop (mkF m 150 #[.val (.long p1), .second, .val (.long p2), .second, .val (.int p3), .val (.long (pick p1 p2 p3)), .second, .val (.ref b2), .val (.ref b7), .val (.ref b_16), .val (.int (1 : Int32)), .val (.int (1 : Int32)), .val (.int (1 : Int32)), .val (.int (eqU p1 p1)), .val (.int (1 : Int32)), .val (.int (0 : Int32))] [])) _
                refine XS.iload X29.here hx rfl (hb hby at_150) rfl ?_
                show Steps p.tables e below (T29.setTop (mkF m 152 #[.val (.long p1), .second, .val (.long p2), .second, .val (.int p3), .val (.long (pick p1 p2 p3)), .second, .val (.ref b2), .val (.ref b7), .val (.ref b_16), .val (.int (1 : Int32)), .val (.int (1 : Int32)), .val (.int (1 : Int32)), .val (.int (eqU p1 p1)), .val (.int (1 : Int32)), .val (.int (0 : Int32))] [(.int (0 : Int32))])) _
                refine XS.ifYes X29.here hx rfl (pc0 := 152) (pc' := 159) rfl (hb hby at_152) rfl ((if0 _ _).trans (teq (by decide : ((0 : Int32) = (0 : Int32)))).1) (by decide) (by decide) ?_
                show Steps p.tables e below (T29.setTop (mkF m 159 #[.val (.long p1), .second, .val (.long p2), .second, .val (.int p3), .val (.long (pick p1 p2 p3)), .second, .val (.ref b2), .val (.ref b7), .val (.ref b_16), .val (.int (1 : Int32)), .val (.int (1 : Int32)), .val (.int (1 : Int32)), .val (.int (eqU p1 p1)), .val (.int (1 : Int32)), .val (.int (0 : Int32))] [])) _
                refine XS.iconst X29.here hx rfl (hb hby at_159) ?_
                exact kt
              refine Go.fin X29 (v := some (.int (0 : Int32))) (fun h => by rw [Bd.returns] at h; cases h) Bd.notSynchronized ?_ (Nat.le_trans (Nat.add_le_add_right (Nat.add_le_add_right (Nat.add_le_add_right (Nat.add_le_add_right (Nat.add_le_add_right (Nat.add_le_add_right (Nat.add_le_add_right (Nat.add_le_add_right (Nat.add_le_add_right (Nat.add_le_add_right (Nat.add_le_add_right (Nat.le_refl 0) 0) 1) 0) 1) 0) 1) 0) 0) 0) 0) 0) (by decide)) (Nat.le_trans (Nat.add_le_add_right (Nat.add_le_add_right (Nat.add_le_add_right (Nat.add_le_add_right (Nat.add_le_add_right (Nat.add_le_add_right (Nat.add_le_add_right (Nat.add_le_add_right (Nat.add_le_add_right (Nat.add_le_add_right (Nat.add_le_add_right (Nat.le_refl 0) 0) 1) 0) 1) 0) 2) 0) 0) 0) 0) 0) (by decide)) (fun fs hr => retN X29 hx (t := .boolean) Bd.returns (by simp) (hb hby at_160) hr)
              · exact ⟨by rw [hf], N29⟩
        · rw [if_neg hc28] at hf
          refine Go.step (T' := T27) (f' := (mkF m 110 #[.val (.long p1), .second, .val (.long p2), .second, .val (.int p3), .val (.long (pick p1 p2 p3)), .second, .val (.ref b2), .val (.ref b7), .val (.ref b_16), .val (.int (1 : Int32)), .val (.int (1 : Int32)), .val (.int (1 : Int32)), .val (.int (eqU p1 p1)), .unset, .unset] [])) (fun t kt => ?_) ?_
          · show Steps p.tables e below (T27.setTop (mkF m 103 #[.val (.long p1), .second, .val (.long p2), .second, .val (.int p3), .val (.long (pick p1 p2 p3)), .second, .val (.ref b2), .val (.ref b7), .val (.ref b_16), .val (.int (1 : Int32)), .val (.int (1 : Int32)), .val (.int (1 : Int32)), .val (.int (eqU p1 p1)), .unset, .unset] [(.int (eqN ))])) _
            refine XS.ifYes X27.here hx rfl (pc0 := 103) (pc' := 110) rfl (hb hby at_103) rfl ((if0 _ _).trans (feq hc28).2) (by decide) (by decide) ?_
            exact kt
          obtain ⟨cq33, kq33, q33a, q33b, q33c⟩ := isOf hZ e27 (G17 : Exa Z T16.heap b2 "com/example/plumbline/plumbline/model/PlistUid")
          obtain ⟨_, _, ⟨T33, L33, k33, n33⟩, -, X33, ⟨Lc33, hQ33, l33, y33, z33⟩, st33⟩ := X27.virtualBack hx (y := (⟨"com/example/plumbline/plumbline/model/PlistUid", "equals", "(Ljava/lang/Object;)Z"⟩ : MethodName)) (z := (⟨"com/example/plumbline/plumbline/model/PlistUid", "equals", "(Ljava/lang/Object;)Z"⟩ : MethodName)) hown (mvT hZ (hw _ (List.mem_of_getElem? (i := 29) rfl))) (mvT hZ (hw _ (List.mem_of_getElem? (i := 30) rfl))) (notFace_of_selects (args := #[]) (mvT hZ (hw _ (List.mem_of_getElem? (i := 32) rfl)))) (mvT hZ (hw _ (List.mem_of_getElem? (i := 32) rfl))) (mvT hZ (hw _ (List.mem_of_getElem? (i := 31) rfl))) (by decide) (backOf (W := 0) (rm_eqI l Z a0 hw [] b2 b_16  T16.heap n0 Z16 pf16_0 ) hZ (hw _ (List.mem_of_getElem? (i := 33) rfl)) (hw _ (List.mem_of_getElem? (i := 6) rfl)) (by decide) (by decide)) q33a q33c (g := (mkF m 117 #[.val (.long p1), .second, .val (.long p2), .second, .val (.int p3), .val (.long (pick p1 p2 p3)), .second, .val (.ref b2), .val (.ref b7), .val (.ref b_16), .val (.int (1 : Int32)), .val (.int (1 : Int32)), .val (.int (1 : Int32)), .val (.int (eqU p1 p1)), .val (.int (0 : Int32)), .unset] [(.ref b_16), (.ref b2)])) rfl (by rw [hml]; rfl) (Steps.refl _) (argsL := [(.ref b_16)]) (rest := []) (lenOf pd_4 rfl) rfl (by show 2 * 0 + _ ≤ _; exact Nat.le_of_eq rfl) (hb hby at_117) (fun _ _ => ⟨rfl, e27, (Nat.le_trans (Nat.add_le_add_right (Nat.add_le_add_right (Nat.add_le_add_right (Nat.add_le_add_right (Nat.add_le_add_right (Nat.add_le_add_right (Nat.add_le_add_right (Nat.add_le_add_right (Nat.add_le_add_right (Nat.add_le_add_right (Nat.add_le_add_right (Nat.le_refl 0) 0) 1) 0) 1) 0) 1) 0) 0) 0) 0) 0) (by decide)), (Nat.le_trans (Nat.add_le_add_right (Nat.add_le_add_right (Nat.add_le_add_right (Nat.add_le_add_right (Nat.add_le_add_right (Nat.add_le_add_right (Nat.add_le_add_right (Nat.add_le_add_right (Nat.add_le_add_right (Nat.add_le_add_right (Nat.add_le_add_right (Nat.le_refl 0) 0) 1) 0) 1) 0) 2) 0) 0) 0) 0) 0) (by decide))⟩)
          dsimp only [Pt.U, Pt.locs, Pt.cells, Pt.slots] at X33 l33 y33 z33 st33 hQ33
          subst l33 y33 z33
          obtain ⟨rfl, N33q, e33⟩ := hQ33
          have N33 := Fr.app N27 N33q
          refine Go.step (T' := T33) (f' := (mkF m 120 #[.val (.long p1), .second, .val (.long p2), .second, .val (.int p3), .val (.long (pick p1 p2 p3)), .second, .val (.ref b2), .val (.ref b7), .val (.ref b_16), .val (.int (1 : Int32)), .val (.int (1 : Int32)), .val (.int (1 : Int32)), .val (.int (eqU p1 p1)), .val (.int (0 : Int32)), .unset] [(.int (eqI ))])) (fun t kt => ?_) ?_
          · show Steps p.tables e below (T27.setTop (mkF m 110 #[.val (.long p1), .second, .val (.long p2), .second, .val (.int p3), .val (.long (pick p1 p2 p3)), .second, .val (.ref b2), .val (.ref b7), .val (.ref b_16), .val (.int (1 : Int32)), .val (.int (1 : Int32)), .val (.int (1 : Int32)), .val (.int (eqU p1 p1)), .unset, .unset] [])) _
            refine XS.iconst X27.here hx rfl (hb hby at_110) ?_
            show Steps p.tables e below (T27.setTop (mkF m 111 #[.val (.long p1), .second, .val (.long p2), .second, .val (.int p3), .val (.long (pick p1 p2 p3)), .second, .val (.ref b2), .val (.ref b7), .val (.ref b_16), .val (.int (1 : Int32)), .val (.int (1 : Int32)), .val (.int (1 : Int32)), .val (.int (eqU p1 p1)), .unset, .unset] [(.int (0 : Int32))])) _
            refine XS.istore X27.here hx rfl (hb hby at_111) rfl (l' := #[.val (.long p1), .second, .val (.long p2), .second, .val (.int p3), .val (.long (pick p1 p2 p3)), .second, .val (.ref b2), .val (.ref b7), .val (.ref b_16), .val (.int (1 : Int32)), .val (.int (1 : Int32)), .val (.int (1 : Int32)), .val (.int (eqU p1 p1)), .val (.int (0 : Int32)), .unset]) rfl ?_
            show Steps p.tables e below (T27.setTop (mkF m 113 #[.val (.long p1), .second, .val (.long p2), .second, .val (.int p3), .val (.long (pick p1 p2 p3)), .second, .val (.ref b2), .val (.ref b7), .val (.ref b_16), .val (.int (1 : Int32)), .val (.int (1 : Int32)), .val (.int (1 : Int32)), .val (.int (eqU p1 p1)), .val (.int (0 : Int32)), .unset] [])) _
            refine XS.aload X27.here hx rfl (hb hby at_113) rfl rfl ?_
            show Steps p.tables e below (T27.setTop (mkF m 115 #[.val (.long p1), .second, .val (.long p2), .second, .val (.int p3), .val (.long (pick p1 p2 p3)), .second, .val (.ref b2), .val (.ref b7), .val (.ref b_16), .val (.int (1 : Int32)), .val (.int (1 : Int32)), .val (.int (1 : Int32)), .val (.int (eqU p1 p1)), .val (.int (0 : Int32)), .unset] [(.ref b2)])) _
            refine XS.aload X27.here hx rfl (hb hby at_115) rfl rfl ?_
            show Steps p.tables e below (T27.setTop (mkF m 117 #[.val (.long p1), .second, .val (.long p2), .second, .val (.int p3), .val (.long (pick p1 p2 p3)), .second, .val (.ref b2), .val (.ref b7), .val (.ref b_16), .val (.int (1 : Int32)), .val (.int (1 : Int32)), .val (.int (1 : Int32)), .val (.int (eqU p1 p1)), .val (.int (0 : Int32)), .unset] [(.ref b_16), (.ref b2)])) _
            refine st33.trans ?_
            exact kt
          by_cases hc34 : (eqI ) = (0 : Int32)
          · rw [if_pos hc34] at hf
            refine Go.step (T' := T33) (f' := (mkF m 123 #[.val (.long p1), .second, .val (.long p2), .second, .val (.int p3), .val (.long (pick p1 p2 p3)), .second, .val (.ref b2), .val (.ref b7), .val (.ref b_16), .val (.int (1 : Int32)), .val (.int (1 : Int32)), .val (.int (1 : Int32)), .val (.int (eqU p1 p1)), .val (.int (0 : Int32)), .unset] [])) (fun t kt => ?_) ?_
            · show Steps p.tables e below (T33.setTop (mkF m 120 #[.val (.long p1), .second, .val (.long p2), .second, .val (.int p3), .val (.long (pick p1 p2 p3)), .second, .val (.ref b2), .val (.ref b7), .val (.ref b_16), .val (.int (1 : Int32)), .val (.int (1 : Int32)), .val (.int (1 : Int32)), .val (.int (eqU p1 p1)), .val (.int (0 : Int32)), .unset] [(.int (eqI ))])) _
              refine XS.ifNo X33.here hx rfl (hb hby at_120) rfl ((if0 _ _).trans (teq hc34).2) ?_
              exact kt
            refine Go.step (T' := T33) (f' := (mkF m 142 #[.val (.long p1), .second, .val (.long p2), .second, .val (.int p3), .val (.long (pick p1 p2 p3)), .second, .val (.ref b2), .val (.ref b7), .val (.ref b_16), .val (.int (1 : Int32)), .val (.int (1 : Int32)), .val (.int (1 : Int32)), .val (.int (eqU p1 p1)), .val (.int (0 : Int32)), .val (.int (1 : Int32))] [(.int (eqU p1 p1))])) (fun t kt => ?_) ?_
            · show Steps p.tables e below (T33.setTop (mkF m 123 #[.val (.long p1), .second, .val (.long p2), .second, .val (.int p3), .val (.long (pick p1 p2 p3)), .second, .val (.ref b2), .val (.ref b7), .val (.ref b_16), .val (.int (1 : Int32)), .val (.int (1 : Int32)), .val (.int (1 : Int32)), .val (.int (eqU p1 p1)), .val (.int (0 : Int32)), .unset] [])) _
              refine XS.iconst X33.here hx rfl (hb hby at_123) ?_
              show Steps p.tables e below (T33.setTop (mkF m 124 #[.val (.long p1), .second, .val (.long p2), .second, .val (.int p3), .val (.long (pick p1 p2 p3)), .second, .val (.ref b2), .val (.ref b7), .val (.ref b_16), .val (.int (1 : Int32)), .val (.int (1 : Int32)), .val (.int (1 : Int32)), .val (.int (eqU p1 p1)), .val (.int (0 : Int32)), .unset] [(.int (1 : Int32))])) _
              refine XS.goto X33.here hx rfl (pc0 := 124) (pc' := 128) rfl (hb hby at_124) (by decide) (by decide) ?_
              show Steps p.tables e below (T33.setTop (mkF m 128 #[.val (.long p1), .second, .val (.long p2), .second, .val (.int p3), .val (.long (pick p1 p2 p3)), .second, .val (.ref b2), .val (.ref b7), .val (.ref b_16), .val (.int (1 : Int32)), .val (.int (1 : Int32)), .val (.int (1 : Int32)), .val (.int (eqU p1 p1)), .val (.int (0 : Int32)), .unset] [(.int (1 : Int32))])) _
              refine XS.istore X33.here hx rfl (hb hby at_128) rfl (l' := #[.val (.long p1), .second, .val (.long p2), .second, .val (.int p3), .val (.long (pick p1 p2 p3)), .second, .val (.ref b2), .val (.ref b7), .val (.ref b_16), .val (.int (1 : Int32)), .val (.int (1 : Int32)), .val (.int (1 : Int32)), .val (.int (eqU p1 p1)), .val (.int (0 : Int32)), .val (.int (1 : Int32))]) rfl ?_
              show Steps p.tables e below (T33.setTop (mkF m 130 #[.val (.long p1), .second, .val (.long p2), .second, .val (.int p3), .val (.long (pick p1 p2 p3)), .second, .val (.ref b2), .val (.ref b7), .val (.ref b_16), .val (.int (1 : Int32)), .val (.int (1 : Int32)), .val (.int (1 : Int32)), .val (.int (eqU p1 p1)), .val (.int (0 : Int32)), .val (.int (1 : Int32))] [])) _
              refine XS.iload X33.here hx rfl (hb hby at_130) rfl ?_
              show Steps p.tables e below (T33.setTop (mkF m 132 #[.val (.long p1), .second, .val (.long p2), .second, .val (.int p3), .val (.long (pick p1 p2 p3)), .second, .val (.ref b2), .val (.ref b7), .val (.ref b_16), .val (.int (1 : Int32)), .val (.int (1 : Int32)), .val (.int (1 : Int32)), .val (.int (eqU p1 p1)), .val (.int (0 : Int32)), .val (.int (1 : Int32))] [(.int (1 : Int32))])) _
              refine XS.ifNo X33.here hx rfl (hb hby at_132) rfl ((if0 _ _).trans (feq (by decide : ¬ ((1 : Int32) = (0 : Int32)))).1) ?_
              show Steps p.tables e below (T33.setTop (mkF m 135 #[.val (.long p1), .second, .val (.long p2), .second, .val (.int p3), .val (.long (pick p1 p2 p3)), .second, .val (.ref b2), .val (.ref b7), .val (.ref b_16), .val (.int (1 : Int32)), .val (.int (1 : Int32)), .val (.int (1 : Int32)), .val (.int (eqU p1 p1)), .val (.int (0 : Int32)), .val (.int (1 : Int32))] [])) _
              refine XS.iload X33.here hx rfl (hb hby at_135) rfl ?_
              show Steps p.tables e below (T33.setTop (mkF m 137 #[.val (.long p1), .second, .val (.long p2), .second, .val (.int p3), .val (.long (pick p1 p2 p3)), .second, .val (.ref b2), .val (.ref b7), .val (.ref b_16), .val (.int (1 : Int32)), .val (.int (1 : Int32)), .val (.int (1 : Int32)), .val (.int (eqU p1 p1)), .val (.int (0 : Int32)), .val (.int (1 : Int32))] [(.int (1 : Int32))])) _
              refine XS.ifNo X33.here hx rfl (hb hby at_137) rfl ((if0 _ _).trans (feq (by decide : ¬ ((1 : Int32) = (0 : Int32)))).1) ?_
              show Steps p.tables e below (T33.setTop (mkF m 140 #[.val (.long p1), .second, .val (.long p2), .second, .val (.int p3), .val (.long (pick p1 p2 p3)), .second, .val (.ref b2), .val (.ref b7), .val (.ref b_16), .val (.int (1 : Int32)), .val (.int (1 : Int32)), .val (.int (1 : Int32)), .val (.int (eqU p1 p1)), .val (.int (0 : Int32)), .val (.int (1 : Int32))] [])) _
              refine XS.iload X33.here hx rfl (hb hby at_140) rfl ?_
              exact kt
            by_cases hc35 : (eqU p1 p1) = (0 : Int32)
            · rw [if_pos hc35] at hf
              refine Go.step (T' := T33) (f' := (mkF m 159 #[.val (.long p1), .second, .val (.long p2), .second, .val (.int p3), .val (.long (pick p1 p2 p3)), .second, .val (.ref b2), .val (.ref b7), .val (.ref b_16), .val (.int (1 : Int32)), .val (.int (1 : Int32)), .val (.int (1 : Int32)), .val (.int (eqU p1 p1)), .val (.int (0 : Int32)), .val (.int (1 : Int32))] [])) (fun t kt => ?_) ?_
              · show Steps p.tables e below (T33.setTop (mkF m 142 #[.val (.long p1), .second, .val (.long p2), .second, .val (.int p3), .val (.long (pick p1 p2 p3)), .second, .val (.ref b2), .val (.ref b7), .val (.ref b_16), .val (.int (1 : Int32)), .val (.int (1 : Int32)), .val (.int (1 : Int32)), .val (.int (eqU p1 p1)), .val (.int (0 : Int32)), .val (.int (1 : Int32))] [(.int (eqU p1 p1))])) _
                refine XS.ifYes X33.here hx rfl (pc0 := 142) (pc' := 159) rfl (hb hby at_142) rfl ((if0 _ _).trans (teq hc35).1) (by decide) (by decide) ?_
                exact kt
              refine Go.step (T' := T33) (f' := (mkF m 160 #[.val (.long p1), .second, .val (.long p2), .second, .val (.int p3), .val (.long (pick p1 p2 p3)), .second, .val (.ref b2), .val (.ref b7), .val (.ref b_16), .val (.int (1 : Int32)), .val (.int (1 : Int32)), .val (.int (1 : Int32)), .val (.int (eqU p1 p1)), .val (.int (0 : Int32)), .val (.int (1 : Int32))] [(.int (0 : Int32))])) (fun t kt => ?_) ?_
              · show Steps p.tables e below (T33.setTop (mkF m 159 #[.val (.long p1), .second, .val (.long p2), .second, .val (.int p3), .val (.long (pick p1 p2 p3)), .second, .val (.ref b2), .val (.ref b7), .val (.ref b_16), .val (.int (1 : Int32)), .val (.int (1 : Int32)), .val (.int (1 : Int32)), .val (.int (eqU p1 p1)), .val (.int (0 : Int32)), .val (.int (1 : Int32))] [])) _
                refine XS.iconst X33.here hx rfl (hb hby at_159) ?_
                exact kt
              refine Go.fin X33 (v := some (.int (0 : Int32))) (fun h => by rw [Bd.returns] at h; cases h) Bd.notSynchronized ?_ (Nat.le_trans (Nat.add_le_add_right (Nat.add_le_add_right (Nat.add_le_add_right (Nat.add_le_add_right (Nat.add_le_add_right (Nat.add_le_add_right (Nat.add_le_add_right (Nat.add_le_add_right (Nat.add_le_add_right (Nat.add_le_add_right (Nat.add_le_add_right (Nat.le_refl 0) 0) 1) 0) 1) 0) 1) 0) 0) 0) 0) 0) (by decide)) (Nat.le_trans (Nat.add_le_add_right (Nat.add_le_add_right (Nat.add_le_add_right (Nat.add_le_add_right (Nat.add_le_add_right (Nat.add_le_add_right (Nat.add_le_add_right (Nat.add_le_add_right (Nat.add_le_add_right (Nat.add_le_add_right (Nat.add_le_add_right (Nat.le_refl 0) 0) 1) 0) 1) 0) 2) 0) 0) 0) 0) 0) (by decide)) (fun fs hr => retN X33 hx (t := .boolean) Bd.returns (by simp) (hb hby at_160) hr)
              · exact ⟨by rw [hf], N33⟩
            · rw [if_neg hc35] at hf
              refine Go.step (T' := T33) (f' := (mkF m 145 #[.val (.long p1), .second, .val (.long p2), .second, .val (.int p3), .val (.long (pick p1 p2 p3)), .second, .val (.ref b2), .val (.ref b7), .val (.ref b_16), .val (.int (1 : Int32)), .val (.int (1 : Int32)), .val (.int (1 : Int32)), .val (.int (eqU p1 p1)), .val (.int (0 : Int32)), .val (.int (1 : Int32))] [])) (fun t kt => ?_) ?_
              · show Steps p.tables e below (T33.setTop (mkF m 142 #[.val (.long p1), .second, .val (.long p2), .second, .val (.int p3), .val (.long (pick p1 p2 p3)), .second, .val (.ref b2), .val (.ref b7), .val (.ref b_16), .val (.int (1 : Int32)), .val (.int (1 : Int32)), .val (.int (1 : Int32)), .val (.int (eqU p1 p1)), .val (.int (0 : Int32)), .val (.int (1 : Int32))] [(.int (eqU p1 p1))])) _
                refine XS.ifNo X33.here hx rfl (hb hby at_142) rfl ((if0 _ _).trans (feq hc35).1) ?_
                exact kt
              refine Go.step (T' := T33) (f' := (mkF m 160 #[.val (.long p1), .second, .val (.long p2), .second, .val (.int p3), .val (.long (pick p1 p2 p3)), .second, .val (.ref b2), .val (.ref b7), .val (.ref b_16), .val (.int (1 : Int32)), .val (.int (1 : Int32)), .val (.int (1 : Int32)), .val (.int (eqU p1 p1)), .val (.int (0 : Int32)), .val (.int (1 : Int32))] [(.int (0 : Int32))])) (fun t kt => ?_) ?_
              · show Steps p.tables e below (T33.setTop (mkF m 145 #[.val (.long p1), .second, .val (.long p2), .second, .val (.int p3), .val (.long (pick p1 p2 p3)), .second, .val (.ref b2), .val (.ref b7), .val (.ref b_16), .val (.int (1 : Int32)), .val (.int (1 : Int32)), .val (.int (1 : Int32)), .val (.int (eqU p1 p1)), .val (.int (0 : Int32)), .val (.int (1 : Int32))] [])) _
                refine XS.iload X33.here hx rfl (hb hby at_145) rfl ?_
                show Steps p.tables e below (T33.setTop (mkF m 147 #[.val (.long p1), .second, .val (.long p2), .second, .val (.int p3), .val (.long (pick p1 p2 p3)), .second, .val (.ref b2), .val (.ref b7), .val (.ref b_16), .val (.int (1 : Int32)), .val (.int (1 : Int32)), .val (.int (1 : Int32)), .val (.int (eqU p1 p1)), .val (.int (0 : Int32)), .val (.int (1 : Int32))] [(.int (0 : Int32))])) _
                refine XS.ifYes X33.here hx rfl (pc0 := 147) (pc' := 159) rfl (hb hby at_147) rfl ((if0 _ _).trans (teq (by decide : ((0 : Int32) = (0 : Int32)))).1) (by decide) (by decide) ?_
                show Steps p.tables e below (T33.setTop (mkF m 159 #[.val (.long p1), .second, .val (.long p2), .second, .val (.int p3), .val (.long (pick p1 p2 p3)), .second, .val (.ref b2), .val (.ref b7), .val (.ref b_16), .val (.int (1 : Int32)), .val (.int (1 : Int32)), .val (.int (1 : Int32)), .val (.int (eqU p1 p1)), .val (.int (0 : Int32)), .val (.int (1 : Int32))] [])) _
                refine XS.iconst X33.here hx rfl (hb hby at_159) ?_
                exact kt
              refine Go.fin X33 (v := some (.int (0 : Int32))) (fun h => by rw [Bd.returns] at h; cases h) Bd.notSynchronized ?_ (Nat.le_trans (Nat.add_le_add_right (Nat.add_le_add_right (Nat.add_le_add_right (Nat.add_le_add_right (Nat.add_le_add_right (Nat.add_le_add_right (Nat.add_le_add_right (Nat.add_le_add_right (Nat.add_le_add_right (Nat.add_le_add_right (Nat.add_le_add_right (Nat.le_refl 0) 0) 1) 0) 1) 0) 1) 0) 0) 0) 0) 0) (by decide)) (Nat.le_trans (Nat.add_le_add_right (Nat.add_le_add_right (Nat.add_le_add_right (Nat.add_le_add_right (Nat.add_le_add_right (Nat.add_le_add_right (Nat.add_le_add_right (Nat.add_le_add_right (Nat.add_le_add_right (Nat.add_le_add_right (Nat.add_le_add_right (Nat.le_refl 0) 0) 1) 0) 1) 0) 2) 0) 0) 0) 0) 0) (by decide)) (fun fs hr => retN X33 hx (t := .boolean) Bd.returns (by simp) (hb hby at_160) hr)
              · exact ⟨by rw [hf], N33⟩
          · rw [if_neg hc34] at hf
            refine Go.step (T' := T33) (f' := (mkF m 127 #[.val (.long p1), .second, .val (.long p2), .second, .val (.int p3), .val (.long (pick p1 p2 p3)), .second, .val (.ref b2), .val (.ref b7), .val (.ref b_16), .val (.int (1 : Int32)), .val (.int (1 : Int32)), .val (.int (1 : Int32)), .val (.int (eqU p1 p1)), .val (.int (0 : Int32)), .unset] [])) (fun t kt => ?_) ?_
            · show Steps p.tables e below (T33.setTop (mkF m 120 #[.val (.long p1), .second, .val (.long p2), .second, .val (.int p3), .val (.long (pick p1 p2 p3)), .second, .val (.ref b2), .val (.ref b7), .val (.ref b_16), .val (.int (1 : Int32)), .val (.int (1 : Int32)), .val (.int (1 : Int32)), .val (.int (eqU p1 p1)), .val (.int (0 : Int32)), .unset] [(.int (eqI ))])) _
              refine XS.ifYes X33.here hx rfl (pc0 := 120) (pc' := 127) rfl (hb hby at_120) rfl ((if0 _ _).trans (feq hc34).2) (by decide) (by decide) ?_
              exact kt
            refine Go.step (T' := T33) (f' := (mkF m 142 #[.val (.long p1), .second, .val (.long p2), .second, .val (.int p3), .val (.long (pick p1 p2 p3)), .second, .val (.ref b2), .val (.ref b7), .val (.ref b_16), .val (.int (1 : Int32)), .val (.int (1 : Int32)), .val (.int (1 : Int32)), .val (.int (eqU p1 p1)), .val (.int (0 : Int32)), .val (.int (0 : Int32))] [(.int (eqU p1 p1))])) (fun t kt => ?_) ?_
            · show Steps p.tables e below (T33.setTop (mkF m 127 #[.val (.long p1), .second, .val (.long p2), .second, .val (.int p3), .val (.long (pick p1 p2 p3)), .second, .val (.ref b2), .val (.ref b7), .val (.ref b_16), .val (.int (1 : Int32)), .val (.int (1 : Int32)), .val (.int (1 : Int32)), .val (.int (eqU p1 p1)), .val (.int (0 : Int32)), .unset] [])) _
              refine XS.iconst X33.here hx rfl (hb hby at_127) ?_
              show Steps p.tables e below (T33.setTop (mkF m 128 #[.val (.long p1), .second, .val (.long p2), .second, .val (.int p3), .val (.long (pick p1 p2 p3)), .second, .val (.ref b2), .val (.ref b7), .val (.ref b_16), .val (.int (1 : Int32)), .val (.int (1 : Int32)), .val (.int (1 : Int32)), .val (.int (eqU p1 p1)), .val (.int (0 : Int32)), .unset] [(.int (0 : Int32))])) _
              refine XS.istore X33.here hx rfl (hb hby at_128) rfl (l' := #[.val (.long p1), .second, .val (.long p2), .second, .val (.int p3), .val (.long (pick p1 p2 p3)), .second, .val (.ref b2), .val (.ref b7), .val (.ref b_16), .val (.int (1 : Int32)), .val (.int (1 : Int32)), .val (.int (1 : Int32)), .val (.int (eqU p1 p1)), .val (.int (0 : Int32)), .val (.int (0 : Int32))]) rfl ?_
              show Steps p.tables e below (T33.setTop (mkF m 130 #[.val (.long p1), .second, .val (.long p2), .second, .val (.int p3), .val (.long (pick p1 p2 p3)), .second, .val (.ref b2), .val (.ref b7), .val (.ref b_16), .val (.int (1 : Int32)), .val (.int (1 : Int32)), .val (.int (1 : Int32)), .val (.int (eqU p1 p1)), .val (.int (0 : Int32)), .val (.int (0 : Int32))] [])) _
              refine XS.iload X33.here hx rfl (hb hby at_130) rfl ?_
              show Steps p.tables e below (T33.setTop (mkF m 132 #[.val (.long p1), .second, .val (.long p2), .second, .val (.int p3), .val (.long (pick p1 p2 p3)), .second, .val (.ref b2), .val (.ref b7), .val (.ref b_16), .val (.int (1 : Int32)), .val (.int (1 : Int32)), .val (.int (1 : Int32)), .val (.int (eqU p1 p1)), .val (.int (0 : Int32)), .val (.int (0 : Int32))] [(.int (1 : Int32))])) _
              refine XS.ifNo X33.here hx rfl (hb hby at_132) rfl ((if0 _ _).trans (feq (by decide : ¬ ((1 : Int32) = (0 : Int32)))).1) ?_
              show Steps p.tables e below (T33.setTop (mkF m 135 #[.val (.long p1), .second, .val (.long p2), .second, .val (.int p3), .val (.long (pick p1 p2 p3)), .second, .val (.ref b2), .val (.ref b7), .val (.ref b_16), .val (.int (1 : Int32)), .val (.int (1 : Int32)), .val (.int (1 : Int32)), .val (.int (eqU p1 p1)), .val (.int (0 : Int32)), .val (.int (0 : Int32))] [])) _
              refine XS.iload X33.here hx rfl (hb hby at_135) rfl ?_
              show Steps p.tables e below (T33.setTop (mkF m 137 #[.val (.long p1), .second, .val (.long p2), .second, .val (.int p3), .val (.long (pick p1 p2 p3)), .second, .val (.ref b2), .val (.ref b7), .val (.ref b_16), .val (.int (1 : Int32)), .val (.int (1 : Int32)), .val (.int (1 : Int32)), .val (.int (eqU p1 p1)), .val (.int (0 : Int32)), .val (.int (0 : Int32))] [(.int (1 : Int32))])) _
              refine XS.ifNo X33.here hx rfl (hb hby at_137) rfl ((if0 _ _).trans (feq (by decide : ¬ ((1 : Int32) = (0 : Int32)))).1) ?_
              show Steps p.tables e below (T33.setTop (mkF m 140 #[.val (.long p1), .second, .val (.long p2), .second, .val (.int p3), .val (.long (pick p1 p2 p3)), .second, .val (.ref b2), .val (.ref b7), .val (.ref b_16), .val (.int (1 : Int32)), .val (.int (1 : Int32)), .val (.int (1 : Int32)), .val (.int (eqU p1 p1)), .val (.int (0 : Int32)), .val (.int (0 : Int32))] [])) _
              refine XS.iload X33.here hx rfl (hb hby at_140) rfl ?_
              exact kt
            by_cases hc36 : (eqU p1 p1) = (0 : Int32)
            · rw [if_pos hc36] at hf
              refine Go.step (T' := T33) (f' := (mkF m 159 #[.val (.long p1), .second, .val (.long p2), .second, .val (.int p3), .val (.long (pick p1 p2 p3)), .second, .val (.ref b2), .val (.ref b7), .val (.ref b_16), .val (.int (1 : Int32)), .val (.int (1 : Int32)), .val (.int (1 : Int32)), .val (.int (eqU p1 p1)), .val (.int (0 : Int32)), .val (.int (0 : Int32))] [])) (fun t kt => ?_) ?_
              · show Steps p.tables e below (T33.setTop (mkF m 142 #[.val (.long p1), .second, .val (.long p2), .second, .val (.int p3), .val (.long (pick p1 p2 p3)), .second, .val (.ref b2), .val (.ref b7), .val (.ref b_16), .val (.int (1 : Int32)), .val (.int (1 : Int32)), .val (.int (1 : Int32)), .val (.int (eqU p1 p1)), .val (.int (0 : Int32)), .val (.int (0 : Int32))] [(.int (eqU p1 p1))])) _
                refine XS.ifYes X33.here hx rfl (pc0 := 142) (pc' := 159) rfl (hb hby at_142) rfl ((if0 _ _).trans (teq hc36).1) (by decide) (by decide) ?_
                exact kt
              refine Go.step (T' := T33) (f' := (mkF m 160 #[.val (.long p1), .second, .val (.long p2), .second, .val (.int p3), .val (.long (pick p1 p2 p3)), .second, .val (.ref b2), .val (.ref b7), .val (.ref b_16), .val (.int (1 : Int32)), .val (.int (1 : Int32)), .val (.int (1 : Int32)), .val (.int (eqU p1 p1)), .val (.int (0 : Int32)), .val (.int (0 : Int32))] [(.int (0 : Int32))])) (fun t kt => ?_) ?_
              · show Steps p.tables e below (T33.setTop (mkF m 159 #[.val (.long p1), .second, .val (.long p2), .second, .val (.int p3), .val (.long (pick p1 p2 p3)), .second, .val (.ref b2), .val (.ref b7), .val (.ref b_16), .val (.int (1 : Int32)), .val (.int (1 : Int32)), .val (.int (1 : Int32)), .val (.int (eqU p1 p1)), .val (.int (0 : Int32)), .val (.int (0 : Int32))] [])) _
                refine XS.iconst X33.here hx rfl (hb hby at_159) ?_
                exact kt
              refine Go.fin X33 (v := some (.int (0 : Int32))) (fun h => by rw [Bd.returns] at h; cases h) Bd.notSynchronized ?_ (Nat.le_trans (Nat.add_le_add_right (Nat.add_le_add_right (Nat.add_le_add_right (Nat.add_le_add_right (Nat.add_le_add_right (Nat.add_le_add_right (Nat.add_le_add_right (Nat.add_le_add_right (Nat.add_le_add_right (Nat.add_le_add_right (Nat.add_le_add_right (Nat.le_refl 0) 0) 1) 0) 1) 0) 1) 0) 0) 0) 0) 0) (by decide)) (Nat.le_trans (Nat.add_le_add_right (Nat.add_le_add_right (Nat.add_le_add_right (Nat.add_le_add_right (Nat.add_le_add_right (Nat.add_le_add_right (Nat.add_le_add_right (Nat.add_le_add_right (Nat.add_le_add_right (Nat.add_le_add_right (Nat.add_le_add_right (Nat.le_refl 0) 0) 1) 0) 1) 0) 2) 0) 0) 0) 0) 0) (by decide)) (fun fs hr => retN X33 hx (t := .boolean) Bd.returns (by simp) (hb hby at_160) hr)
              · exact ⟨by rw [hf], N33⟩
            · rw [if_neg hc36] at hf
              refine Go.step (T' := T33) (f' := (mkF m 145 #[.val (.long p1), .second, .val (.long p2), .second, .val (.int p3), .val (.long (pick p1 p2 p3)), .second, .val (.ref b2), .val (.ref b7), .val (.ref b_16), .val (.int (1 : Int32)), .val (.int (1 : Int32)), .val (.int (1 : Int32)), .val (.int (eqU p1 p1)), .val (.int (0 : Int32)), .val (.int (0 : Int32))] [])) (fun t kt => ?_) ?_
              · show Steps p.tables e below (T33.setTop (mkF m 142 #[.val (.long p1), .second, .val (.long p2), .second, .val (.int p3), .val (.long (pick p1 p2 p3)), .second, .val (.ref b2), .val (.ref b7), .val (.ref b_16), .val (.int (1 : Int32)), .val (.int (1 : Int32)), .val (.int (1 : Int32)), .val (.int (eqU p1 p1)), .val (.int (0 : Int32)), .val (.int (0 : Int32))] [(.int (eqU p1 p1))])) _
                refine XS.ifNo X33.here hx rfl (hb hby at_142) rfl ((if0 _ _).trans (feq hc36).1) ?_
                exact kt
              refine Go.step (T' := T33) (f' := (mkF m 160 #[.val (.long p1), .second, .val (.long p2), .second, .val (.int p3), .val (.long (pick p1 p2 p3)), .second, .val (.ref b2), .val (.ref b7), .val (.ref b_16), .val (.int (1 : Int32)), .val (.int (1 : Int32)), .val (.int (1 : Int32)), .val (.int (eqU p1 p1)), .val (.int (0 : Int32)), .val (.int (0 : Int32))] [(.int (0 : Int32))])) (fun t kt => ?_) ?_
              · show Steps p.tables e below (T33.setTop (mkF m 145 #[.val (.long p1), .second, .val (.long p2), .second, .val (.int p3), .val (.long (pick p1 p2 p3)), .second, .val (.ref b2), .val (.ref b7), .val (.ref b_16), .val (.int (1 : Int32)), .val (.int (1 : Int32)), .val (.int (1 : Int32)), .val (.int (eqU p1 p1)), .val (.int (0 : Int32)), .val (.int (0 : Int32))] [])) _
                refine XS.iload X33.here hx rfl (hb hby at_145) rfl ?_
                show Steps p.tables e below (T33.setTop (mkF m 147 #[.val (.long p1), .second, .val (.long p2), .second, .val (.int p3), .val (.long (pick p1 p2 p3)), .second, .val (.ref b2), .val (.ref b7), .val (.ref b_16), .val (.int (1 : Int32)), .val (.int (1 : Int32)), .val (.int (1 : Int32)), .val (.int (eqU p1 p1)), .val (.int (0 : Int32)), .val (.int (0 : Int32))] [(.int (0 : Int32))])) _
                refine XS.ifYes X33.here hx rfl (pc0 := 147) (pc' := 159) rfl (hb hby at_147) rfl ((if0 _ _).trans (teq (by decide : ((0 : Int32) = (0 : Int32)))).1) (by decide) (by decide) ?_
                show Steps p.tables e below (T33.setTop (mkF m 159 #[.val (.long p1), .second, .val (.long p2), .second, .val (.int p3), .val (.long (pick p1 p2 p3)), .second, .val (.ref b2), .val (.ref b7), .val (.ref b_16), .val (.int (1 : Int32)), .val (.int (1 : Int32)), .val (.int (1 : Int32)), .val (.int (eqU p1 p1)), .val (.int (0 : Int32)), .val (.int (0 : Int32))] [])) _
                refine XS.iconst X33.here hx rfl (hb hby at_159) ?_
                exact kt
              refine Go.fin X33 (v := some (.int (0 : Int32))) (fun h => by rw [Bd.returns] at h; cases h) Bd.notSynchronized ?_ (Nat.le_trans (Nat.add_le_add_right (Nat.add_le_add_right (Nat.add_le_add_right (Nat.add_le_add_right (Nat.add_le_add_right (Nat.add_le_add_right (Nat.add_le_add_right (Nat.add_le_add_right (Nat.add_le_add_right (Nat.add_le_add_right (Nat.add_le_add_right (Nat.le_refl 0) 0) 1) 0) 1) 0) 1) 0) 0) 0) 0) 0) (by decide)) (Nat.le_trans (Nat.add_le_add_right (Nat.add_le_add_right (Nat.add_le_add_right (Nat.add_le_add_right (Nat.add_le_add_right (Nat.add_le_add_right (Nat.add_le_add_right (Nat.add_le_add_right (Nat.add_le_add_right (Nat.add_le_add_right (Nat.add_le_add_right (Nat.le_refl 0) 0) 1) 0) 1) 0) 2) 0) 0) 0) 0) 0) (by decide)) (fun fs hr => retN X33 hx (t := .boolean) Bd.returns (by simp) (hb hby at_160) hr)
              · exact ⟨by rw [hf], N33⟩
      · rw [if_neg hc25] at hf
        refine Go.step (T' := T24) (f' := (mkF m 85 #[.val (.long p1), .second, .val (.long p2), .second, .val (.int p3), .val (.long (pick p1 p2 p3)), .second, .val (.ref b2), .val (.ref b7), .val (.ref b_16), .val (.int (1 : Int32)), .val (.int (1 : Int32)), .unset, .unset, .unset, .unset] [])) (fun t kt => ?_) ?_
        · show Steps p.tables e below (T24.setTop (mkF m 78 #[.val (.long p1), .second, .val (.long p2), .second, .val (.int p3), .val (.long (pick p1 p2 p3)), .second, .val (.ref b2), .val (.ref b7), .val (.ref b_16), .val (.int (1 : Int32)), .val (.int (1 : Int32)), .unset, .unset, .unset, .unset] [(.int (1 : Int32)), (.int (eqU (pick p1 p2 p3) p1))])) _
          refine XS.icmpYes X24.here hx rfl (pc0 := 78) (pc' := 85) rfl (hb hby at_78) rfl (feq hc25).2 (by decide) (by decide) ?_
          exact kt
        obtain ⟨cq37, kq37, q37a, q37b, q37c⟩ := isOf hZ e24 (G17 : Exa Z T16.heap b2 "com/example/plumbline/plumbline/model/PlistUid")
        obtain ⟨_, _, ⟨T37, L37, k37, n37⟩, -, X37, ⟨Lc37, hQ37, l37, y37, z37⟩, st37⟩ := X24.virtualBack hx (y := (⟨"com/example/plumbline/plumbline/model/PlistUid", "equals", "(Ljava/lang/Object;)Z"⟩ : MethodName)) (z := (⟨"com/example/plumbline/plumbline/model/PlistUid", "equals", "(Ljava/lang/Object;)Z"⟩ : MethodName)) hown (mvT hZ (hw _ (List.mem_of_getElem? (i := 29) rfl))) (mvT hZ (hw _ (List.mem_of_getElem? (i := 30) rfl))) (notFace_of_selects (args := #[]) (mvT hZ (hw _ (List.mem_of_getElem? (i := 32) rfl)))) (mvT hZ (hw _ (List.mem_of_getElem? (i := 32) rfl))) (mvT hZ (hw _ (List.mem_of_getElem? (i := 31) rfl))) (by decide) (backOf (W := 0) (rm_eqU l Z a0 hw [] b2 b2 p1 p1 T16.heap n0 Z16 G17 G18 G18 ) hZ (hw _ (List.mem_of_getElem? (i := 33) rfl)) (hw _ (List.mem_of_getElem? (i := 6) rfl)) (by decide) (by decide)) q37a q37c (g := (mkF m 92 #[.val (.long p1), .second, .val (.long p2), .second, .val (.int p3), .val (.long (pick p1 p2 p3)), .second, .val (.ref b2), .val (.ref b7), .val (.ref b_16), .val (.int (1 : Int32)), .val (.int (1 : Int32)), .val (.int (0 : Int32)), .unset, .unset, .unset] [(.ref b2), (.ref b2)])) rfl (by rw [hml]; rfl) (Steps.refl _) (argsL := [(.ref b2)]) (rest := []) (lenOf pd_4 rfl) rfl (by show 2 * 0 + _ ≤ _; exact Nat.le_of_eq rfl) (hb hby at_92) (fun _ _ => ⟨rfl, e24, (Nat.le_trans (Nat.add_le_add_right (Nat.add_le_add_right (Nat.add_le_add_right (Nat.add_le_add_right (Nat.add_le_add_right (Nat.add_le_add_right (Nat.add_le_add_right (Nat.add_le_add_right (Nat.add_le_add_right (Nat.le_refl 0) 0) 1) 0) 1) 0) 1) 0) 0) 0) (by decide)), (Nat.le_trans (Nat.add_le_add_right (Nat.add_le_add_right (Nat.add_le_add_right (Nat.add_le_add_right (Nat.add_le_add_right (Nat.add_le_add_right (Nat.add_le_add_right (Nat.add_le_add_right (Nat.add_le_add_right (Nat.le_refl 0) 0) 1) 0) 1) 0) 2) 0) 0) 0) (by decide))⟩)
        dsimp only [Pt.U, Pt.locs, Pt.cells, Pt.slots] at X37 l37 y37 z37 st37 hQ37
        subst l37 y37 z37
        obtain ⟨rfl, N37q, e37⟩ := hQ37
        have N37 := Fr.app N24 N37q
        obtain ⟨cq38, kq38, q38a, q38b, q38c⟩ := isOf hZ e37 (G17 : Exa Z T16.heap b2 "com/example/plumbline/plumbline/model/PlistUid")
        obtain ⟨_, _, ⟨T38, L38, k38, n38⟩, -, X38, ⟨Lc38, hQ38, l38, y38, z38⟩, st38⟩ := X37.virtualBack hx (y := (⟨"com/example/plumbline/plumbline/model/PlistUid", "equals", "(Ljava/lang/Object;)Z"⟩ : MethodName)) (z := (⟨"com/example/plumbline/plumbline/model/PlistUid", "equals", "(Ljava/lang/Object;)Z"⟩ : MethodName)) hown (mvT hZ (hw _ (List.mem_of_getElem? (i := 29) rfl))) (mvT hZ (hw _ (List.mem_of_getElem? (i := 30) rfl))) (notFace_of_selects (args := #[]) (mvT hZ (hw _ (List.mem_of_getElem? (i := 32) rfl)))) (mvT hZ (hw _ (List.mem_of_getElem? (i := 32) rfl))) (mvT hZ (hw _ (List.mem_of_getElem? (i := 31) rfl))) (by decide) (backOf (W := 0) (rm_eqN l Z a0 hw [] b2  T16.heap n0 Z16  ) hZ (hw _ (List.mem_of_getElem? (i := 33) rfl)) (hw _ (List.mem_of_getElem? (i := 6) rfl)) (by decide) (by decide)) q38a q38c (g := (mkF m 100 #[.val (.long p1), .second, .val (.long p2), .second, .val (.int p3), .val (.long (pick p1 p2 p3)), .second, .val (.ref b2), .val (.ref b7), .val (.ref b_16), .val (.int (1 : Int32)), .val (.int (1 : Int32)), .val (.int (0 : Int32)), .val (.int (eqU p1 p1)), .unset, .unset] [.null, (.ref b2)])) rfl (by rw [hml]; rfl) (Steps.refl _) (argsL := [.null]) (rest := []) (lenOf pd_4 rfl) rfl (by show 2 * 0 + _ ≤ _; exact Nat.le_of_eq rfl) (hb hby at_100) (fun _ _ => ⟨rfl, e37, (Nat.le_trans (Nat.add_le_add_right (Nat.add_le_add_right (Nat.add_le_add_right (Nat.add_le_add_right (Nat.add_le_add_right (Nat.add_le_add_right (Nat.add_le_add_right (Nat.add_le_add_right (Nat.add_le_add_right (Nat.add_le_add_right (Nat.le_refl 0) 0) 1) 0) 1) 0) 1) 0) 0) 0) 0) (by decide)), (Nat.le_trans (Nat.add_le_add_right (Nat.add_le_add_right (Nat.add_le_add_right (Nat.add_le_add_right (Nat.add_le_add_right (Nat.add_le_add_right (Nat.add_le_add_right (Nat.add_le_add_right (Nat.add_le_add_right (Nat.add_le_add_right (Nat.le_refl 0) 0) 1) 0) 1) 0) 2) 0) 0) 0) 0) (by decide))⟩)
        dsimp only [Pt.U, Pt.locs, Pt.cells, Pt.slots] at X38 l38 y38 z38 st38 hQ38
        subst l38 y38 z38
        obtain ⟨rfl, N38q, e38⟩ := hQ38
        have N38 := Fr.app N37 N38q
        refine Go.step (T' := T38) (f' := (mkF m 103 #[.val (.long p1), .second, .val (.long p2), .second, .val (.int p3), .val (.long (pick p1 p2 p3)), .second, .val (.ref b2), .val (.ref b7), .val (.ref b_16), .val (.int (1 : Int32)), .val (.int (1 : Int32)), .val (.int (0 : Int32)), .val (.int (eqU p1 p1)), .unset, .unset] [(.int (eqN ))])) (fun t kt => ?_) ?_
        · show Steps p.tables e below (T24.setTop (mkF m 85 #[.val (.long p1), .second, .val (.long p2), .second, .val (.int p3), .val (.long (pick p1 p2 p3)), .second, .val (.ref b2), .val (.ref b7), .val (.ref b_16), .val (.int (1 : Int32)), .val (.int (1 : Int32)), .unset, .unset, .unset, .unset] [])) _
          refine XS.iconst X24.here hx rfl (hb hby at_85) ?_
          show Steps p.tables e below (T24.setTop (mkF m 86 #[.val (.long p1), .second, .val (.long p2), .second, .val (.int p3), .val (.long (pick p1 p2 p3)), .second, .val (.ref b2), .val (.ref b7), .val (.ref b_16), .val (.int (1 : Int32)), .val (.int (1 : Int32)), .unset, .unset, .unset, .unset] [(.int (0 : Int32))])) _
          refine XS.istore X24.here hx rfl (hb hby at_86) rfl (l' := #[.val (.long p1), .second, .val (.long p2), .second, .val (.int p3), .val (.long (pick p1 p2 p3)), .second, .val (.ref b2), .val (.ref b7), .val (.ref b_16), .val (.int (1 : Int32)), .val (.int (1 : Int32)), .val (.int (0 : Int32)), .unset, .unset, .unset]) rfl ?_
          show Steps p.tables e below (T24.setTop (mkF m 88 #[.val (.long p1), .second, .val (.long p2), .second, .val (.int p3), .val (.long (pick p1 p2 p3)), .second, .val (.ref b2), .val (.ref b7), .val (.ref b_16), .val (.int (1 : Int32)), .val (.int (1 : Int32)), .val (.int (0 : Int32)), .unset, .unset, .unset] [])) _
          refine XS.aload X24.here hx rfl (hb hby at_88) rfl rfl ?_
          show Steps p.tables e below (T24.setTop (mkF m 90 #[.val (.long p1), .second, .val (.long p2), .second, .val (.int p3), .val (.long (pick p1 p2 p3)), .second, .val (.ref b2), .val (.ref b7), .val (.ref b_16), .val (.int (1 : Int32)), .val (.int (1 : Int32)), .val (.int (0 : Int32)), .unset, .unset, .unset] [(.ref b2)])) _
          refine XS.aload X24.here hx rfl (hb hby at_90) rfl rfl ?_
          show Steps p.tables e below (T24.setTop (mkF m 92 #[.val (.long p1), .second, .val (.long p2), .second, .val (.int p3), .val (.long (pick p1 p2 p3)), .second, .val (.ref b2), .val (.ref b7), .val (.ref b_16), .val (.int (1 : Int32)), .val (.int (1 : Int32)), .val (.int (0 : Int32)), .unset, .unset, .unset] [(.ref b2), (.ref b2)])) _
          refine st37.trans ?_
          show Steps p.tables e below (T37.setTop (mkF m 95 #[.val (.long p1), .second, .val (.long p2), .second, .val (.int p3), .val (.long (pick p1 p2 p3)), .second, .val (.ref b2), .val (.ref b7), .val (.ref b_16), .val (.int (1 : Int32)), .val (.int (1 : Int32)), .val (.int (0 : Int32)), .unset, .unset, .unset] [(.int (eqU p1 p1))])) _
          refine XS.istore X37.here hx rfl (hb hby at_95) rfl (l' := #[.val (.long p1), .second, .val (.long p2), .second, .val (.int p3), .val (.long (pick p1 p2 p3)), .second, .val (.ref b2), .val (.ref b7), .val (.ref b_16), .val (.int (1 : Int32)), .val (.int (1 : Int32)), .val (.int (0 : Int32)), .val (.int (eqU p1 p1)), .unset, .unset]) rfl ?_
          show Steps p.tables e below (T37.setTop (mkF m 97 #[.val (.long p1), .second, .val (.long p2), .second, .val (.int p3), .val (.long (pick p1 p2 p3)), .second, .val (.ref b2), .val (.ref b7), .val (.ref b_16), .val (.int (1 : Int32)), .val (.int (1 : Int32)), .val (.int (0 : Int32)), .val (.int (eqU p1 p1)), .unset, .unset] [])) _
          refine XS.aload X37.here hx rfl (hb hby at_97) rfl rfl ?_
          show Steps p.tables e below (T37.setTop (mkF m 99 #[.val (.long p1), .second, .val (.long p2), .second, .val (.int p3), .val (.long (pick p1 p2 p3)), .second, .val (.ref b2), .val (.ref b7), .val (.ref b_16), .val (.int (1 : Int32)), .val (.int (1 : Int32)), .val (.int (0 : Int32)), .val (.int (eqU p1 p1)), .unset, .unset] [(.ref b2)])) _
          refine XS.aconstNull X37.here hx rfl (hb hby at_99) ?_
          show Steps p.tables e below (T37.setTop (mkF m 100 #[.val (.long p1), .second, .val (.long p2), .second, .val (.int p3), .val (.long (pick p1 p2 p3)), .second, .val (.ref b2), .val (.ref b7), .val (.ref b_16), .val (.int (1 : Int32)), .val (.int (1 : Int32)), .val (.int (0 : Int32)), .val (.int (eqU p1 p1)), .unset, .unset] [.null, (.ref b2)])) _
          refine st38.trans ?_
          exact kt
        by_cases hc39 : (eqN ) = (0 : Int32)
        · rw [if_pos hc39] at hf
          refine Go.step (T' := T38) (f' := (mkF m 106 #[.val (.long p1), .second, .val (.long p2), .second, .val (.int p3), .val (.long (pick p1 p2 p3)), .second, .val (.ref b2), .val (.ref b7), .val (.ref b_16), .val (.int (1 : Int32)), .val (.int (1 : Int32)), .val (.int (0 : Int32)), .val (.int (eqU p1 p1)), .unset, .unset] [])) (fun t kt => ?_) ?_
          · show Steps p.tables e below (T38.setTop (mkF m 103 #[.val (.long p1), .second, .val (.long p2), .second, .val (.int p3), .val (.long (pick p1 p2 p3)), .second, .val (.ref b2), .val (.ref b7), .val (.ref b_16), .val (.int (1 : Int32)), .val (.int (1 : Int32)), .val (.int (0 : Int32)), .val (.int (eqU p1 p1)), .unset, .unset] [(.int (eqN ))])) _
            refine XS.ifNo X38.here hx rfl (hb hby at_103) rfl ((if0 _ _).trans (teq hc39).2) ?_
            exact kt
          obtain ⟨cq40, kq40, q40a, q40b, q40c⟩ := isOf hZ e38 (G17 : Exa Z T16.heap b2 "com/example/plumbline/plumbline/model/PlistUid")
          obtain ⟨_, _, ⟨T40, L40, k40, n40⟩, -, X40, ⟨Lc40, hQ40, l40, y40, z40⟩, st40⟩ := X38.virtualBack hx (y := (⟨"com/example/plumbline/plumbline/model/PlistUid", "equals", "(Ljava/lang/Object;)Z"⟩ : MethodName)) (z := (⟨"com/example/plumbline/plumbline/model/PlistUid", "equals", "(Ljava/lang/Object;)Z"⟩ : MethodName)) hown (mvT hZ (hw _ (List.mem_of_getElem? (i := 29) rfl))) (mvT hZ (hw _ (List.mem_of_getElem? (i := 30) rfl))) (notFace_of_selects (args := #[]) (mvT hZ (hw _ (List.mem_of_getElem? (i := 32) rfl)))) (mvT hZ (hw _ (List.mem_of_getElem? (i := 32) rfl))) (mvT hZ (hw _ (List.mem_of_getElem? (i := 31) rfl))) (by decide) (backOf (W := 0) (rm_eqI l Z a0 hw [] b2 b_16  T16.heap n0 Z16 pf16_0 ) hZ (hw _ (List.mem_of_getElem? (i := 33) rfl)) (hw _ (List.mem_of_getElem? (i := 6) rfl)) (by decide) (by decide)) q40a q40c (g := (mkF m 117 #[.val (.long p1), .second, .val (.long p2), .second, .val (.int p3), .val (.long (pick p1 p2 p3)), .second, .val (.ref b2), .val (.ref b7), .val (.ref b_16), .val (.int (1 : Int32)), .val (.int (1 : Int32)), .val (.int (0 : Int32)), .val (.int (eqU p1 p1)), .val (.int (1 : Int32)), .unset] [(.ref b_16), (.ref b2)])) rfl (by rw [hml]; rfl) (Steps.refl _) (argsL := [(.ref b_16)]) (rest := []) (lenOf pd_4 rfl) rfl (by show 2 * 0 + _ ≤ _; exact Nat.le_of_eq rfl) (hb hby at_117) (fun _ _ => ⟨rfl, e38, (Nat.le_trans (Nat.add_le_add_right (Nat.add_le_add_right (Nat.add_le_add_right (Nat.add_le_add_right (Nat.add_le_add_right (Nat.add_le_add_right (Nat.add_le_add_right (Nat.add_le_add_right (Nat.add_le_add_right (Nat.add_le_add_right (Nat.add_le_add_right (Nat.le_refl 0) 0) 1) 0) 1) 0) 1) 0) 0) 0) 0) 0) (by decide)), (Nat.le_trans (Nat.add_le_add_right (Nat.add_le_add_right (Nat.add_le_add_right (Nat.add_le_add_right (Nat.add_le_add_right (Nat.add_le_add_right (Nat.add_le_add_right (Nat.add_le_add_right (Nat.add_le_add_right (Nat.add_le_add_right (Nat.add_le_add_right (Nat.le_refl 0) 0) 1) 0) 1) 0) 2) 0) 0) 0) 0) 0) (by decide))⟩)
          dsimp only [Pt.U, Pt.locs, Pt.cells, Pt.slots] at X40 l40 y40 z40 st40 hQ40
          subst l40 y40 z40
          obtain ⟨rfl, N40q, e40⟩ := hQ40
          have N40 := Fr.app N38 N40q
          refine Go.step (T' := T40) (f' := (mkF m 120 #[.val (.long p1), .second, .val (.long p2), .second, .val (.int p3), .val (.long (pick p1 p2 p3)), .second, .val (.ref b2), .val (.ref b7), .val (.ref b_16), .val (.int (1 : Int32)), .val (.int (1 : Int32)), .val (.int (0 : Int32)), .val (.int (eqU p1 p1)), .val (.int (1 : Int32)), .unset] [(.int (eqI ))])) (fun t kt => ?_) ?_
          · show Steps p.tables e below (T38.setTop (mkF m 106 #[.val (.long p1), .second, .val (.long p2), .second, .val (.int p3), .val (.long (pick p1 p2 p3)), .second, .val (.ref b2), .val (.ref b7), .val (.ref b_16), .val (.int (1 : Int32)), .val (.int (1 : Int32)), .val (.int (0 : Int32)), .val (.int (eqU p1 p1)), .unset, .unset] [])) _
            refine XS.iconst X38.here hx rfl (hb hby at_106) ?_
            show Steps p.tables e below (T38.setTop (mkF m 107 #[.val (.long p1), .second, .val (.long p2), .second, .val (.int p3), .val (.long (pick p1 p2 p3)), .second, .val (.ref b2), .val (.ref b7), .val (.ref b_16), .val (.int (1 : Int32)), .val (.int (1 : Int32)), .val (.int (0 : Int32)), .val (.int (eqU p1 p1)), .unset, .unset] [(.int (1 : Int32))])) _
            refine XS.goto X38.here hx rfl (pc0 := 107) (pc' := 111) rfl (hb hby at_107) (by decide) (by decide) ?_
            show Steps p.tables e below (T38.setTop (mkF m 111 #[.val (.long p1), .second, .val (.long p2), .second, .val (.int p3), .val (.long (pick p1 p2 p3)), .second, .val (.ref b2), .val (.ref b7), .val (.ref b_16), .val (.int (1 : Int32)), .val (.int (1 : Int32)), .val (.int (0 : Int32)), .val (.int (eqU p1 p1)), .unset, .unset] [(.int (1 : Int32))])) _
            refine XS.istore X38.here hx rfl (hb hby at_111) rfl (l' := #[.val (.long p1), .second, .val (.long p2), .second, .val (.int p3), .val (.long (pick p1 p2 p3)), .second, .val (.ref b2), .val (.ref b7), .val (.ref b_16), .val (.int (1 : Int32)), .val (.int (1 : Int32)), .val (.int (0 : Int32)), .val (.int (eqU p1 p1)), .val (.int (1 : Int32)), .unset]) rfl ?_
            show Steps p.tables e below (T38.setTop (mkF m 113 #[.val (.long p1), .second, .val (.long p2), .second, .val (.int p3), .val (.long (pick p1 p2 p3)), .second, .val (.ref b2), .val (.ref b7), .val (.ref b_16), .val (.int (1 : Int32)), .val (.int (1 : Int32)), .val (.int (0 : Int32)), .val (.int (eqU p1 p1)), .val (.int (1 : Int32)), .unset] [])) _
            refine XS.aload X38.here hx rfl (hb hby at_113) rfl rfl ?_
            show Steps p.tables e below (T38.setTop (mkF m 115 #[.val (.long p1), .second, .val (.long p2), .second, .val (.int p3), .val (.long (pick p1 p2 p3)), .second, .val (.ref b2), .val (.ref b7), .val (.ref b_16), .val (.int (1 : Int32)), .val (.int (1 : Int32)), .val (.int (0 : Int32)), .val (.int (eqU p1 p1)), .val (.int (1 : Int32)), .unset] [(.ref b2)])) _
            refine XS.aload X38.here hx rfl (hb hby at_115) rfl rfl ?_
            show Steps p.tables e below (T38.setTop (mkF m 117 #[.val (.long p1), .second, .val (.long p2), .second, .val (.int p3), .val (.long (pick p1 p2 p3)), .second, .val (.ref b2), .val (.ref b7), .val (.ref b_16), .val (.int (1 : Int32)), .val (.int (1 : Int32)), .val (.int (0 : Int32)), .val (.int (eqU p1 p1)), .val (.int (1 : Int32)), .unset] [(.ref b_16), (.ref b2)])) _
            refine st40.trans ?_
            exact kt
          by_cases hc41 : (eqI ) = (0 : Int32)
          · rw [if_pos hc41] at hf
            refine Go.step (T' := T40) (f' := (mkF m 123 #[.val (.long p1), .second, .val (.long p2), .second, .val (.int p3), .val (.long (pick p1 p2 p3)), .second, .val (.ref b2), .val (.ref b7), .val (.ref b_16), .val (.int (1 : Int32)), .val (.int (1 : Int32)), .val (.int (0 : Int32)), .val (.int (eqU p1 p1)), .val (.int (1 : Int32)), .unset] [])) (fun t kt => ?_) ?_
            · show Steps p.tables e below (T40.setTop (mkF m 120 #[.val (.long p1), .second, .val (.long p2), .second, .val (.int p3), .val (.long (pick p1 p2 p3)), .second, .val (.ref b2), .val (.ref b7), .val (.ref b_16), .val (.int (1 : Int32)), .val (.int (1 : Int32)), .val (.int (0 : Int32)), .val (.int (eqU p1 p1)), .val (.int (1 : Int32)), .unset] [(.int (eqI ))])) _
              refine XS.ifNo X40.here hx rfl (hb hby at_120) rfl ((if0 _ _).trans (teq hc41).2) ?_
              exact kt
            refine Go.step (T' := T40) (f' := (mkF m 160 #[.val (.long p1), .second, .val (.long p2), .second, .val (.int p3), .val (.long (pick p1 p2 p3)), .second, .val (.ref b2), .val (.ref b7), .val (.ref b_16), .val (.int (1 : Int32)), .val (.int (1 : Int32)), .val (.int (0 : Int32)), .val (.int (eqU p1 p1)), .val (.int (1 : Int32)), .val (.int (1 : Int32))] [(.int (0 : Int32))])) (fun t kt => ?_) ?_
            · show Steps p.tables e below (T40.setTop (mkF m 123 #[.val (.long p1), .second, .val (.long p2), .second, .val (.int p3), .val (.long (pick p1 p2 p3)), .second, .val (.ref b2), .val (.ref b7), .val (.ref b_16), .val (.int (1 : Int32)), .val (.int (1 : Int32)), .val (.int (0 : Int32)), .val (.int (eqU p1 p1)), .val (.int (1 : Int32)), .unset] [])) _
              refine XS.iconst X40.here hx rfl (hb hby at_123) ?_
              show Steps p.tables e below (T40.setTop (mkF m 124 #[.val (.long p1), .second, .val (.long p2), .second, .val (.int p3), .val (.long (pick p1 p2 p3)), .second, .val (.ref b2), .val (.ref b7), .val (.ref b_16), .val (.int (1 : Int32)), .val (.int (1 : Int32)), .val (.int (0 : Int32)), .val (.int (eqU p1 p1)), .val (.int (1 : Int32)), .unset] [(.int (1 : Int32))])) _
              refine XS.goto X40.here hx rfl (pc0 := 124) (pc' := 128) rfl (hb hby at_124) (by decide) (by decide) ?_
              show Steps p.tables e below (T40.setTop (mkF m 128 #[.val (.long p1), .second, .val (.long p2), .second, .val (.int p3), .val (.long (pick p1 p2 p3)), .second, .val (.ref b2), .val (.ref b7), .val (.ref b_16), .val (.int (1 : Int32)), .val (.int (1 : Int32)), .val (.int (0 : Int32)), .val (.int (eqU p1 p1)), .val (.int (1 : Int32)), .unset] [(.int (1 : Int32))])) _
              refine XS.istore X40.here hx rfl (hb hby at_128) rfl (l' := #[.val (.long p1), .second, .val (.long p2), .second, .val (.int p3), .val (.long (pick p1 p2 p3)), .second, .val (.ref b2), .val (.ref b7), .val (.ref b_16), .val (.int (1 : Int32)), .val (.int (1 : Int32)), .val (.int (0 : Int32)), .val (.int (eqU p1 p1)), .val (.int (1 : Int32)), .val (.int (1 : Int32))]) rfl ?_
              show Steps p.tables e below (T40.setTop (mkF m 130 #[.val (.long p1), .second, .val (.long p2), .second, .val (.int p3), .val (.long (pick p1 p2 p3)), .second, .val (.ref b2), .val (.ref b7), .val (.ref b_16), .val (.int (1 : Int32)), .val (.int (1 : Int32)), .val (.int (0 : Int32)), .val (.int (eqU p1 p1)), .val (.int (1 : Int32)), .val (.int (1 : Int32))] [])) _
              refine XS.iload X40.here hx rfl (hb hby at_130) rfl ?_
              show Steps p.tables e below (T40.setTop (mkF m 132 #[.val (.long p1), .second, .val (.long p2), .second, .val (.int p3), .val (.long (pick p1 p2 p3)), .second, .val (.ref b2), .val (.ref b7), .val (.ref b_16), .val (.int (1 : Int32)), .val (.int (1 : Int32)), .val (.int (0 : Int32)), .val (.int (eqU p1 p1)), .val (.int (1 : Int32)), .val (.int (1 : Int32))] [(.int (1 : Int32))])) _
              refine XS.ifNo X40.here hx rfl (hb hby at_132) rfl ((if0 _ _).trans (feq (by decide : ¬ ((1 : Int32) = (0 : Int32)))).1) ?_
              show Steps p.tables e below (T40.setTop (mkF m 135 #[.val (.long p1), .second, .val (.long p2), .second, .val (.int p3), .val (.long (pick p1 p2 p3)), .second, .val (.ref b2), .val (.ref b7), .val (.ref b_16), .val (.int (1 : Int32)), .val (.int (1 : Int32)), .val (.int (0 : Int32)), .val (.int (eqU p1 p1)), .val (.int (1 : Int32)), .val (.int (1 : Int32))] [])) _
              refine XS.iload X40.here hx rfl (hb hby at_135) rfl ?_
              show Steps p.tables e below (T40.setTop (mkF m 137 #[.val (.long p1), .second, .val (.long p2), .second, .val (.int p3), .val (.long (pick p1 p2 p3)), .second, .val (.ref b2), .val (.ref b7), .val (.ref b_16), .val (.int (1 : Int32)), .val (.int (1 : Int32)), .val (.int (0 : Int32)), .val (.int (eqU p1 p1)), .val (.int (1 : Int32)), .val (.int (1 : Int32))] [(.int (0 : Int32))])) _
              refine XS.ifYes X40.here hx rfl (pc0 := 137) (pc' := 159) rfl (hb hby at_137) rfl ((if0 _ _).trans (teq (by decide : ((0 : Int32) = (0 : Int32)))).1) (by decide) (by decide) ?_
              show Steps p.tables e below (T40.setTop (mkF m 159 #[.val (.long p1), .second, .val (.long p2), .second, .val (.int p3), .val (.long (pick p1 p2 p3)), .second, .val (.ref b2), .val (.ref b7), .val (.ref b_16), .val (.int (1 : Int32)), .val (.int (1 : Int32)), .val (.int (0 : Int32)), .val (.int (eqU p1 p1)), .val (.int (1 : Int32)), .val (.int (1 : Int32))] [])) _
              refine XS.iconst X40.here hx rfl (hb hby at_159) ?_
              exact kt
            refine Go.fin X40 (v := some (.int (0 : Int32))) (fun h => by rw [Bd.returns] at h; cases h) Bd.notSynchronized ?_ (Nat.le_trans (Nat.add_le_add_right (Nat.add_le_add_right (Nat.add_le_add_right (Nat.add_le_add_right (Nat.add_le_add_right (Nat.add_le_add_right (Nat.add_le_add_right (Nat.add_le_add_right (Nat.add_le_add_right (Nat.add_le_add_right (Nat.add_le_add_right (Nat.le_refl 0) 0) 1) 0) 1) 0) 1) 0) 0) 0) 0) 0) (by decide)) (Nat.le_trans (Nat.add_le_add_right (Nat.add_le_add_right (Nat.add_le_add_right (Nat.add_le_add_right (Nat.add_le_add_right (Nat.add_le_add_right (Nat.add_le_add_right (Nat.add_le_add_right (Nat.add_le_add_right (Nat.add_le_add_right (Nat.add_le_add_right (Nat.le_refl 0) 0) 1) 0) 1) 0) 2) 0) 0) 0) 0) 0) (by decide)) (fun fs hr => retN X40 hx (t := .boolean) Bd.returns (by simp) (hb hby at_160) hr)
            · exact ⟨by rw [hf], N40⟩
          · rw [if_neg hc41] at hf
            refine Go.step (T' := T40) (f' := (mkF m 127 #[.val (.long p1), .second, .val (.long p2), .second, .val (.int p3), .val (.long (pick p1 p2 p3)), .second, .val (.ref b2), .val (.ref b7), .val (.ref b_16), .val (.int (1 : Int32)), .val (.int (1 : Int32)), .val (.int (0 : Int32)), .val (.int (eqU p1 p1)), .val (.int (1 : Int32)), .unset] [])) (fun t kt => ?_) ?_
            · show Steps p.tables e below (T40.setTop (mkF m 120 #[.val (.long p1), .second, .val (.long p2), .second, .val (.int p3), .val (.long (pick p1 p2 p3)), .second, .val (.ref b2), .val (.ref b7), .val (.ref b_16), .val (.int (1 : Int32)), .val (.int (1 : Int32)), .val (.int (0 : Int32)), .val (.int (eqU p1 p1)), .val (.int (1 : Int32)), .unset] [(.int (eqI ))])) _
              refine XS.ifYes X40.here hx rfl (pc0 := 120) (pc' := 127) rfl (hb hby at_120) rfl ((if0 _ _).trans (feq hc41).2) (by decide) (by decide) ?_
              exact kt
            refine Go.step (T' := T40) (f' := (mkF m 160 #[.val (.long p1), .second, .val (.long p2), .second, .val (.int p3), .val (.long (pick p1 p2 p3)), .second, .val (.ref b2), .val (.ref b7), .val (.ref b_16), .val (.int (1 : Int32)), .val (.int (1 : Int32)), .val (.int (0 : Int32)), .val (.int (eqU p1 p1)), .val (.int (1 : Int32)), .val (.int (0 : Int32))] [(.int (0 : Int32))])) (fun t kt => ?_) ?_
            · show Steps p.tables e below (T40.setTop (mkF m 127 #[.val (.long p1), .second, .val (.long p2), .second, .val (.int p3), .val (.long (pick p1 p2 p3)), .second, .val (.ref b2), .val (.ref b7), .val (.ref b_16), .val (.int (1 : Int32)), .val (.int (1 : Int32)), .val (.int (0 : Int32)), .val (.int (eqU p1 p1)), .val (.int (1 : Int32)), .unset] [])) _
              refine XS.iconst X40.here hx rfl (hb hby at_127) ?_
              show Steps p.tables e below (T40.setTop (mkF m 128 #[.val (.long p1), .second, .val (.long p2), .second, .val (.int p3), .val (.long (pick p1 p2 p3)), .second, .val (.ref b2), .val (.ref b7), .val (.ref b_16), .val (.int (1 : Int32)), .val (.int (1 : Int32)), .val (.int (0 : Int32)), .val (.int (eqU p1 p1)), .val (.int (1 : Int32)), .unset] [(.int (0 : Int32))])) _
              refine XS.istore X40.here hx rfl (hb hby at_128) rfl (l' := #[.val (.long p1), .second, .val (.long p2), .second, .val (.int p3), .val (.long (pick p1 p2 p3)), .second, .val (.ref b2), .val (.ref b7), .val (.ref b_16), .val (.int (1 : Int32)), .val (.int (1 : Int32)), .val (.int (0 : Int32)), .val (.int (eqU p1 p1)), .val (.int (1 : Int32)), .val (.int (0 : Int32))]) rfl ?_
              show Steps p.tables e below (T40.setTop (mkF m 130 #[.val (.long p1), .second, .val (.long p2), .second, .val (.int p3), .val (.long (pick p1 p2 p3)), .second, .val (.ref b2), .val (.ref b7), .val (.ref b_16), .val (.int (1 : Int32)), .val (.int (1 : Int32)), .val (.int (0 : Int32)), .val (.int (eqU p1 p1)), .val (.int (1 : Int32)), .val (.int (0 : Int32))] [])) _
              refine XS.iload X40.here hx rfl (hb hby at_130) rfl ?_
              show Steps p.tables e below (T40.setTop (mkF m 132 #[.val (.long p1), .second, .val (.long p2), .second, .val (.int p3), .val (.long (pick p1 p2 p3)), .second, .val (.ref b2), .val (.ref b7), .val (.ref b_16), .val (.int (1 : Int32)), .val (.int (1 : Int32)), .val (.int (0 : Int32)), .val (.int (eqU p1 p1)), .val (.int (1 : Int32)), .val (.int (0 : Int32))] [(.int (1 : Int32))])) _
              refine XS.ifNo X40.here hx rfl (hb hby at_132) rfl ((if0 _ _).trans (feq (by decide : ¬ ((1 : Int32) = (0 : Int32)))).1) ?_
              show Steps p.tables e below (T40.setTop (mkF m 135 #[.val (.long p1), .second, .val (.long p2), .second, .val (.int p3), .val (.long (pick p1 p2 p3)), .second, .val (.ref b2), .val (.ref b7), .val (.ref b_16), .val (.int (1 : Int32)), .val (.int (1 : Int32)), .val (.int (0 : Int32)), .val (.int (eqU p1 p1)), .val (.int (1 : Int32)), .val (.int (0 : Int32))] [])) _
              refine XS.iload X40.here hx rfl (hb hby at_135) rfl ?_
              show Steps p.tables e below (T40.setTop (mkF m 137 #[.val (.long p1), .second, .val (.long p2), .second, .val (.int p3), .val (.long (pick p1 p2 p3)), .second, .val (.ref b2), .val (.ref b7), .val (.ref b_16), .val (.int (1 : Int32)), .val (.int (1 : Int32)), .val (.int (0 : Int32)), .val (.int (eqU p1 p1)), .val (.int (1 : Int32)), .val (.int (0 : Int32))] [(.int (0 : Int32))])) _
              refine XS.ifYes X40.here hx rfl (pc0 := 137) (pc' := 159) rfl (hb hby at_137) rfl ((if0 _ _).trans (teq (by decide : ((0 : Int32) = (0 : Int32)))).1) (by decide) (by decide) ?_
              show Steps p.tables e below (T40.setTop (mkF m 159 #[.val (.long p1), .second, .val (.long p2), .second, .val (.int p3), .val (.long (pick p1 p2 p3)), .second, .val (.ref b2), .val (.ref b7), .val (.ref b_16), .val (.int (1 : Int32)), .val (.int (1 : Int32)), .val (.int (0 : Int32)), .val (.int (eqU p1 p1)), .val (.int (1 : Int32)), .val (.int (0 : Int32))] [])) _
              refine XS.iconst X40.here hx rfl (hb hby at_159) ?_
              exact kt
            refine Go.fin X40 (v := some (.int (0 : Int32))) (fun h => by rw [Bd.returns] at h; cases h) Bd.notSynchronized ?_ (Nat.le_trans (Nat.add_le_add_right (Nat.add_le_add_right (Nat.add_le_add_right (Nat.add_le_add_right (Nat.add_le_add_right (Nat.add_le_add_right (Nat.add_le_add_right (Nat.add_le_add_right (Nat.add_le_add_right (Nat.add_le_add_right (Nat.add_le_add_right (Nat.le_refl 0) 0) 1) 0) 1) 0) 1) 0) 0) 0) 0) 0) (by decide)) (Nat.le_trans (Nat.add_le_add_right (Nat.add_le_add_right (Nat.add_le_add_right (Nat.add_le_add_right (Nat.add_le_add_right (Nat.add_le_add_right (Nat.add_le_add_right (Nat.add_le_add_right (Nat.add_le_add_right (Nat.add_le_add_right (Nat.add_le_add_right (Nat.le_refl 0) 0) 1) 0) 1) 0) 2) 0) 0) 0) 0) 0) (by decide)) (fun fs hr => retN X40 hx (t := .boolean) Bd.returns (by simp) (hb hby at_160) hr)
            · exact ⟨by rw [hf], N40⟩
        · rw [if_neg hc39] at hf
          refine Go.step (T' := T38) (f' := (mkF m 110 #[.val (.long p1), .second, .val (.long p2), .second, .val (.int p3), .val (.long (pick p1 p2 p3)), .second, .val (.ref b2), .val (.ref b7), .val (.ref b_16), .val (.int (1 : Int32)), .val (.int (1 : Int32)), .val (.int (0 : Int32)), .val (.int (eqU p1 p1)), .unset, .unset] [])) (fun t kt => ?_) ?_
          · show Steps p.tables e below (T38.setTop (mkF m 103 #[.val (.long p1), .second, .val (.long p2), .second, .val (.int p3), .val (.long (pick p1 p2 p3)), .second, .val (.ref b2), .val (.ref b7), .val (.ref b_16), .val (.int (1 : Int32)), .val (.int (1 : Int32)), .val (.int (0 : Int32)), .val (.int (eqU p1 p1)), .unset, .unset] [(.int (eqN ))])) _
            refine XS.ifYes X38.here hx rfl (pc0 := 103) (pc' := 110) rfl (hb hby at_103) rfl ((if0 _ _).trans (feq hc39).2) (by decide) (by decide) ?_
            exact kt
          obtain ⟨cq42, kq42, q42a, q42b, q42c⟩ := isOf hZ e38 (G17 : Exa Z T16.heap b2 "com/example/plumbline/plumbline/model/PlistUid")
          obtain ⟨_, _, ⟨T42, L42, k42, n42⟩, -, X42, ⟨Lc42, hQ42, l42, y42, z42⟩, st42⟩ := X38.virtualBack hx (y := (⟨"com/example/plumbline/plumbline/model/PlistUid", "equals", "(Ljava/lang/Object;)Z"⟩ : MethodName)) (z := (⟨"com/example/plumbline/plumbline/model/PlistUid", "equals", "(Ljava/lang/Object;)Z"⟩ : MethodName)) hown (mvT hZ (hw _ (List.mem_of_getElem? (i := 29) rfl))) (mvT hZ (hw _ (List.mem_of_getElem? (i := 30) rfl))) (notFace_of_selects (args := #[]) (mvT hZ (hw _ (List.mem_of_getElem? (i := 32) rfl)))) (mvT hZ (hw _ (List.mem_of_getElem? (i := 32) rfl))) (mvT hZ (hw _ (List.mem_of_getElem? (i := 31) rfl))) (by decide) (backOf (W := 0) (rm_eqI l Z a0 hw [] b2 b_16  T16.heap n0 Z16 pf16_0 ) hZ (hw _ (List.mem_of_getElem? (i := 33) rfl)) (hw _ (List.mem_of_getElem? (i := 6) rfl)) (by decide) (by decide)) q42a q42c (g := (mkF m 117 #[.val (.long p1), .second, .val (.long p2), .second, .val (.int p3), .val (.long (pick p1 p2 p3)), .second, .val (.ref b2), .val (.ref b7), .val (.ref b_16), .val (.int (1 : Int32)), .val (.int (1 : Int32)), .val (.int (0 : Int32)), .val (.int (eqU p1 p1)), .val (.int (0 : Int32)), .unset] [(.ref b_16), (.ref b2)])) rfl (by rw [hml]; rfl) (Steps.refl _) (argsL := [(.ref b_16)]) (rest := []) (lenOf pd_4 rfl) rfl (by show 2 * 0 + _ ≤ _; exact Nat.le_of_eq rfl) (hb hby at_117) (fun _ _ => ⟨rfl, e38, (Nat.le_trans (Nat.add_le_add_right (Nat.add_le_add_right (Nat.add_le_add_right (Nat.add_le_add_right (Nat.add_le_add_right (Nat.add_le_add_right (Nat.add_le_add_right (Nat.add_le_add_right (Nat.add_le_add_right (Nat.add_le_add_right (Nat.add_le_add_right (Nat.le_refl 0) 0) 1) 0) 1) 0) 1) 0) 0) 0) 0) 0) (by decide)), (Nat.le_trans (Nat.add_le_add_right (Nat.add_le_add_right (Nat.add_le_add_right (Nat.add_le_add_right (Nat.add_le_add_right (Nat.add_le_add_right (Nat.add_le_add_right (Nat.add_le_add_right (Nat.add_le_add_right (Nat.add_le_add_right (Nat.add_le_add_right (Nat.le_refl 0) 0) 1) 0) 1) 0) 2) 0) 0) 0) 0) 0) (by decide))⟩)
          dsimp only [Pt.U, Pt.locs, Pt.cells, Pt.slots] at X42 l42 y42 z42 st42 hQ42
          subst l42 y42 z42
          obtain ⟨rfl, N42q, e42⟩ := hQ42
          have N42 := Fr.app N38 N42q
          refine Go.step (T' := T42) (f' := (mkF m 120 #[.val (.long p1), .second, .val (.long p2), .second, .val (.int p3), .val (.long (pick p1 p2 p3)), .second, .val (.ref b2), .val (.ref b7), .val (.ref b_16), .val (.int (1 : Int32)), .val (.int (1 : Int32)), .val (.int (0 : Int32)), .val (.int (eqU p1 p1)), .val (.int (0 : Int32)), .unset] [(.int (eqI ))])) (fun t kt => ?_) ?_
          · show Steps p.tables e below (T38.setTop (mkF m 110 #[.val (.long p1), .second, .val (.long p2), .second, .val (.int p3), .val (.long (pick p1 p2 p3)), .second, .val (.ref b2), .val (.ref b7), .val (.ref b_16), .val (.int (1 : Int32)), .val (.int (1 : Int32)), .val (.int (0 : Int32)), .val (.int (eqU p1 p1)), .unset, .unset] [])) _
            refine XS.iconst X38.here hx rfl (hb hby at_110) ?_
            show Steps p.tables e below (T38.setTop (mkF m 111 #[.val (.long p1), .second, .val (.long p2), .second, .val (.int p3), .val (.long (pick p1 p2 p3)), .second, .val (.ref b2), .val (.ref b7), .val (.ref b_16), .val (.int (1 : Int32)), .val (.int (1 : Int32)), .val (.int (0 : Int32)), .val (.int (eqU p1 p1)), .unset, .unset] [(.int (0 : Int32))])) _
            refine XS.istore X38.here hx rfl (hb hby at_111) rfl (l' := #[.val (.long p1), .second, .val (.long p2), .second, .val (.int p3), .val (.long (pick p1 p2 p3)), .second, .val (.ref b2), .val (.ref b7), .val (.ref b_16), .val (.int (1 : Int32)), .val (.int (1 : Int32)), .val (.int (0 : Int32)), .val (.int (eqU p1 p1)), .val (.int (0 : Int32)), .unset]) rfl ?_
            show Steps p.tables e below (T38.setTop (mkF m 113 #[.val (.long p1), .second, .val (.long p2), .second, .val (.int p3), .val (.long (pick p1 p2 p3)), .second, .val (.ref b2), .val (.ref b7), .val (.ref b_16), .val (.int (1 : Int32)), .val (.int (1 : Int32)), .val (.int (0 : Int32)), .val (.int (eqU p1 p1)), .val (.int (0 : Int32)), .unset] [])) _
            refine XS.aload X38.here hx rfl (hb hby at_113) rfl rfl ?_
            show Steps p.tables e below (T38.setTop (mkF m 115 #[.val (.long p1), .second, .val (.long p2), .second, .val (.int p3), .val (.long (pick p1 p2 p3)), .second, .val (.ref b2), .val (.ref b7), .val (.ref b_16), .val (.int (1 : Int32)), .val (.int (1 : Int32)), .val (.int (0 : Int32)), .val (.int (eqU p1 p1)), .val (.int (0 : Int32)), .unset] [(.ref b2)])) _
            refine XS.aload X38.here hx rfl (hb hby at_115) rfl rfl ?_
            show Steps p.tables e below (T38.setTop (mkF m 117 #[.val (.long p1), .second, .val (.long p2), .second, .val (.int p3), .val (.long (pick p1 p2 p3)), .second, .val (.ref b2), .val (.ref b7), .val (.ref b_16), .val (.int (1 : Int32)), .val (.int (1 : Int32)), .val (.int (0 : Int32)), .val (.int (eqU p1 p1)), .val (.int (0 : Int32)), .unset] [(.ref b_16), (.ref b2)])) _
            refine st42.trans ?_
            exact kt
          by_cases hc43 : (eqI ) = (0 : Int32)
          · rw [if_pos hc43] at hf
            refine Go.step (T' := T42) (f' := (mkF m 123 #[.val (.long p1), .second, .val (.long p2), .second, .val (.int p3), .val (.long (pick p1 p2 p3)), .second, .val (.ref b2), .val (.ref b7), .val (.ref b_16), .val (.int (1 : Int32)), .val (.int (1 : Int32)), .val (.int (0 : Int32)), .val (.int (eqU p1 p1)), .val (.int (0 : Int32)), .unset] [])) (fun t kt => ?_) ?_
            · show Steps p.tables e below (T42.setTop (mkF m 120 #[.val (.long p1), .second, .val (.long p2), .second, .val (.int p3), .val (.long (pick p1 p2 p3)), .second, .val (.ref b2), .val (.ref b7), .val (.ref b_16), .val (.int (1 : Int32)), .val (.int (1 : Int32)), .val (.int (0 : Int32)), .val (.int (eqU p1 p1)), .val (.int (0 : Int32)), .unset] [(.int (eqI ))])) _
              refine XS.ifNo X42.here hx rfl (hb hby at_120) rfl ((if0 _ _).trans (teq hc43).2) ?_
              exact kt
            refine Go.step (T' := T42) (f' := (mkF m 160 #[.val (.long p1), .second, .val (.long p2), .second, .val (.int p3), .val (.long (pick p1 p2 p3)), .second, .val (.ref b2), .val (.ref b7), .val (.ref b_16), .val (.int (1 : Int32)), .val (.int (1 : Int32)), .val (.int (0 : Int32)), .val (.int (eqU p1 p1)), .val (.int (0 : Int32)), .val (.int (1 : Int32))] [(.int (0 : Int32))])) (fun t kt => ?_) ?_
            · show Steps p.tables e below (T42.setTop (mkF m 123 #[.val (.long p1), .second, .val (.long p2), .second, .val (.int p3), .val (.long (pick p1 p2 p3)), .second, .val (.ref b2), .val (.ref b7), .val (.ref b_16), .val (.int (1 : Int32)), .val (.int (1 : Int32)), .val (.int (0 : Int32)), .val (.int (eqU p1 p1)), .val (.int (0 : Int32)), .unset] [])) _
              refine XS.iconst X42.here hx rfl (hb hby at_123) ?_
              show Steps p.tables e below (T42.setTop (mkF m 124 #[.val (.long p1), .second, .val (.long p2), .second, .val (.int p3), .val (.long (pick p1 p2 p3)), .second, .val (.ref b2), .val (.ref b7), .val (.ref b_16), .val (.int (1 : Int32)), .val (.int (1 : Int32)), .val (.int (0 : Int32)), .val (.int (eqU p1 p1)), .val (.int (0 : Int32)), .unset] [(.int (1 : Int32))])) _
              refine XS.goto X42.here hx rfl (pc0 := 124) (pc' := 128) rfl (hb hby at_124) (by decide) (by decide) ?_
              show Steps p.tables e below (T42.setTop (mkF m 128 #[.val (.long p1), .second, .val (.long p2), .second, .val (.int p3), .val (.long (pick p1 p2 p3)), .second, .val (.ref b2), .val (.ref b7), .val (.ref b_16), .val (.int (1 : Int32)), .val (.int (1 : Int32)), .val (.int (0 : Int32)), .val (.int (eqU p1 p1)), .val (.int (0 : Int32)), .unset] [(.int (1 : Int32))])) _
              refine XS.istore X42.here hx rfl (hb hby at_128) rfl (l' := #[.val (.long p1), .second, .val (.long p2), .second, .val (.int p3), .val (.long (pick p1 p2 p3)), .second, .val (.ref b2), .val (.ref b7), .val (.ref b_16), .val (.int (1 : Int32)), .val (.int (1 : Int32)), .val (.int (0 : Int32)), .val (.int (eqU p1 p1)), .val (.int (0 : Int32)), .val (.int (1 : Int32))]) rfl ?_
              show Steps p.tables e below (T42.setTop (mkF m 130 #[.val (.long p1), .second, .val (.long p2), .second, .val (.int p3), .val (.long (pick p1 p2 p3)), .second, .val (.ref b2), .val (.ref b7), .val (.ref b_16), .val (.int (1 : Int32)), .val (.int (1 : Int32)), .val (.int (0 : Int32)), .val (.int (eqU p1 p1)), .val (.int (0 : Int32)), .val (.int (1 : Int32))] [])) _
              refine XS.iload X42.here hx rfl (hb hby at_130) rfl ?_
              show Steps p.tables e below (T42.setTop (mkF m 132 #[.val (.long p1), .second, .val (.long p2), .second, .val (.int p3), .val (.long (pick p1 p2 p3)), .second, .val (.ref b2), .val (.ref b7), .val (.ref b_16), .val (.int (1 : Int32)), .val (.int (1 : Int32)), .val (.int (0 : Int32)), .val (.int (eqU p1 p1)), .val (.int (0 : Int32)), .val (.int (1 : Int32))] [(.int (1 : Int32))])) _
              refine XS.ifNo X42.here hx rfl (hb hby at_132) rfl ((if0 _ _).trans (feq (by decide : ¬ ((1 : Int32) = (0 : Int32)))).1) ?_
              show Steps p.tables e below (T42.setTop (mkF m 135 #[.val (.long p1), .second, .val (.long p2), .second, .val (.int p3), .val (.long (pick p1 p2 p3)), .second, .val (.ref b2), .val (.ref b7), .val (.ref b_16), .val (.int (1 : Int32)), .val (.int (1 : Int32)), .val (.int (0 : Int32)), .val (.int (eqU p1 p1)), .val (.int (0 : Int32)), .val (.int (1 : Int32))] [])) _
              refine XS.iload X42.here hx rfl (hb hby at_135) rfl ?_
              show Steps p.tables e below (T42.setTop (mkF m 137 #[.val (.long p1), .second, .val (.long p2), .second, .val (.int p3), .val (.long (pick p1 p2 p3)), .second, .val (.ref b2), .val (.ref b7), .val (.ref b_16), .val (.int (1 : Int32)), .val (.int (1 : Int32)), .val (.int (0 : Int32)), .val (.int (eqU p1 p1)), .val (.int (0 : Int32)), .val (.int (1 : Int32))] [(.int (0 : Int32))])) _
              refine XS.ifYes X42.here hx rfl (pc0 := 137) (pc' := 159) rfl (hb hby at_137) rfl ((if0 _ _).trans (teq (by decide : ((0 : Int32) = (0 : Int32)))).1) (by decide) (by decide) ?_
              show Steps p.tables e below (T42.setTop (mkF m 159 #[.val (.long p1), .second, .val (.long p2), .second, .val (.int p3), .val (.long (pick p1 p2 p3)), .second, .val (.ref b2), .val (.ref b7), .val (.ref b_16), .val (.int (1 : Int32)), .val (.int (1 : Int32)), .val (.int (0 : Int32)), .val (.int (eqU p1 p1)), .val (.int (0 : Int32)), .val (.int (1 : Int32))] [])) _
              refine XS.iconst X42.here hx rfl (hb hby at_159) ?_
              exact kt
            refine Go.fin X42 (v := some (.int (0 : Int32))) (fun h => by rw [Bd.returns] at h; cases h) Bd.notSynchronized ?_ (Nat.le_trans (Nat.add_le_add_right (Nat.add_le_add_right (Nat.add_le_add_right (Nat.add_le_add_right (Nat.add_le_add_right (Nat.add_le_add_right (Nat.add_le_add_right (Nat.add_le_add_right (Nat.add_le_add_right (Nat.add_le_add_right (Nat.add_le_add_right (Nat.le_refl 0) 0) 1) 0) 1) 0) 1) 0) 0) 0) 0) 0) (by decide)) (Nat.le_trans (Nat.add_le_add_right (Nat.add_le_add_right (Nat.add_le_add_right (Nat.add_le_add_right (Nat.add_le_add_right (Nat.add_le_add_right (Nat.add_le_add_right (Nat.add_le_add_right (Nat.add_le_add_right (Nat.add_le_add_right (Nat.add_le_add_right (Nat.le_refl 0) 0) 1) 0) 1) 0) 2) 0) 0) 0) 0) 0) (by decide)) (fun fs hr => retN X42 hx (t := .boolean) Bd.returns (by simp) (hb hby at_160) hr)
            · exact ⟨by rw [hf], N42⟩
          · rw [if_neg hc43] at hf
            refine Go.step (T' := T42) (f' := (mkF m 127 #[.val (.long p1), .second, .val (.long p2), .second, .val (.int p3), .val (.long (pick p1 p2 p3)), .second, .val (.ref b2), .val (.ref b7), .val (.ref b_16), .val (.int (1 : Int32)), .val (.int (1 : Int32)), .val (.int (0 : Int32)), .val (.int (eqU p1 p1)), .val (.int (0 : Int32)), .unset] [])) (fun t kt => ?_) ?_
            · show Steps p.tables e below (T42.setTop (mkF m 120 #[.val (.long p1), .second, .val (.long p2), .second, .val (.int p3), .val (.long (pick p1 p2 p3)), .second, .val (.ref b2), .val (.ref b7), .val (.ref b_16), .val (.int (1 : Int32)), .val (.int (1 : Int32)), .val (.int (0 : Int32)), .val (.int (eqU p1 p1)), .val (.int (0 : Int32)), .unset] [(.int (eqI ))])) _
              refine XS.ifYes X42.here hx rfl (pc0 := 120) (pc' := 127) rfl (hb hby at_120) rfl ((if0 _ _).trans (feq hc43).2) (by decide) (by decide) ?_
              exact kt
            refine Go.step (T' := T42) (f' := (mkF m 160 #[.val (.long p1), .second, .val (.long p2), .second, .val (.int p3), .val (.long (pick p1 p2 p3)), .second, .val (.ref b2), .val (.ref b7), .val (.ref b_16), .val (.int (1 : Int32)), .val (.int (1 : Int32)), .val (.int (0 : Int32)), .val (.int (eqU p1 p1)), .val (.int (0 : Int32)), .val (.int (0 : Int32))] [(.int (0 : Int32))])) (fun t kt => ?_) ?_
            · show Steps p.tables e below (T42.setTop (mkF m 127 #[.val (.long p1), .second, .val (.long p2), .second, .val (.int p3), .val (.long (pick p1 p2 p3)), .second, .val (.ref b2), .val (.ref b7), .val (.ref b_16), .val (.int (1 : Int32)), .val (.int (1 : Int32)), .val (.int (0 : Int32)), .val (.int (eqU p1 p1)), .val (.int (0 : Int32)), .unset] [])) _
              refine XS.iconst X42.here hx rfl (hb hby at_127) ?_
              show Steps p.tables e below (T42.setTop (mkF m 128 #[.val (.long p1), .second, .val (.long p2), .second, .val (.int p3), .val (.long (pick p1 p2 p3)), .second, .val (.ref b2), .val (.ref b7), .val (.ref b_16), .val (.int (1 : Int32)), .val (.int (1 : Int32)), .val (.int (0 : Int32)), .val (.int (eqU p1 p1)), .val (.int (0 : Int32)), .unset] [(.int (0 : Int32))])) _
              refine XS.istore X42.here hx rfl (hb hby at_128) rfl (l' := #[.val (.long p1), .second, .val (.long p2), .second, .val (.int p3), .val (.long (pick p1 p2 p3)), .second, .val (.ref b2), .val (.ref b7), .val (.ref b_16), .val (.int (1 : Int32)), .val (.int (1 : Int32)), .val (.int (0 : Int32)), .val (.int (eqU p1 p1)), .val (.int (0 : Int32)), .val (.int (0 : Int32))]) rfl ?_
              show Steps p.tables e below (T42.setTop (mkF m 130 #[.val (.long p1), .second, .val (.long p2), .second, .val (.int p3), .val (.long (pick p1 p2 p3)), .second, .val (.ref b2), .val (.ref b7), .val (.ref b_16), .val (.int (1 : Int32)), .val (.int (1 : Int32)), .val (.int (0 : Int32)), .val (.int (eqU p1 p1)), .val (.int (0 : Int32)), .val (.int (0 : Int32))] [])) _
              refine XS.iload X42.here hx rfl (hb hby at_130) rfl ?_
              show Steps p.tables e below (T42.setTop (mkF m 132 #[.val (.long p1), .second, .val (.long p2), .second, .val (.int p3), .val (.long (pick p1 p2 p3)), .second, .val (.ref b2), .val (.ref b7), .val (.ref b_16), .val (.int (1 : Int32)), .val (.int (1 : Int32)), .val (.int (0 : Int32)), .val (.int (eqU p1 p1)), .val (.int (0 : Int32)), .val (.int (0 : Int32))] [(.int (1 : Int32))])) _
              refine XS.ifNo X42.here hx rfl (hb hby at_132) rfl ((if0 _ _).trans (feq (by decide : ¬ ((1 : Int32) = (0 : Int32)))).1) ?_
              show Steps p.tables e below (T42.setTop (mkF m 135 #[.val (.long p1), .second, .val (.long p2), .second, .val (.int p3), .val (.long (pick p1 p2 p3)), .second, .val (.ref b2), .val (.ref b7), .val (.ref b_16), .val (.int (1 : Int32)), .val (.int (1 : Int32)), .val (.int (0 : Int32)), .val (.int (eqU p1 p1)), .val (.int (0 : Int32)), .val (.int (0 : Int32))] [])) _
              refine XS.iload X42.here hx rfl (hb hby at_135) rfl ?_
              show Steps p.tables e below (T42.setTop (mkF m 137 #[.val (.long p1), .second, .val (.long p2), .second, .val (.int p3), .val (.long (pick p1 p2 p3)), .second, .val (.ref b2), .val (.ref b7), .val (.ref b_16), .val (.int (1 : Int32)), .val (.int (1 : Int32)), .val (.int (0 : Int32)), .val (.int (eqU p1 p1)), .val (.int (0 : Int32)), .val (.int (0 : Int32))] [(.int (0 : Int32))])) _
              refine XS.ifYes X42.here hx rfl (pc0 := 137) (pc' := 159) rfl (hb hby at_137) rfl ((if0 _ _).trans (teq (by decide : ((0 : Int32) = (0 : Int32)))).1) (by decide) (by decide) ?_
              show Steps p.tables e below (T42.setTop (mkF m 159 #[.val (.long p1), .second, .val (.long p2), .second, .val (.int p3), .val (.long (pick p1 p2 p3)), .second, .val (.ref b2), .val (.ref b7), .val (.ref b_16), .val (.int (1 : Int32)), .val (.int (1 : Int32)), .val (.int (0 : Int32)), .val (.int (eqU p1 p1)), .val (.int (0 : Int32)), .val (.int (0 : Int32))] [])) _
              refine XS.iconst X42.here hx rfl (hb hby at_159) ?_
              exact kt
            refine Go.fin X42 (v := some (.int (0 : Int32))) (fun h => by rw [Bd.returns] at h; cases h) Bd.notSynchronized ?_ (Nat.le_trans (Nat.add_le_add_right (Nat.add_le_add_right (Nat.add_le_add_right (Nat.add_le_add_right (Nat.add_le_add_right (Nat.add_le_add_right (Nat.add_le_add_right (Nat.add_le_add_right (Nat.add_le_add_right (Nat.add_le_add_right (Nat.add_le_add_right (Nat.le_refl 0) 0) 1) 0) 1) 0) 1) 0) 0) 0) 0) 0) (by decide)) (Nat.le_trans (Nat.add_le_add_right (Nat.add_le_add_right (Nat.add_le_add_right (Nat.add_le_add_right (Nat.add_le_add_right (Nat.add_le_add_right (Nat.add_le_add_right (Nat.add_le_add_right (Nat.add_le_add_right (Nat.add_le_add_right (Nat.add_le_add_right (Nat.le_refl 0) 0) 1) 0) 1) 0) 2) 0) 0) 0) 0) 0) (by decide)) (fun fs hr => retN X42 hx (t := .boolean) Bd.returns (by simp) (hb hby at_160) hr)
            · exact ⟨by rw [hf], N42⟩
    · rw [if_neg hc23] at hf
      refine Go.step (T' := T22) (f' := (mkF m 66 #[.val (.long p1), .second, .val (.long p2), .second, .val (.int p3), .val (.long (pick p1 p2 p3)), .second, .val (.ref b2), .val (.ref b7), .val (.ref b_16), .val (.int (1 : Int32)), .unset, .unset, .unset, .unset, .unset] [])) (fun t kt => ?_) ?_
      · show Steps p.tables e below (T22.setTop (mkF m 59 #[.val (.long p1), .second, .val (.long p2), .second, .val (.int p3), .val (.long (pick p1 p2 p3)), .second, .val (.ref b2), .val (.ref b7), .val (.ref b_16), .val (.int (1 : Int32)), .unset, .unset, .unset, .unset, .unset] [(.int (1 : Int32)), (.int (eqU p1 (pick p1 p2 p3)))])) _
        refine XS.icmpYes X22.here hx rfl (pc0 := 59) (pc' := 66) rfl (hb hby at_59) rfl (feq hc23).2 (by decide) (by decide) ?_
        exact kt
      obtain ⟨cq44, kq44, q44a, q44b, q44c⟩ := isOf hZ e22 (G19 : Exa Z T16.heap b7 "com/example/plumbline/plumbline/model/PlistUid")
      obtain ⟨_, _, ⟨T44, L44, k44, n44⟩, -, X44, ⟨Lc44, hQ44, l44, y44, z44⟩, st44⟩ := X22.virtualBack hx (y := (⟨"com/example/plumbline/plumbline/model/PlistUid", "equals", "(Ljava/lang/Object;)Z"⟩ : MethodName)) (z := (⟨"com/example/plumbline/plumbline/model/PlistUid", "equals", "(Ljava/lang/Object;)Z"⟩ : MethodName)) hown (mvT hZ (hw _ (List.mem_of_getElem? (i := 29) rfl))) (mvT hZ (hw _ (List.mem_of_getElem? (i := 30) rfl))) (notFace_of_selects (args := #[]) (mvT hZ (hw _ (List.mem_of_getElem? (i := 32) rfl)))) (mvT hZ (hw _ (List.mem_of_getElem? (i := 32) rfl))) (mvT hZ (hw _ (List.mem_of_getElem? (i := 31) rfl))) (by decide) (backOf (W := 0) (rm_eqU l Z a0 hw [] b7 b2 (pick p1 p2 p3) p1 T16.heap n0 Z16 G17 G20 G18 ) hZ (hw _ (List.mem_of_getElem? (i := 33) rfl)) (hw _ (List.mem_of_getElem? (i := 6) rfl)) (by decide) (by decide)) q44a q44c (g := (mkF m 73 #[.val (.long p1), .second, .val (.long p2), .second, .val (.int p3), .val (.long (pick p1 p2 p3)), .second, .val (.ref b2), .val (.ref b7), .val (.ref b_16), .val (.int (1 : Int32)), .val (.int (0 : Int32)), .unset, .unset, .unset, .unset] [(.ref b2), (.ref b7)])) rfl (by rw [hml]; rfl) (Steps.refl _) (argsL := [(.ref b2)]) (rest := []) (lenOf pd_4 rfl) rfl (by show 2 * 0 + _ ≤ _; exact Nat.le_of_eq rfl) (hb hby at_73) (fun _ _ => ⟨rfl, e22, (Nat.le_trans (Nat.add_le_add_right (Nat.add_le_add_right (Nat.add_le_add_right (Nat.add_le_add_right (Nat.add_le_add_right (Nat.add_le_add_right (Nat.add_le_add_right (Nat.add_le_add_right (Nat.le_refl 0) 0) 1) 0) 1) 0) 1) 0) 0) (by decide)), (Nat.le_trans (Nat.add_le_add_right (Nat.add_le_add_right (Nat.add_le_add_right (Nat.add_le_add_right (Nat.add_le_add_right (Nat.add_le_add_right (Nat.add_le_add_right (Nat.add_le_add_right (Nat.le_refl 0) 0) 1) 0) 1) 0) 2) 0) 0) (by decide))⟩)
      dsimp only [Pt.U, Pt.locs, Pt.cells, Pt.slots] at X44 l44 y44 z44 st44 hQ44
      subst l44 y44 z44
      obtain ⟨rfl, N44q, e44⟩ := hQ44
      have N44 := Fr.app N22 N44q
      refine Go.step (T' := T44) (f' := (mkF m 78 #[.val (.long p1), .second, .val (.long p2), .second, .val (.int p3), .val (.long (pick p1 p2 p3)), .second, .val (.ref b2), .val (.ref b7), .val (.ref b_16), .val (.int (1 : Int32)), .val (.int (0 : Int32)), .unset, .unset, .unset, .unset] [(.int (1 : Int32)), (.int (eqU (pick p1 p2 p3) p1))])) (fun t kt => ?_) ?_
      · show Steps p.tables e below (T22.setTop (mkF m 66 #[.val (.long p1), .second, .val (.long p2), .second, .val (.int p3), .val (.long (pick p1 p2 p3)), .second, .val (.ref b2), .val (.ref b7), .val (.ref b_16), .val (.int (1 : Int32)), .unset, .unset, .unset, .unset, .unset] [])) _
        refine XS.iconst X22.here hx rfl (hb hby at_66) ?_
        show Steps p.tables e below (T22.setTop (mkF m 67 #[.val (.long p1), .second, .val (.long p2), .second, .val (.int p3), .val (.long (pick p1 p2 p3)), .second, .val (.ref b2), .val (.ref b7), .val (.ref b_16), .val (.int (1 : Int32)), .unset, .unset, .unset, .unset, .unset] [(.int (0 : Int32))])) _
        refine XS.istore X22.here hx rfl (hb hby at_67) rfl (l' := #[.val (.long p1), .second, .val (.long p2), .second, .val (.int p3), .val (.long (pick p1 p2 p3)), .second, .val (.ref b2), .val (.ref b7), .val (.ref b_16), .val (.int (1 : Int32)), .val (.int (0 : Int32)), .unset, .unset, .unset, .unset]) rfl ?_
        show Steps p.tables e below (T22.setTop (mkF m 69 #[.val (.long p1), .second, .val (.long p2), .second, .val (.int p3), .val (.long (pick p1 p2 p3)), .second, .val (.ref b2), .val (.ref b7), .val (.ref b_16), .val (.int (1 : Int32)), .val (.int (0 : Int32)), .unset, .unset, .unset, .unset] [])) _
        refine XS.aload X22.here hx rfl (hb hby at_69) rfl rfl ?_
        show Steps p.tables e below (T22.setTop (mkF m 71 #[.val (.long p1), .second, .val (.long p2), .second, .val (.int p3), .val (.long (pick p1 p2 p3)), .second, .val (.ref b2), .val (.ref b7), .val (.ref b_16), .val (.int (1 : Int32)), .val (.int (0 : Int32)), .unset, .unset, .unset, .unset] [(.ref b7)])) _
        refine XS.aload X22.here hx rfl (hb hby at_71) rfl rfl ?_
        show Steps p.tables e below (T22.setTop (mkF m 73 #[.val (.long p1), .second, .val (.long p2), .second, .val (.int p3), .val (.long (pick p1 p2 p3)), .second, .val (.ref b2), .val (.ref b7), .val (.ref b_16), .val (.int (1 : Int32)), .val (.int (0 : Int32)), .unset, .unset, .unset, .unset] [(.ref b2), (.ref b7)])) _
        refine st44.trans ?_
        show Steps p.tables e below (T44.setTop (mkF m 76 #[.val (.long p1), .second, .val (.long p2), .second, .val (.int p3), .val (.long (pick p1 p2 p3)), .second, .val (.ref b2), .val (.ref b7), .val (.ref b_16), .val (.int (1 : Int32)), .val (.int (0 : Int32)), .unset, .unset, .unset, .unset] [(.int (eqU (pick p1 p2 p3) p1))])) _
        refine XS.iload X44.here hx rfl (hb hby at_76) rfl ?_
        exact kt
      by_cases hc45 : (eqU (pick p1 p2 p3) p1) = (1 : Int32)
      · rw [if_pos hc45] at hf
        refine Go.step (T' := T44) (f' := (mkF m 81 #[.val (.long p1), .second, .val (.long p2), .second, .val (.int p3), .val (.long (pick p1 p2 p3)), .second, .val (.ref b2), .val (.ref b7), .val (.ref b_16), .val (.int (1 : Int32)), .val (.int (0 : Int32)), .unset, .unset, .unset, .unset] [])) (fun t kt => ?_) ?_
        · show Steps p.tables e below (T44.setTop (mkF m 78 #[.val (.long p1), .second, .val (.long p2), .second, .val (.int p3), .val (.long (pick p1 p2 p3)), .second, .val (.ref b2), .val (.ref b7), .val (.ref b_16), .val (.int (1 : Int32)), .val (.int (0 : Int32)), .unset, .unset, .unset, .unset] [(.int (1 : Int32)), (.int (eqU (pick p1 p2 p3) p1))])) _
          refine XS.icmpNo X44.here hx rfl (hb hby at_78) rfl (teq hc45).2 ?_
          exact kt
        obtain ⟨cq46, kq46, q46a, q46b, q46c⟩ := isOf hZ e44 (G17 : Exa Z T16.heap b2 "com/example/plumbline/plumbline/model/PlistUid")
        obtain ⟨_, _, ⟨T46, L46, k46, n46⟩, -, X46, ⟨Lc46, hQ46, l46, y46, z46⟩, st46⟩ := X44.virtualBack hx (y := (⟨"com/example/plumbline/plumbline/model/PlistUid", "equals", "(Ljava/lang/Object;)Z"⟩ : MethodName)) (z := (⟨"com/example/plumbline/plumbline/model/PlistUid", "equals", "(Ljava/lang/Object;)Z"⟩ : MethodName)) hown (mvT hZ (hw _ (List.mem_of_getElem? (i := 29) rfl))) (mvT hZ (hw _ (List.mem_of_getElem? (i := 30) rfl))) (notFace_of_selects (args := #[]) (mvT hZ (hw _ (List.mem_of_getElem? (i := 32) rfl)))) (mvT hZ (hw _ (List.mem_of_getElem? (i := 32) rfl))) (mvT hZ (hw _ (List.mem_of_getElem? (i := 31) rfl))) (by decide) (backOf (W := 0) (rm_eqU l Z a0 hw [] b2 b2 p1 p1 T16.heap n0 Z16 G17 G18 G18 ) hZ (hw _ (List.mem_of_getElem? (i := 33) rfl)) (hw _ (List.mem_of_getElem? (i := 6) rfl)) (by decide) (by decide)) q46a q46c (g := (mkF m 92 #[.val (.long p1), .second, .val (.long p2), .second, .val (.int p3), .val (.long (pick p1 p2 p3)), .second, .val (.ref b2), .val (.ref b7), .val (.ref b_16), .val (.int (1 : Int32)), .val (.int (0 : Int32)), .val (.int (1 : Int32)), .unset, .unset, .unset] [(.ref b2), (.ref b2)])) rfl (by rw [hml]; rfl) (Steps.refl _) (argsL := [(.ref b2)]) (rest := []) (lenOf pd_4 rfl) rfl (by show 2 * 0 + _ ≤ _; exact Nat.le_of_eq rfl) (hb hby at_92) (fun _ _ => ⟨rfl, e44, (Nat.le_trans (Nat.add_le_add_right (Nat.add_le_add_right (Nat.add_le_add_right (Nat.add_le_add_right (Nat.add_le_add_right (Nat.add_le_add_right (Nat.add_le_add_right (Nat.add_le_add_right (Nat.add_le_add_right (Nat.le_refl 0) 0) 1) 0) 1) 0) 1) 0) 0) 0) (by decide)), (Nat.le_trans (Nat.add_le_add_right (Nat.add_le_add_right (Nat.add_le_add_right (Nat.add_le_add_right (Nat.add_le_add_right (Nat.add_le_add_right (Nat.add_le_add_right (Nat.add_le_add_right (Nat.add_le_add_right (Nat.le_refl 0) 0) 1) 0) 1) 0) 2) 0) 0) 0) (by decide))⟩)
        dsimp only [Pt.U, Pt.locs, Pt.cells, Pt.slots] at X46 l46 y46 z46 st46 hQ46
        subst l46 y46 z46
        obtain ⟨rfl, N46q, e46⟩ := hQ46
        have N46 := Fr.app N44 N46q
        obtain ⟨cq47, kq47, q47a, q47b, q47c⟩ := isOf hZ e46 (G17 : Exa Z T16.heap b2 "com/example/plumbline/plumbline/model/PlistUid")
        obtain ⟨_, _, ⟨T47, L47, k47, n47⟩, -, X47, ⟨Lc47, hQ47, l47, y47, z47⟩, st47⟩ := X46.virtualBack hx (y := (⟨"com/example/plumbline/plumbline/model/PlistUid", "equals", "(Ljava/lang/Object;)Z"⟩ : MethodName)) (z := (⟨"com/example/plumbline/plumbline/model/PlistUid", "equals", "(Ljava/lang/Object;)Z"⟩ : MethodName)) hown (mvT hZ (hw _ (List.mem_of_getElem? (i := 29) rfl))) (mvT hZ (hw _ (List.mem_of_getElem? (i := 30) rfl))) (notFace_of_selects (args := #[]) (mvT hZ (hw _ (List.mem_of_getElem? (i := 32) rfl)))) (mvT hZ (hw _ (List.mem_of_getElem? (i := 32) rfl))) (mvT hZ (hw _ (List.mem_of_getElem? (i := 31) rfl))) (by decide) (backOf (W := 0) (rm_eqN l Z a0 hw [] b2  T16.heap n0 Z16  ) hZ (hw _ (List.mem_of_getElem? (i := 33) rfl)) (hw _ (List.mem_of_getElem? (i := 6) rfl)) (by decide) (by decide)) q47a q47c (g := (mkF m 100 #[.val (.long p1), .second, .val (.long p2), .second, .val (.int p3), .val (.long (pick p1 p2 p3)), .second, .val (.ref b2), .val (.ref b7), .val (.ref b_16), .val (.int (1 : Int32)), .val (.int (0 : Int32)), .val (.int (1 : Int32)), .val (.int (eqU p1 p1)), .unset, .unset] [.null, (.ref b2)])) rfl (by rw [hml]; rfl) (Steps.refl _) (argsL := [.null]) (rest := []) (lenOf pd_4 rfl) rfl (by show 2 * 0 + _ ≤ _; exact Nat.le_of_eq rfl) (hb hby at_100) (fun _ _ => ⟨rfl, e46, (Nat.le_trans (Nat.add_le_add_right (Nat.add_le_add_right (Nat.add_le_add_right (Nat.add_le_add_right (Nat.add_le_add_right (Nat.add_le_add_right (Nat.add_le_add_right (Nat.add_le_add_right (Nat.add_le_add_right (Nat.add_le_add_right (Nat.le_refl 0) 0) 1) 0) 1) 0) 1) 0) 0) 0) 0) (by decide)), (Nat.le_trans (Nat.add_le_add_right (Nat.add_le_add_right (Nat.add_le_add_right (Nat.add_le_add_right (Nat.add_le_add_right (Nat.add_le_add_right (Nat.add_le_add_right (Nat.add_le_add_right (Nat.add_le_add_right (Nat.add_le_add_right (Nat.le_refl 0) 0) 1) 0) 1) 0) 2) 0) 0) 0) 0) (by decide))⟩)
        dsimp only [Pt.U, Pt.locs, Pt.cells, Pt.slots] at X47 l47 y47 z47 st47 hQ47
        subst l47 y47 z47
        obtain ⟨rfl, N47q, e47⟩ := hQ47
        have N47 := Fr.app N46 N47q
        refine Go.step (T' := T47) (f' := (mkF m 103 #[.val (.long p1), .second, .val (.long p2), .second, .val (.int p3), .val (.long (pick p1 p2 p3)), .second, .val (.ref b2), .val (.ref b7), .val (.ref b_16), .val (.int (1 : Int32)), .val (.int (0 : Int32)), .val (.int (1 : Int32)), .val (.int (eqU p1 p1)), .unset, .unset] [(.int (eqN ))])) (fun t kt => ?_) ?_
        · show Steps p.tables e below (T44.setTop (mkF m 81 #[.val (.long p1), .second, .val (.long p2), .second, .val (.int p3), .val (.long (pick p1 p2 p3)), .second, .val (.ref b2), .val (.ref b7), .val (.ref b_16), .val (.int (1 : Int32)), .val (.int (0 : Int32)), .unset, .unset, .unset, .unset] [])) _
          refine XS.iconst X44.here hx rfl (hb hby at_81) ?_
          show Steps p.tables e below (T44.setTop (mkF m 82 #[.val (.long p1), .second, .val (.long p2), .second, .val (.int p3), .val (.long (pick p1 p2 p3)), .second, .val (.ref b2), .val (.ref b7), .val (.ref b_16), .val (.int (1 : Int32)), .val (.int (0 : Int32)), .unset, .unset, .unset, .unset] [(.int (1 : Int32))])) _
          refine XS.goto X44.here hx rfl (pc0 := 82) (pc' := 86) rfl (hb hby at_82) (by decide) (by decide) ?_
          show Steps p.tables e below (T44.setTop (mkF m 86 #[.val (.long p1), .second, .val (.long p2), .second, .val (.int p3), .val (.long (pick p1 p2 p3)), .second, .val (.ref b2), .val (.ref b7), .val (.ref b_16), .val (.int (1 : Int32)), .val (.int (0 : Int32)), .unset, .unset, .unset, .unset] [(.int (1 : Int32))])) _
          refine XS.istore X44.here hx rfl (hb hby at_86) rfl (l' := #[.val (.long p1), .second, .val (.long p2), .second, .val (.int p3), .val (.long (pick p1 p2 p3)), .second, .val (.ref b2), .val (.ref b7), .val (.ref b_16), .val (.int (1 : Int32)), .val (.int (0 : Int32)), .val (.int (1 : Int32)), .unset, .unset, .unset]) rfl ?_
          show Steps p.tables e below (T44.setTop (mkF m 88 #[.val (.long p1), .second, .val (.long p2), .second, .val (.int p3), .val (.long (pick p1 p2 p3)), .second, .val (.ref b2), .val (.ref b7), .val (.ref b_16), .val (.int (1 : Int32)), .val (.int (0 : Int32)), .val (.int (1 : Int32)), .unset, .unset, .unset] [])) _
          refine XS.aload X44.here hx rfl (hb hby at_88) rfl rfl ?_
          show Steps p.tables e below (T44.setTop (mkF m 90 #[.val (.long p1), .second, .val (.long p2), .second, .val (.int p3), .val (.long (pick p1 p2 p3)), .second, .val (.ref b2), .val (.ref b7), .val (.ref b_16), .val (.int (1 : Int32)), .val (.int (0 : Int32)), .val (.int (1 : Int32)), .unset, .unset, .unset] [(.ref b2)])) _
          refine XS.aload X44.here hx rfl (hb hby at_90) rfl rfl ?_
          show Steps p.tables e below (T44.setTop (mkF m 92 #[.val (.long p1), .second, .val (.long p2), .second, .val (.int p3), .val (.long (pick p1 p2 p3)), .second, .val (.ref b2), .val (.ref b7), .val (.ref b_16), .val (.int (1 : Int32)), .val (.int (0 : Int32)), .val (.int (1 : Int32)), .unset, .unset, .unset] [(.ref b2), (.ref b2)])) _
          refine st46.trans ?_
          show Steps p.tables e below (T46.setTop (mkF m 95 #[.val (.long p1), .second, .val (.long p2), .second, .val (.int p3), .val (.long (pick p1 p2 p3)), .second, .val (.ref b2), .val (.ref b7), .val (.ref b_16), .val (.int (1 : Int32)), .val (.int (0 : Int32)), .val (.int (1 : Int32)), .unset, .unset, .unset] [(.int (eqU p1 p1))])) _
          refine XS.istore X46.here hx rfl (hb hby at_95) rfl (l' := #[.val (.long p1), .second, .val (.long p2), .second, .val (.int p3), .val (.long (pick p1 p2 p3)), .second, .val (.ref b2), .val (.ref b7), .val (.ref b_16), .val (.int (1 : Int32)), .val (.int (0 : Int32)), .val (.int (1 : Int32)), .val (.int (eqU p1 p1)), .unset, .unset]) rfl ?_
          show Steps p.tables e below (T46.setTop (mkF m 97 #[.val (.long p1), .second, .val (.long p2), .second, .val (.int p3), .val (.long (pick p1 p2 p3)), .second, .val (.ref b2), .val (.ref b7), .val (.ref b_16), .val (.int (1 : Int32)), .val (.int (0 : Int32)), .val (.int (1 : Int32)), .val (.int (eqU p1 p1)), .unset, .unset] [])) _
          refine XS.aload X46.here hx rfl (hb hby at_97) rfl rfl ?_
          show Steps p.tables e below (T46.setTop (mkF m 99 #[.val (.long p1), .second, .val (.long p2), .second, .val (.int p3), .val (.long (pick p1 p2 p3)), .second, .val (.ref b2), .val (.ref b7), .val (.ref b_16), .val (.int (1 : Int32)), .val (.int (0 : Int32)), .val (.int (1 : Int32)), .val (.int (eqU p1 p1)), .unset, .unset] [(.ref b2)])) _
          refine XS.aconstNull X46.here hx rfl (hb hby at_99) ?_
          show Steps p.tables e below (T46.setTop (mkF m 100 #[.val (.long p1), .second, .val (.long p2), .second, .val (.int p3), .val (.long (pick p1 p2 p3)), .second, .val (.ref b2), .val (.ref b7), .val (.ref b_16), .val (.int (1 : Int32)), .val (.int (0 : Int32)), .val (.int (1 : Int32)), .val (.int (eqU p1 p1)), .unset, .unset] [.null, (.ref b2)])) _
          refine st47.trans ?_
          exact kt
        by_cases hc48 : (eqN ) = (0 : Int32)
        · rw [if_pos hc48] at hf
          refine Go.step (T' := T47) (f' := (mkF m 106 #[.val (.long p1), .second, .val (.long p2), .second, .val (.int p3), .val (.long (pick p1 p2 p3)), .second, .val (.ref b2), .val (.ref b7), .val (.ref b_16), .val (.int (1 : Int32)), .val (.int (0 : Int32)), .val (.int (1 : Int32)), .val (.int (eqU p1 p1)), .unset, .unset] [])) (fun t kt => ?_) ?_
          · show Steps p.tables e below (T47.setTop (mkF m 103 #[.val (.long p1), .second, .val (.long p2), .second, .val (.int p3), .val (.long (pick p1 p2 p3)), .second, .val (.ref b2), .val (.ref b7), .val (.ref b_16), .val (.int (1 : Int32)), .val (.int (0 : Int32)), .val (.int (1 : Int32)), .val (.int (eqU p1 p1)), .unset, .unset] [(.int (eqN ))])) _
            refine XS.ifNo X47.here hx rfl (hb hby at_103) rfl ((if0 _ _).trans (teq hc48).2) ?_
            exact kt
          obtain ⟨cq49, kq49, q49a, q49b, q49c⟩ := isOf hZ e47 (G17 : Exa Z T16.heap b2 "com/example/plumbline/plumbline/model/PlistUid")
          obtain ⟨_, _, ⟨T49, L49, k49, n49⟩, -, X49, ⟨Lc49, hQ49, l49, y49, z49⟩, st49⟩ := X47.virtualBack hx (y := (⟨"com/example/plumbline/plumbline/model/PlistUid", "equals", "(Ljava/lang/Object;)Z"⟩ : MethodName)) (z := (⟨"com/example/plumbline/plumbline/model/PlistUid", "equals", "(Ljava/lang/Object;)Z"⟩ : MethodName)) hown (mvT hZ (hw _ (List.mem_of_getElem? (i := 29) rfl))) (mvT hZ (hw _ (List.mem_of_getElem? (i := 30) rfl))) (notFace_of_selects (args := #[]) (mvT hZ (hw _ (List.mem_of_getElem? (i := 32) rfl)))) (mvT hZ (hw _ (List.mem_of_getElem? (i := 32) rfl))) (mvT hZ (hw _ (List.mem_of_getElem? (i := 31) rfl))) (by decide) (backOf (W := 0) (rm_eqI l Z a0 hw [] b2 b_16  T16.heap n0 Z16 pf16_0 ) hZ (hw _ (List.mem_of_getElem? (i := 33) rfl)) (hw _ (List.mem_of_getElem? (i := 6) rfl)) (by decide) (by decide)) q49a q49c (g := (mkF m 117 #[.val (.long p1), .second, .val (.long p2), .second, .val (.int p3), .val (.long (pick p1 p2 p3)), .second, .val (.ref b2), .val (.ref b7), .val (.ref b_16), .val (.int (1 : Int32)), .val (.int (0 : Int32)), .val (.int (1 : Int32)), .val (.int (eqU p1 p1)), .val (.int (1 : Int32)), .unset] [(.ref b_16), (.ref b2)])) rfl (by rw [hml]; rfl) (Steps.refl _) (argsL := [(.ref b_16)]) (rest := []) (lenOf pd_4 rfl) rfl (by show 2 * 0 + _ ≤ _; exact Nat.le_of_eq rfl) (hb hby at_117) (fun _ _ => ⟨rfl, e47, (Nat.le_trans (Nat.add_le_add_right (Nat.add_le_add_right (Nat.add_le_add_right (Nat.add_le_add_right (Nat.add_le_add_right (Nat.add_le_add_right (Nat.add_le_add_right (Nat.add_le_add_right (Nat.add_le_add_right (Nat.add_le_add_right (Nat.add_le_add_right (Nat.le_refl 0) 0) 1) 0) 1) 0) 1) 0) 0) 0) 0) 0) (by decide)), (Nat.le_trans (Nat.add_le_add_right (Nat.add_le_add_right (Nat.add_le_add_right (Nat.add_le_add_right (Nat.add_le_add_right (Nat.add_le_add_right (Nat.add_le_add_right (Nat.add_le_add_right (Nat.add_le_add_right (Nat.add_le_add_right (Nat.add_le_add_right (Nat.le_refl 0) 0) 1) 0) 1) 0) 2) 0) 0) 0) 0) 0) (by decide))⟩)
          dsimp only [Pt.U, Pt.locs, Pt.cells, Pt.slots] at X49 l49 y49 z49 st49 hQ49
          subst l49 y49 z49
          obtain ⟨rfl, N49q, e49⟩ := hQ49
          have N49 := Fr.app N47 N49q
          refine Go.step (T' := T49) (f' := (mkF m 120 #[.val (.long p1), .second, .val (.long p2), .second, .val (.int p3), .val (.long (pick p1 p2 p3)), .second, .val (.ref b2), .val (.ref b7), .val (.ref b_16), .val (.int (1 : Int32)), .val (.int (0 : Int32)), .val (.int (1 : Int32)), .val (.int (eqU p1 p1)), .val (.int (1 : Int32)), .unset] [(.int (eqI ))])) (fun t kt => ?_) ?_
          · show Steps p.tables e below (T47.setTop (mkF m 106 #[.val (.long p1), .second, .val (.long p2), .second, .val (.int p3), .val (.long (pick p1 p2 p3)), .second, .val (.ref b2), .val (.ref b7), .val (.ref b_16), .val (.int (1 : Int32)), .val (.int (0 : Int32)), .val (.int (1 : Int32)), .val (.int (eqU p1 p1)), .unset, .unset] [])) _
            refine XS.iconst X47.here hx rfl (hb hby at_106) ?_
            show Steps p.tables e below (T47.setTop (mkF m 107 #[.val (.long p1), .second, .val (.long p2), .second, .val (.int p3), .val (.long (pick p1 p2 p3)), .second, .val (.ref b2), .val (.ref b7), .val (.ref b_16), .val (.int (1 : Int32)), .val (.int (0 : Int32)), .val (.int (1 : Int32)), .val (.int (eqU p1 p1)), .unset, .unset] [(.int (1 : Int32))])) _
            refine XS.goto X47.here hx rfl (pc0 := 107) (pc' := 111) rfl (hb hby at_107) (by decide) (by decide) ?_
            show Steps p.tables e below (T47.setTop (mkF m 111 #[.val (.long p1), .second, .val (.long p2), .second, .val (.int p3), .val (.long (pick p1 p2 p3)), .second, .val (.ref b2), .val (.ref b7), .val (.ref b_16), .val (.int (1 : Int32)), .val (.int (0 : Int32)), .val (.int (1 : Int32)), .val (.int (eqU p1 p1)), .unset, .unset] [(.int (1 : Int32))])) _
            refine XS.istore X47.here hx rfl (hb hby at_111) rfl (l' := #[.val (.long p1), .second, .val (.long p2), .second, .val (.int p3), .val (.long (pick p1 p2 p3)), .second, .val (.ref b2), .val (.ref b7), .val (.ref b_16), .val (.int (1 : Int32)), .val (.int (0 : Int32)), .val (.int (1 : Int32)), .val (.int (eqU p1 p1)), .val (.int (1 : Int32)), .unset]) rfl ?_
            show Steps p.tables e below (T47.setTop (mkF m 113 #[.val (.long p1), .second, .val (.long p2), .second, .val (.int p3), .val (.long (pick p1 p2 p3)), .second, .val (.ref b2), .val (.ref b7), .val (.ref b_16), .val (.int (1 : Int32)), .val (.int (0 : Int32)), .val (.int (1 : Int32)), .val (.int (eqU p1 p1)), .val (.int (1 : Int32)), .unset] [])) _
            refine XS.aload X47.here hx rfl (hb hby at_113) rfl rfl ?_
            show Steps p.tables e below (T47.setTop (mkF m 115 #[.val (.long p1), .second, .val (.long p2), .second, .val (.int p3), .val (.long (pick p1 p2 p3)), .second, .val (.ref b2), .val (.ref b7), .val (.ref b_16), .val (.int (1 : Int32)), .val (.int (0 : Int32)), .val (.int (1 : Int32)), .val (.int (eqU p1 p1)), .val (.int (1 : Int32)), .unset] [(.ref b2)])) _
            refine XS.aload X47.here hx rfl (hb hby at_115) rfl rfl ?_
            show Steps p.tables e below (T47.setTop (mkF m 117 #[.val (.long p1), .second, .val (.long p2), .second, .val (.int p3), .val (.long (pick p1 p2 p3)), .second, .val (.ref b2), .val (.ref b7), .val (.ref b_16), .val (.int (1 : Int32)), .val (.int (0 : Int32)), .val (.int (1 : Int32)), .val (.int (eqU p1 p1)), .val (.int (1 : Int32)), .unset] [(.ref b_16), (.ref b2)])) _
            refine st49.trans ?_
            exact kt
          by_cases hc50 : (eqI ) = (0 : Int32)
          · rw [if_pos hc50] at hf
            refine Go.step (T' := T49) (f' := (mkF m 123 #[.val (.long p1), .second, .val (.long p2), .second, .val (.int p3), .val (.long (pick p1 p2 p3)), .second, .val (.ref b2), .val (.ref b7), .val (.ref b_16), .val (.int (1 : Int32)), .val (.int (0 : Int32)), .val (.int (1 : Int32)), .val (.int (eqU p1 p1)), .val (.int (1 : Int32)), .unset] [])) (fun t kt => ?_) ?_
            · show Steps p.tables e below (T49.setTop (mkF m 120 #[.val (.long p1), .second, .val (.long p2), .second, .val (.int p3), .val (.long (pick p1 p2 p3)), .second, .val (.ref b2), .val (.ref b7), .val (.ref b_16), .val (.int (1 : Int32)), .val (.int (0 : Int32)), .val (.int (1 : Int32)), .val (.int (eqU p1 p1)), .val (.int (1 : Int32)), .unset] [(.int (eqI ))])) _
              refine XS.ifNo X49.here hx rfl (hb hby at_120) rfl ((if0 _ _).trans (teq hc50).2) ?_
              exact kt
            refine Go.step (T' := T49) (f' := (mkF m 160 #[.val (.long p1), .second, .val (.long p2), .second, .val (.int p3), .val (.long (pick p1 p2 p3)), .second, .val (.ref b2), .val (.ref b7), .val (.ref b_16), .val (.int (1 : Int32)), .val (.int (0 : Int32)), .val (.int (1 : Int32)), .val (.int (eqU p1 p1)), .val (.int (1 : Int32)), .val (.int (1 : Int32))] [(.int (0 : Int32))])) (fun t kt => ?_) ?_
            · show Steps p.tables e below (T49.setTop (mkF m 123 #[.val (.long p1), .second, .val (.long p2), .second, .val (.int p3), .val (.long (pick p1 p2 p3)), .second, .val (.ref b2), .val (.ref b7), .val (.ref b_16), .val (.int (1 : Int32)), .val (.int (0 : Int32)), .val (.int (1 : Int32)), .val (.int (eqU p1 p1)), .val (.int (1 : Int32)), .unset] [])) _
              refine XS.iconst X49.here hx rfl (hb hby at_123) ?_
              show Steps p.tables e below (T49.setTop (mkF m 124 #[.val (.long p1), .second, .val (.long p2), .second, .val (.int p3), .val (.long (pick p1 p2 p3)), .second, .val (.ref b2), .val (.ref b7), .val (.ref b_16), .val (.int (1 : Int32)), .val (.int (0 : Int32)), .val (.int (1 : Int32)), .val (.int (eqU p1 p1)), .val (.int (1 : Int32)), .unset] [(.int (1 : Int32))])) _
              refine XS.goto X49.here hx rfl (pc0 := 124) (pc' := 128) rfl (hb hby at_124) (by decide) (by decide) ?_
              show Steps p.tables e below (T49.setTop (mkF m 128 #[.val (.long p1), .second, .val (.long p2), .second, .val (.int p3), .val (.long (pick p1 p2 p3)), .second, .val (.ref b2), .val (.ref b7), .val (.ref b_16), .val (.int (1 : Int32)), .val (.int (0 : Int32)), .val (.int (1 : Int32)), .val (.int (eqU p1 p1)), .val (.int (1 : Int32)), .unset] [(.int (1 : Int32))])) _
              refine XS.istore X49.here hx rfl (hb hby at_128) rfl (l' := #[.val (.long p1), .second, .val (.long p2), .second, .val (.int p3), .val (.long (pick p1 p2 p3)), .second, .val (.ref b2), .val (.ref b7), .val (.ref b_16), .val (.int (1 : Int32)), .val (.int (0 : Int32)), .val (.int (1 : Int32)), .val (.int (eqU p1 p1)), .val (.int (1 : Int32)), .val (.int (1 : Int32))]) rfl ?_
              show Steps p.tables e below (T49.setTop (mkF m 130 #[.val (.long p1), .second, .val (.long p2), .second, .val (.int p3), .val (.long (pick p1 p2 p3)), .second, .val (.ref b2), .val (.ref b7), .val (.ref b_16), .val (.int (1 : Int32)), .val (.int (0 : Int32)), .val (.int (1 : Int32)), .val (.int (eqU p1 p1)), .val (.int (1 : Int32)), .val (.int (1 : Int32))] [])) _
              refine XS.iload X49.here hx rfl (hb hby at_130) rfl ?_
              show Steps p.tables e below (T49.setTop (mkF m 132 #[.val (.long p1), .second, .val (.long p2), .second, .val (.int p3), .val (.long (pick p1 p2 p3)), .second, .val (.ref b2), .val (.ref b7), .val (.ref b_16), .val (.int (1 : Int32)), .val (.int (0 : Int32)), .val (.int (1 : Int32)), .val (.int (eqU p1 p1)), .val (.int (1 : Int32)), .val (.int (1 : Int32))] [(.int (0 : Int32))])) _
              refine XS.ifYes X49.here hx rfl (pc0 := 132) (pc' := 159) rfl (hb hby at_132) rfl ((if0 _ _).trans (teq (by decide : ((0 : Int32) = (0 : Int32)))).1) (by decide) (by decide) ?_
              show Steps p.tables e below (T49.setTop (mkF m 159 #[.val (.long p1), .second, .val (.long p2), .second, .val (.int p3), .val (.long (pick p1 p2 p3)), .second, .val (.ref b2), .val (.ref b7), .val (.ref b_16), .val (.int (1 : Int32)), .val (.int (0 : Int32)), .val (.int (1 : Int32)), .val (.int (eqU p1 p1)), .val (.int (1 : Int32)), .val (.int (1 : Int32))] [])) _
              refine XS.iconst X49.here hx rfl (hb hby at_159) ?_
              exact kt
            refine Go.fin X49 (v := some (.int (0 : Int32))) (fun h => by rw [Bd.returns] at h; cases h) Bd.notSynchronized ?_ (Nat.le_trans (Nat.add_le_add_right (Nat.add_le_add_right (Nat.add_le_add_right (Nat.add_le_add_right (Nat.add_le_add_right (Nat.add_le_add_right (Nat.add_le_add_right (Nat.add_le_add_right (Nat.add_le_add_right (Nat.add_le_add_right (Nat.add_le_add_right (Nat.le_refl 0) 0) 1) 0) 1) 0) 1) 0) 0) 0) 0) 0) (by decide)) (Nat.le_trans (Nat.add_le_add_right (Nat.add_le_add_right (Nat.add_le_add_right (Nat.add_le_add_right (Nat.add_le_add_right (Nat.add_le_add_right (Nat.add_le_add_right (Nat.add_le_add_right (Nat.add_le_add_right (Nat.add_le_add_right (Nat.add_le_add_right (Nat.le_refl 0) 0) 1) 0) 1) 0) 2) 0) 0) 0) 0) 0) (by decide)) (fun fs hr => retN X49 hx (t := .boolean) Bd.returns (by simp) (hb hby at_160) hr)
            · exact ⟨by rw [hf], N49⟩
          · rw [if_neg hc50] at hf
            refine Go.step (T' := T49) (f' := (mkF m 127 #[.val (.long p1), .second, .val (.long p2), .second, .val (.int p3), .val (.long (pick p1 p2 p3)), .second, .val (.ref b2), .val (.ref b7), .val (.ref b_16), .val (.int (1 : Int32)), .val (.int (0 : Int32)), .val (.int (1 : Int32)), .val (.int (eqU p1 p1)), .val (.int (1 : Int32)), .unset] [])) (fun t kt => ?_) ?_
            · show Steps p.tables e below (T49.setTop (mkF m 120 #[.val (.long p1), .second, .val (.long p2), .second, .val (.int p3), .val (.long (pick p1 p2 p3)), .second, .val (.ref b2), .val (.ref b7), .val (.ref b_16), .val (.int (1 : Int32)), .val (.int (0 : Int32)), .val (.int (1 : Int32)), .val (.int (eqU p1 p1)), .val (.int (1 : Int32)), .unset] [(.int (eqI ))])) _
              refine XS.ifYes X49.here hx rfl (pc0 := 120) (pc' := 127) rfl (hb hby at_120) rfl ((if0 _ _).trans (feq hc50).2) (by decide) (by decide) ?_
              exact kt
            refine Go.step (T' := T49) (f' := (mkF m 160 #[.val (.long p1), .second, .val (.long p2), .second, .val (.int p3), .val (.long (pick p1 p2 p3)), .second, .val (.ref b2), .val (.ref b7), .val (.ref b_16), .val (.int (1 : Int32)), .val (.int (0 : Int32)), .val (.int (1 : Int32)), .val (.int (eqU p1 p1)), .val (.int (1 : Int32)), .val (.int (0 : Int32))] [(.int (0 : Int32))])) (fun t kt => ?_) ?_
            · show Steps p.tables e below (T49.setTop (mkF m 127 #[.val (.long p1), .second, .val (.long p2), .second, .val (.int p3), .val (.long (pick p1 p2 p3)), .second, .val (.ref b2), .val (.ref b7), .val (.ref b_16), .val (.int (1 : Int32)), .val (.int (0 : Int32)), .val (.int (1 : Int32)), .val (.int (eqU p1 p1)), .val (.int (1 : Int32)), .unset] [])) _
              refine XS.iconst X49.here hx rfl (hb hby at_127) ?_
              show Steps p.tables e below (T49.setTop (mkF m 128 #[.val (.long p1), .second, .val (.long p2), .second, .val (.int p3), .val (.long (pick p1 p2 p3)), .second, .val (.ref b2), .val (.ref b7), .val (.ref b_16), .val (.int (1 : Int32)), .val (.int (0 : Int32)), .val (.int (1 : Int32)), .val (.int (eqU p1 p1)), .val (.int (1 : Int32)), .unset] [(.int (0 : Int32))])) _
              refine XS.istore X49.here hx rfl (hb hby at_128) rfl (l' := #[.val (.long p1), .second, .val (.long p2), .second, .val (.int p3), .val (.long (pick p1 p2 p3)), .second, .val (.ref b2), .val (.ref b7), .val (.ref b_16), .val (.int (1 : Int32)), .val (.int (0 : Int32)), .val (.int (1 : Int32)), .val (.int (eqU p1 p1)), .val (.int (1 : Int32)), .val (.int (0 : Int32))]) rfl ?_
              show Steps p.tables e below (T49.setTop (mkF m 130 #[.val (.long p1), .second, .val (.long p2), .second, .val (.int p3), .val (.long (pick p1 p2 p3)), .second, .val (.ref b2), .val (.ref b7), .val (.ref b_16), .val (.int (1 : Int32)), .val (.int (0 : Int32)), .val (.int (1 : Int32)), .val (.int (eqU p1 p1)), .val (.int (1 : Int32)), .val (.int (0 : Int32))] [])) _
              refine XS.iload X49.here hx rfl (hb hby at_130) rfl ?_
              show Steps p.tables e below (T49.setTop (mkF m 132 #[.val (.long p1), .second, .val (.long p2), .second, .val (.int p3), .val (.long (pick p1 p2 p3)), .second, .val (.ref b2), .val (.ref b7), .val (.ref b_16), .val (.int (1 : Int32)), .val (.int (0 : Int32)), .val (.int (1 : Int32)), .val (.int (eqU p1 p1)), .val (.int (1 : Int32)), .val (.int (0 : Int32))] [(.int (0 : Int32))])) _
              refine XS.ifYes X49.here hx rfl (pc0 := 132) (pc' := 159) rfl (hb hby at_132) rfl ((if0 _ _).trans (teq (by decide : ((0 : Int32) = (0 : Int32)))).1) (by decide) (by decide) ?_
              show Steps p.tables e below (T49.setTop (mkF m 159 #[.val (.long p1), .second, .val (.long p2), .second, .val (.int p3), .val (.long (pick p1 p2 p3)), .second, .val (.ref b2), .val (.ref b7), .val (.ref b_16), .val (.int (1 : Int32)), .val (.int (0 : Int32)), .val (.int (1 : Int32)), .val (.int (eqU p1 p1)), .val (.int (1 : Int32)), .val (.int (0 : Int32))] [])) _
              refine XS.iconst X49.here hx rfl (hb hby at_159) ?_
              exact kt
            refine Go.fin X49 (v := some (.int (0 : Int32))) (fun h => by rw [Bd.returns] at h; cases h) Bd.notSynchronized ?_ (Nat.le_trans (Nat.add_le_add_right (Nat.add_le_add_right (Nat.add_le_add_right (Nat.add_le_add_right (Nat.add_le_add_right (Nat.add_le_add_right (Nat.add_le_add_right (Nat.add_le_add_right (Nat.add_le_add_right (Nat.add_le_add_right (Nat.add_le_add_right (Nat.le_refl 0) 0) 1) 0) 1) 0) 1) 0) 0) 0) 0) 0) (by decide)) (Nat.le_trans (Nat.add_le_add_right (Nat.add_le_add_right (Nat.add_le_add_right (Nat.add_le_add_right (Nat.add_le_add_right (Nat.add_le_add_right (Nat.add_le_add_right (Nat.add_le_add_right (Nat.add_le_add_right (Nat.add_le_add_right (Nat.add_le_add_right (Nat.le_refl 0) 0) 1) 0) 1) 0) 2) 0) 0) 0) 0) 0) (by decide)) (fun fs hr => retN X49 hx (t := .boolean) Bd.returns (by simp) (hb hby at_160) hr)
            · exact ⟨by rw [hf], N49⟩
        · rw [if_neg hc48] at hf
          refine Go.step (T' := T47) (f' := (mkF m 110 #[.val (.long p1), .second, .val (.long p2), .second, .val (.int p3), .val (.long (pick p1 p2 p3)), .second, .val (.ref b2), .val (.ref b7), .val (.ref b_16), .val (.int (1 : Int32)), .val (.int (0 : Int32)), .val (.int (1 : Int32)), .val (.int (eqU p1 p1)), .unset, .unset] [])) (fun t kt => ?_) ?_
          · show Steps p.tables e below (T47.setTop (mkF m 103 #[.val (.long p1), .second, .val (.long p2), .second, .val (.int p3), .val (.long (pick p1 p2 p3)), .second, .val (.ref b2), .val (.ref b7), .val (.ref b_16), .val (.int (1 : Int32)), .val (.int (0 : Int32)), .val (.int (1 : Int32)), .val (.int (eqU p1 p1)), .unset, .unset] [(.int (eqN ))])) _
            refine XS.ifYes X47.here hx rfl (pc0 := 103) (pc' := 110) rfl (hb hby at_103) rfl ((if0 _ _).trans (feq hc48).2) (by decide) (by decide) ?_
            exact kt
          obtain ⟨cq51, kq51, q51a, q51b, q51c⟩ := isOf hZ e47 (G17 : Exa Z T16.heap b2 "com/example/plumbline/plumbline/model/PlistUid")
          obtain ⟨_, _, ⟨T51, L51, k51, n51⟩, -, X51, ⟨Lc51, hQ51, l51, y51, z51⟩, st51⟩ := X47.virtualBack hx (y := (⟨"com/example/plumbline/plumbline/model/PlistUid", "equals", "(Ljava/lang/Object;)Z"⟩ : MethodName)) (z := (⟨"com/example/plumbline/plumbline/model/PlistUid", "equals", "(Ljava/lang/Object;)Z"⟩ : MethodName)) hown (mvT hZ (hw _ (List.mem_of_getElem? (i := 29) rfl))) (mvT hZ (hw _ (List.mem_of_getElem? (i := 30) rfl))) (notFace_of_selects (args := #[]) (mvT hZ (hw _ (List.mem_of_getElem? (i := 32) rfl)))) (mvT hZ (hw _ (List.mem_of_getElem? (i := 32) rfl))) (mvT hZ (hw _ (List.mem_of_getElem? (i := 31) rfl))) (by decide) (backOf (W := 0) (rm_eqI l Z a0 hw [] b2 b_16  T16.heap n0 Z16 pf16_0 ) hZ (hw _ (List.mem_of_getElem? (i := 33) rfl)) (hw _ (List.mem_of_getElem? (i := 6) rfl)) (by decide) (by decide)) q51a q51c (g := (mkF m 117 #[.val (.long p1), .second, .val (.long p2), .second, .val (.int p3), .val (.long (pick p1 p2 p3)), .second, .val (.ref b2), .val (.ref b7), .val (.ref b_16), .val (.int (1 : Int32)), .val (.int (0 : Int32)), .val (.int (1 : Int32)), .val (.int (eqU p1 p1)), .val (.int (0 : Int32)), .unset] [(.ref b_16), (.ref b2)])) rfl (by rw [hml]; rfl) (Steps.refl _) (argsL := [(.ref b_16)]) (rest := []) (lenOf pd_4 rfl) rfl (by show 2 * 0 + _ ≤ _; exact Nat.le_of_eq rfl) (hb hby at_117) (fun _ _ => ⟨rfl, e47, (Nat.le_trans (Nat.add_le_add_right (Nat.add_le_add_right (Nat.add_le_add_right (Nat.add_le_add_right (Nat.add_le_add_right (Nat.add_le_add_right (Nat.add_le_add_right (Nat.add_le_add_right (Nat.add_le_add_right (Nat.add_le_add_right (Nat.add_le_add_right (Nat.le_refl 0) 0) 1) 0) 1) 0) 1) 0) 0) 0) 0) 0) (by decide)), (Nat.le_trans (Nat.add_le_add_right (Nat.add_le_add_right (Nat.add_le_add_right (Nat.add_le_add_right (Nat.add_le_add_right (Nat.add_le_add_right (Nat.add_le_add_right (Nat.add_le_add_right (Nat.add_le_add_right (Nat.add_le_add_right (Nat.add_le_add_right (Nat.le_refl 0) 0) 1) 0) 1) 0) 2) 0) 0) 0) 0) 0) (by decide))⟩)
          dsimp only [Pt.U, Pt.locs, Pt.cells, Pt.slots] at X51 l51 y51 z51 st51 hQ51
          subst l51 y51 z51
          obtain ⟨rfl, N51q, e51⟩ := hQ51
          have N51 := Fr.app N47 N51q
          refine Go.step (T' := T51) (f' := (mkF m 120 #[.val (.long p1), .second, .val (.long p2), .second, .val (.int p3), .val (.long (pick p1 p2 p3)), .second, .val (.ref b2), .val (.ref b7), .val (.ref b_16), .val (.int (1 : Int32)), .val (.int (0 : Int32)), .val (.int (1 : Int32)), .val (.int (eqU p1 p1)), .val (.int (0 : Int32)), .unset] [(.int (eqI ))])) (fun t kt => ?_) ?_
          · show Steps p.tables e below (T47.setTop (mkF m 110 #[.val (.long p1), .second, .val (.long p2), .second, .val (.int p3), .val (.long (pick p1 p2 p3)), .second, .val (.ref b2), .val (.ref b7), .val (.ref b_16), .val (.int (1 : Int32)), .val (.int (0 : Int32)), .val (.int (1 : Int32)), .val (.int (eqU p1 p1)), .unset, .unset] [])) _
            refine XS.iconst X47.here hx rfl (hb hby at_110) ?_
            show Steps p.tables e below (T47.setTop (mkF m 111 #[.val (.long p1), .second, .val (.long p2), .second, .val (.int p3), .val (.long (pick p1 p2 p3)), .second, .val (.ref b2), .val (.ref b7), .val (.ref b_16), .val (.int (1 : Int32)), .val (.int (0 : Int32)), .val (.int (1 : Int32)), .val (.int (eqU p1 p1)), .unset, .unset] [(.int (0 : Int32))])) _
            refine XS.istore X47.here hx rfl (hb hby at_111) rfl (l' := #[.val (.long p1), .second, .val (.long p2), .second, .val (.int p3), .val (.long (pick p1 p2 p3)), .second, .val (.ref b2), .val (.ref b7), .val (.ref b_16), .val (.int (1 : Int32)), .val (.int (0 : Int32)), .val (.int (1 : Int32)), .val (.int (eqU p1 p1)), .val (.int (0 : Int32)), .unset]) rfl ?_
            show Steps p.tables e below (T47.setTop (mkF m 113 #[.val (.long p1), .second, .val (.long p2), .second, .val (.int p3), .val (.long (pick p1 p2 p3)), .second, .val (.ref b2), .val (.ref b7), .val (.ref b_16), .val (.int (1 : Int32)), .val (.int (0 : Int32)), .val (.int (1 : Int32)), .val (.int (eqU p1 p1)), .val (.int (0 : Int32)), .unset] [])) _
            refine XS.aload X47.here hx rfl (hb hby at_113) rfl rfl ?_
            show Steps p.tables e below (T47.setTop (mkF m 115 #[.val (.long p1), .second, .val (.long p2), .second, .val (.int p3), .val (.long (pick p1 p2 p3)), .second, .val (.ref b2), .val (.ref b7), .val (.ref b_16), .val (.int (1 : Int32)), .val (.int (0 : Int32)), .val (.int (1 : Int32)), .val (.int (eqU p1 p1)), .val (.int (0 : Int32)), .unset] [(.ref b2)])) _
            refine XS.aload X47.here hx rfl (hb hby at_115) rfl rfl ?_
            show Steps p.tables e below (T47.setTop (mkF m 117 #[.val (.long p1), .second, .val (.long p2), .second, .val (.int p3), .val (.long (pick p1 p2 p3)), .second, .val (.ref b2), .val (.ref b7), .val (.ref b_16), .val (.int (1 : Int32)), .val (.int (0 : Int32)), .val (.int (1 : Int32)), .val (.int (eqU p1 p1)), .val (.int (0 : Int32)), .unset] [(.ref b_16), (.ref b2)])) _
            refine st51.trans ?_
            exact kt
          by_cases hc52 : (eqI ) = (0 : Int32)
          · rw [if_pos hc52] at hf
            refine Go.step (T' := T51) (f' := (mkF m 123 #[.val (.long p1), .second, .val (.long p2), .second, .val (.int p3), .val (.long (pick p1 p2 p3)), .second, .val (.ref b2), .val (.ref b7), .val (.ref b_16), .val (.int (1 : Int32)), .val (.int (0 : Int32)), .val (.int (1 : Int32)), .val (.int (eqU p1 p1)), .val (.int (0 : Int32)), .unset] [])) (fun t kt => ?_) ?_
            · show Steps p.tables e below (T51.setTop (mkF m 120 #[.val (.long p1), .second, .val (.long p2), .second, .val (.int p3), .val (.long (pick p1 p2 p3)), .second, .val (.ref b2), .val (.ref b7), .val (.ref b_16), .val (.int (1 : Int32)), .val (.int (0 : Int32)), .val (.int (1 : Int32)), .val (.int (eqU p1 p1)), .val (.int (0 : Int32)), .unset] [(.int (eqI ))])) _
              refine XS.ifNo X51.here hx rfl (hb hby at_120) rfl ((if0 _ _).trans (teq hc52).2) ?_
              exact kt
            refine Go.step (T' := T51) (f' := (mkF m 160 #[.val (.long p1), .second, .val (.long p2), .second, .val (.int p3), .val (.long (pick p1 p2 p3)), .second, .val (.ref b2), .val (.ref b7), .val (.ref b_16), .val (.int (1 : Int32)), .val (.int (0 : Int32)), .val (.int (1 : Int32)), .val (.int (eqU p1 p1)), .val (.int (0 : Int32)), .val (.int (1 : Int32))] [(.int (0 : Int32))])) (fun t kt => ?_) ?_
            · show Steps p.tables e below (T51.setTop (mkF m 123 #[.val (.long p1), .second, .val (.long p2), .second, .val (.int p3), .val (.long (pick p1 p2 p3)), .second, .val (.ref b2), .val (.ref b7), .val (.ref b_16), .val (.int (1 : Int32)), .val (.int (0 : Int32)), .val (.int (1 : Int32)), .val (.int (eqU p1 p1)), .val (.int (0 : Int32)), .unset] [])) _
              refine XS.iconst X51.here hx rfl (hb hby at_123) ?_
              show Steps p.tables e below (T51.setTop (mkF m 124 #[.val (.long p1), .second, .val (.long p2), .second, .val (.int p3), .val (.long (pick p1 p2 p3)), .second, .val (.ref b2), .val (.ref b7), .val (.ref b_16), .val (.int (1 : Int32)), .val (.int (0 : Int32)), .val (.int (1 : Int32)), .val (.int (eqU p1 p1)), .val (.int (0 : Int32)), .unset] [(.int (1 : Int32))])) _
              refine XS.goto X51.here hx rfl (pc0 := 124) (pc' := 128) rfl (hb hby at_124) (by decide) (by decide) ?_
              show Steps p.tables e below (T51.setTop (mkF m 128 #[.val (.long p1), .second, .val (.long p2), .second, .val (.int p3), .val (.long (pick p1 p2 p3)), .second, .val (.ref b2), .val (.ref b7), .val (.ref b_16), .val (.int (1 : Int32)), .val (.int (0 : Int32)), .val (.int (1 : Int32)), .val (.int (eqU p1 p1)), .val (.int (0 : Int32)), .unset] [(.int (1 : Int32))])) _
              refine XS.istore X51.here hx rfl (hb hby at_128) rfl (l' := #[.val (.long p1), .second, .val (.long p2), .second, .val (.int p3), .val (.long (pick p1 p2 p3)), .second, .val (.ref b2), .val (.ref b7), .val (.ref b_16), .val (.int (1 : Int32)), .val (.int (0 : Int32)), .val (.int (1 : Int32)), .val (.int (eqU p1 p1)), .val (.int (0 : Int32)), .val (.int (1 : Int32))]) rfl ?_
              show Steps p.tables e below (T51.setTop (mkF m 130 #[.val (.long p1), .second, .val (.long p2), .second, .val (.int p3), .val (.long (pick p1 p2 p3)), .second, .val (.ref b2), .val (.ref b7), .val (.ref b_16), .val (.int (1 : Int32)), .val (.int (0 : Int32)), .val (.int (1 : Int32)), .val (.int (eqU p1 p1)), .val (.int (0 : Int32)), .val (.int (1 : Int32))] [])) _
              refine XS.iload X51.here hx rfl (hb hby at_130) rfl ?_
              show Steps p.tables e below (T51.setTop (mkF m 132 #[.val (.long p1), .second, .val (.long p2), .second, .val (.int p3), .val (.long (pick p1 p2 p3)), .second, .val (.ref b2), .val (.ref b7), .val (.ref b_16), .val (.int (1 : Int32)), .val (.int (0 : Int32)), .val (.int (1 : Int32)), .val (.int (eqU p1 p1)), .val (.int (0 : Int32)), .val (.int (1 : Int32))] [(.int (0 : Int32))])) _
              refine XS.ifYes X51.here hx rfl (pc0 := 132) (pc' := 159) rfl (hb hby at_132) rfl ((if0 _ _).trans (teq (by decide : ((0 : Int32) = (0 : Int32)))).1) (by decide) (by decide) ?_
              show Steps p.tables e below (T51.setTop (mkF m 159 #[.val (.long p1), .second, .val (.long p2), .second, .val (.int p3), .val (.long (pick p1 p2 p3)), .second, .val (.ref b2), .val (.ref b7), .val (.ref b_16), .val (.int (1 : Int32)), .val (.int (0 : Int32)), .val (.int (1 : Int32)), .val (.int (eqU p1 p1)), .val (.int (0 : Int32)), .val (.int (1 : Int32))] [])) _
              refine XS.iconst X51.here hx rfl (hb hby at_159) ?_
              exact kt
            refine Go.fin X51 (v := some (.int (0 : Int32))) (fun h => by rw [Bd.returns] at h; cases h) Bd.notSynchronized ?_ (Nat.le_trans (Nat.add_le_add_right (Nat.add_le_add_right (Nat.add_le_add_right (Nat.add_le_add_right (Nat.add_le_add_right (Nat.add_le_add_right (Nat.add_le_add_right (Nat.add_le_add_right (Nat.add_le_add_right (Nat.add_le_add_right (Nat.add_le_add_right (Nat.le_refl 0) 0) 1) 0) 1) 0) 1) 0) 0) 0) 0) 0) (by decide)) (Nat.le_trans (Nat.add_le_add_right (Nat.add_le_add_right (Nat.add_le_add_right (Nat.add_le_add_right (Nat.add_le_add_right (Nat.add_le_add_right (Nat.add_le_add_right (Nat.add_le_add_right (Nat.add_le_add_right (Nat.add_le_add_right (Nat.add_le_add_right (Nat.le_refl 0) 0) 1) 0) 1) 0) 2) 0) 0) 0) 0) 0) (by decide)) (fun fs hr => retN X51 hx (t := .boolean) Bd.returns (by simp) (hb hby at_160) hr)
            · exact ⟨by rw [hf], N51⟩
          · rw [if_neg hc52] at hf
            refine Go.step (T' := T51) (f' := (mkF m 127 #[.val (.long p1), .second, .val (.long p2), .second, .val (.int p3), .val (.long (pick p1 p2 p3)), .second, .val (.ref b2), .val (.ref b7), .val (.ref b_16), .val (.int (1 : Int32)), .val (.int (0 : Int32)), .val (.int (1 : Int32)), .val (.int (eqU p1 p1)), .val (.int (0 : Int32)), .unset] [])) (fun t kt => ?_) ?_
            · show Steps p.tables e below (T51.setTop (mkF m 120 #[.val (.long p1), .second, .val (.long p2), .second, .val (.int p3), .val (.long (pick p1 p2 p3)), .second, .val (.ref b2), .val (.ref b7), .val (.ref b_16), .val (.int (1 : Int32)), .val (.int (0 : Int32)), .val (.int (1 : Int32)), .val (.int (eqU p1 p1)), .val (.int (0 : Int32)), .unset] [(.int (eqI ))])) _
              refine XS.ifYes X51.here hx rfl (pc0 := 120) (pc' := 127) rfl (hb hby at_120) rfl ((if0 _ _).trans (feq hc52).2) (by decide) (by decide) ?_
              exact kt
            refine Go.step (T' := T51) (f' := (mkF m 160 #[.val (.long p1), .second, .val (.long p2), .second, .val (.int p3), .val (.long (pick p1 p2 p3)), .second, .val (.ref b2), .val (.ref b7), .val (.ref b_16), .val (.int (1 : Int32)), .val (.int (0 : Int32)), .val (.int (1 : Int32)), .val (.int (eqU p1 p1)), .val (.int (0 : Int32)), .val (.int (0 : Int32))] [(.int (0 : Int32))])) (fun t kt => ?_) ?_
            · show Steps p.tables e below (T51.setTop (mkF m 127 #[.val (.long p1), .second, .val (.long p2), .second, .val (.int p3), .val (.long (pick p1 p2 p3)), .second, .val (.ref b2), .val (.ref b7), .val (.ref b_16), .val (.int (1 : Int32)), .val (.int (0 : Int32)), .val (.int (1 : Int32)), .val (.int (eqU p1 p1)), .val (.int (0 : Int32)), .unset] [])) _
              refine XS.iconst X51.here hx rfl (hb hby at_127) ?_
              show Steps p.tables e below (T51.setTop (mkF m 128 #[.val (.long p1), .second, .val (.long p2), .second, .val (.int p3), .val (.long (pick p1 p2 p3)), .second, .val (.ref b2), .val (.ref b7), .val (.ref b_16), .val (.int (1 : Int32)), .val (.int (0 : Int32)), .val (.int (1 : Int32)), .val (.int (eqU p1 p1)), .val (.int (0 : Int32)), .unset] [(.int (0 : Int32))])) _
              refine XS.istore X51.here hx rfl (hb hby at_128) rfl (l' := #[.val (.long p1), .second, .val (.long p2), .second, .val (.int p3), .val (.long (pick p1 p2 p3)), .second, .val (.ref b2), .val (.ref b7), .val (.ref b_16), .val (.int (1 : Int32)), .val (.int (0 : Int32)), .val (.int (1 : Int32)), .val (.int (eqU p1 p1)), .val (.int (0 : Int32)), .val (.int (0 : Int32))]) rfl ?_
              show Steps p.tables e below (T51.setTop (mkF m 130 #[.val (.long p1), .second, .val (.long p2), .second, .val (.int p3), .val (.long (pick p1 p2 p3)), .second, .val (.ref b2), .val (.ref b7), .val (.ref b_16), .val (.int (1 : Int32)), .val (.int (0 : Int32)), .val (.int (1 : Int32)), .val (.int (eqU p1 p1)), .val (.int (0 : Int32)), .val (.int (0 : Int32))] [])) _
              refine XS.iload X51.here hx rfl (hb hby at_130) rfl ?_
              show Steps p.tables e below (T51.setTop (mkF m 132 #[.val (.long p1), .second, .val (.long p2), .second, .val (.int p3), .val (.long (pick p1 p2 p3)), .second, .val (.ref b2), .val (.ref b7), .val (.ref b_16), .val (.int (1 : Int32)), .val (.int (0 : Int32)), .val (.int (1 : Int32)), .val (.int (eqU p1 p1)), .val (.int (0 : Int32)), .val (.int (0 : Int32))] [(.int (0 : Int32))])) _
              refine XS.ifYes X51.here hx rfl (pc0 := 132) (pc' := 159) rfl (hb hby at_132) rfl ((if0 _ _).trans (teq (by decide : ((0 : Int32) = (0 : Int32)))).1) (by decide) (by decide) ?_
              show Steps p.tables e below (T51.setTop (mkF m 159 #[.val (.long p1), .second, .val (.long p2), .second, .val (.int p3), .val (.long (pick p1 p2 p3)), .second, .val (.ref b2), .val (.ref b7), .val (.ref b_16), .val (.int (1 : Int32)), .val (.int (0 : Int32)), .val (.int (1 : Int32)), .val (.int (eqU p1 p1)), .val (.int (0 : Int32)), .val (.int (0 : Int32))] [])) _
              refine XS.iconst X51.here hx rfl (hb hby at_159) ?_
              exact kt
            refine Go.fin X51 (v := some (.int (0 : Int32))) (fun h => by rw [Bd.returns] at h; cases h) Bd.notSynchronized ?_ (Nat.le_trans (Nat.add_le_add_right (Nat.add_le_add_right (Nat.add_le_add_right (Nat.add_le_add_right (Nat.add_le_add_right (Nat.add_le_add_right (Nat.add_le_add_right (Nat.add_le_add_right (Nat.add_le_add_right (Nat.add_le_add_right (Nat.add_le_add_right (Nat.le_refl 0) 0) 1) 0) 1) 0) 1) 0) 0) 0) 0) 0) (by decide)) (Nat.le_trans (Nat.add_le_add_right (Nat.add_le_add_right (Nat.add_le_add_right (Nat.add_le_add_right (Nat.add_le_add_right (Nat.add_le_add_right (Nat.add_le_add_right (Nat.add_le_add_right (Nat.add_le_add_right (Nat.add_le_add_right (Nat.add_le_add_right (Nat.le_refl 0) 0) 1) 0) 1) 0) 2) 0) 0) 0) 0) 0) (by decide)) (fun fs hr => retN X51 hx (t := .boolean) Bd.returns (by simp) (hb hby at_160) hr)
            · exact ⟨by rw [hf], N51⟩
      · rw [if_neg hc45] at hf
        refine Go.step (T' := T44) (f' := (mkF m 85 #[.val (.long p1), .second, .val (.long p2), .second, .val (.int p3), .val (.long (pick p1 p2 p3)), .second, .val (.ref b2), .val (.ref b7), .val (.ref b_16), .val (.int (1 : Int32)), .val (.int (0 : Int32)), .unset, .unset, .unset, .unset] [])) (fun t kt => ?_) ?_
        · show Steps p.tables e below (T44.setTop (mkF m 78 #[.val (.long p1), .second, .val (.long p2), .second, .val (.int p3), .val (.long (pick p1 p2 p3)), .second, .val (.ref b2), .val (.ref b7), .val (.ref b_16), .val (.int (1 : Int32)), .val (.int (0 : Int32)), .unset, .unset, .unset, .unset] [(.int (1 : Int32)), (.int (eqU (pick p1 p2 p3) p1))])) _
          refine XS.icmpYes X44.here hx rfl (pc0 := 78) (pc' := 85) rfl (hb hby at_78) rfl (feq hc45).2 (by decide) (by decide) ?_
          exact kt
        obtain ⟨cq53, kq53, q53a, q53b, q53c⟩ := isOf hZ e44 (G17 : Exa Z T16.heap b2 "com/example/plumbline/plumbline/model/PlistUid")
        obtain ⟨_, _, ⟨T53, L53, k53, n53⟩, -, X53, ⟨Lc53, hQ53, l53, y53, z53⟩, st53⟩ := X44.virtualBack hx (y := (⟨"com/example/plumbline/plumbline/model/PlistUid", "equals", "(Ljava/lang/Object;)Z"⟩ : MethodName)) (z := (⟨"com/example/plumbline/plumbline/model/PlistUid", "equals", "(Ljava/lang/Object;)Z"⟩ : MethodName)) hown (mvT hZ (hw _ (List.mem_of_getElem? (i := 29) rfl))) (mvT hZ (hw _ (List.mem_of_getElem? (i := 30) rfl))) (notFace_of_selects (args := #[]) (mvT hZ (hw _ (List.mem_of_getElem? (i := 32) rfl)))) (mvT hZ (hw _ (List.mem_of_getElem? (i := 32) rfl))) (mvT hZ (hw _ (List.mem_of_getElem? (i := 31) rfl))) (by decide) (backOf (W := 0) (rm_eqU l Z a0 hw [] b2 b2 p1 p1 T16.heap n0 Z16 G17 G18 G18 ) hZ (hw _ (List.mem_of_getElem? (i := 33) rfl)) (hw _ (List.mem_of_getElem? (i := 6) rfl)) (by decide) (by decide)) q53a q53c (g := (mkF m 92 #[.val (.long p1), .second, .val (.long p2), .second, .val (.int p3), .val (.long (pick p1 p2 p3)), .second, .val (.ref b2), .val (.ref b7), .val (.ref b_16), .val (.int (1 : Int32)), .val (.int (0 : Int32)), .val (.int (0 : Int32)), .unset, .unset, .unset] [(.ref b2), (.ref b2)])) rfl (by rw [hml]; rfl) (Steps.refl _) (argsL := [(.ref b2)]) (rest := []) (lenOf pd_4 rfl) rfl (by show 2 * 0 + _ ≤ _; exact Nat.le_of_eq rfl) (hb hby at_92) (fun _ _ => ⟨rfl, e44, (Nat.le_trans (Nat.add_le_add_right (Nat.add_le_add_right (Nat.add_le_add_right (Nat.add_le_add_right (Nat.add_le_add_right (Nat.add_le_add_right (Nat.add_le_add_right (Nat.add_le_add_right (Nat.add_le_add_right (Nat.le_refl 0) 0) 1) 0) 1) 0) 1) 0) 0) 0) (by decide)), (Nat.le_trans (Nat.add_le_add_right (Nat.add_le_add_right (Nat.add_le_add_right (Nat.add_le_add_right (Nat.add_le_add_right (Nat.add_le_add_right (Nat.add_le_add_right (Nat.add_le_add_right (Nat.add_le_add_right (Nat.le_refl 0) 0) 1) 0) 1) 0) 2) 0) 0) 0) (by decide))⟩)
        dsimp only [Pt.U, Pt.locs, Pt.cells, Pt.slots] at X53 l53 y53 z53 st53 hQ53
        subst l53 y53 z53
        obtain ⟨rfl, N53q, e53⟩ := hQ53
        have N53 := Fr.app N44 N53q
        obtain ⟨cq54, kq54, q54a, q54b, q54c⟩ := isOf hZ e53 (G17 : Exa Z T16.heap b2 "com/example/plumbline/plumbline/model/PlistUid")
        obtain ⟨_, _, ⟨T54, L54, k54, n54⟩, -, X54, ⟨Lc54, hQ54, l54, y54, z54⟩, st54⟩ := X53.virtualBack hx (y := (⟨"com/example/plumbline/plumbline/model/PlistUid", "equals", "(Ljava/lang/Object;)Z"⟩ : MethodName)) (z := (⟨"com/example/plumbline/plumbline/model/PlistUid", "equals", "(Ljava/lang/Object;)Z"⟩ : MethodName)) hown (mvT hZ (hw _ (List.mem_of_getElem? (i := 29) rfl))) (mvT hZ (hw _ (List.mem_of_getElem? (i := 30) rfl))) (notFace_of_selects (args := #[]) (mvT hZ (hw _ (List.mem_of_getElem? (i := 32) rfl)))) (mvT hZ (hw _ (List.mem_of_getElem? (i := 32) rfl))) (mvT hZ (hw _ (List.mem_of_getElem? (i := 31) rfl))) (by decide) (backOf (W := 0) (rm_eqN l Z a0 hw [] b2  T16.heap n0 Z16  ) hZ (hw _ (List.mem_of_getElem? (i := 33) rfl)) (hw _ (List.mem_of_getElem? (i := 6) rfl)) (by decide) (by decide)) q54a q54c (g := (mkF m 100 #[.val (.long p1), .second, .val (.long p2), .second, .val (.int p3), .val (.long (pick p1 p2 p3)), .second, .val (.ref b2), .val (.ref b7), .val (.ref b_16), .val (.int (1 : Int32)), .val (.int (0 : Int32)), .val (.int (0 : Int32)), .val (.int (eqU p1 p1)), .unset, .unset] [.null, (.ref b2)])) rfl (by rw [hml]; rfl) (Steps.refl _) (argsL := [.null]) (rest := []) (lenOf pd_4 rfl) rfl (by show 2 * 0 + _ ≤ _; exact Nat.le_of_eq rfl) (hb hby at_100) (fun _ _ => ⟨rfl, e53, (Nat.le_trans (Nat.add_le_add_right (Nat.add_le_add_right (Nat.add_le_add_right (Nat.add_le_add_right (Nat.add_le_add_right (Nat.add_le_add_right (Nat.add_le_add_right (Nat.add_le_add_right (Nat.add_le_add_right (Nat.add_le_add_right (Nat.le_refl 0) 0) 1) 0) 1) 0) 1) 0) 0) 0) 0) (by decide)), (Nat.le_trans (Nat.add_le_add_right (Nat.add_le_add_right (Nat.add_le_add_right (Nat.add_le_add_right (Nat.add_le_add_right (Nat.add_le_add_right (Nat.add_le_add_right (Nat.add_le_add_right (Nat.add_le_add_right (Nat.add_le_add_right (Nat.le_refl 0) 0) 1) 0) 1) 0) 2) 0) 0) 0) 0) (by decide))⟩)
        dsimp only [Pt.U, Pt.locs, Pt.cells, Pt.slots] at X54 l54 y54 z54 st54 hQ54
        subst l54 y54 z54
        obtain ⟨rfl, N54q, e54⟩ := hQ54
        have N54 := Fr.app N53 N54q
        refine Go.step (T' := T54) (f' := (mkF m 103 #[.val (.long p1), .second, .val (.long p2), .second, .val (.int p3), .val (.long (pick p1 p2 p3)), .second, .val (.ref b2), .val (.ref b7), .val (.ref b_16), .val (.int (1 : Int32)), .val (.int (0 : Int32)), .val (.int (0 : Int32)), .val (.int (eqU p1 p1)), .unset, .unset] [(.int (eqN ))])) (fun t kt => ?_) ?_
        · show Steps p.tables e below (T44.setTop (mkF m 85 #[.val (.long p1), .second, .val (.long p2), .second, .val (.int p3), .val (.long (pick p1 p2 p3)), .second, .val (.ref b2), .val (.ref b7), .val (.ref b_16), .val (.int (1 : Int32)), .val (.int (0 : Int32)), .unset, .unset, .unset, .unset] [])) _
          refine XS.iconst X44.here hx rfl (hb hby at_85) ?_
          show Steps p.tables e below (T44.setTop (mkF m 86 #[.val (.long p1), .second, .val (.long p2), .second, .val (.int p3), .val (.long (pick p1 p2 p3)), .second, .val (.ref b2), .val (.ref b7), .val (.ref b_16), .val (.int (1 : Int32)), .val (.int (0 : Int32)), .unset, .unset, .unset, .unset] [(.int (0 : Int32))])) _
          refine XS.istore X44.here hx rfl (hb hby at_86) rfl (l' := #[.val (.long p1), .second, .val (.long p2), .second, .val (.int p3), .val (.long (pick p1 p2 p3)), .second, .val (.ref b2), .val (.ref b7), .val (.ref b_16), .val (.int (1 : Int32)), .val (.int (0 : Int32)), .val (.int (0 : Int32)), .unset, .unset, .unset]) rfl ?_
          show Steps p.tables e below (T44.setTop (mkF m 88 #[.val (.long p1), .second, .val (.long p2), .second, .val (.int p3), .val (.long (pick p1 p2 p3)), .second, .val (.ref b2), .val (.ref b7), .val (.ref b_16), .val (.int (1 : Int32)), .val (.int (0 : Int32)), .val (.int (0 : Int32)), .unset, .unset, .unset] [])) _
          refine XS.aload X44.here hx rfl (hb hby at_88) rfl rfl ?_
          show Steps p.tables e below (T44.setTop (mkF m 90 #[.val (.long p1), .second, .val (.long p2), .second, .val (.int p3), .val (.long (pick p1 p2 p3)), .second, .val (.ref b2), .val (.ref b7), .val (.ref b_16), .val (.int (1 : Int32)), .val (.int (0 : Int32)), .val (.int (0 : Int32)), .unset, .unset, .unset] [(.ref b2)])) _
          refine XS.aload X44.here hx rfl (hb hby at_90) rfl rfl ?_
          show Steps p.tables e below (T44.setTop (mkF m 92 #[.val (.long p1), .second, .val (.long p2), .second, .val (.int p3), .val (.long (pick p1 p2 p3)), .second, .val (.ref b2), .val (.ref b7), .val (.ref b_16), .val (.int (1 : Int32)), .val (.int (0 : Int32)), .val (.int (0 : Int32)), .unset, .unset, .unset] [(.ref b2), (.ref b2)])) _
          refine st53.trans ?_
          show Steps p.tables e below (T53.setTop (mkF m 95 #[.val (.long p1), .second, .val (.long p2), .second, .val (.int p3), .val (.long (pick p1 p2 p3)), .second, .val (.ref b2), .val (.ref b7), .val (.ref b_16), .val (.int (1 : Int32)), .val (.int (0 : Int32)), .val (.int (0 : Int32)), .unset, .unset, .unset] [(.int (eqU p1 p1))])) _
          refine XS.istore X53.here hx rfl (hb hby at_95) rfl (l' := #[.val (.long p1), .second, .val (.long p2), .second, .val (.int p3), .val (.long (pick p1 p2 p3)), .second, .val (.ref b2), .val (.ref b7), .val (.ref b_16), .val (.int (1 : Int32)), .val (.int (0 : Int32)), .val (.int (0 : Int32)), .val (.int (eqU p1 p1)), .unset, .unset]) rfl ?_
          show Steps p.tables e below (T53.setTop (mkF m 97 #[.val (.long p1), .second, .val (.long p2), .second, .val (.int p3), .val (.long (pick p1 p2 p3)), .second, .val (.ref b2), .val (.ref b7), .val (.ref b_16), .val (.int (1 : Int32)), .val (.int (0 : Int32)), .val (.int (0 : Int32)), .val (.int (eqU p1 p1)), .unset, .unset] [])) _
          refine XS.aload X53.here hx rfl (hb hby at_97) rfl rfl ?_
          show Steps p.tables e below (T53.setTop (mkF m 99 #[.val (.long p1), .second, .val (.long p2), .second, .val (.int p3), .val (.long (pick p1 p2 p3)), .second, .val (.ref b2), .val (.ref b7), .val (.ref b_16), .val (.int (1 : Int32)), .val (.int (0 : Int32)), .val (.int (0 : Int32)), .val (.int (eqU p1 p1)), .unset, .unset] [(.ref b2)])) _
          refine XS.aconstNull X53.here hx rfl (hb hby at_99) ?_
          show Steps p.tables e below (T53.setTop (mkF m 100 #[.val (.long p1), .second, .val (.long p2), .second, .val (.int p3), .val (.long (pick p1 p2 p3)), .second, .val (.ref b2), .val (.ref b7), .val (.ref b_16), .val (.int (1 : Int32)), .val (.int (0 : Int32)), .val (.int (0 : Int32)), .val (.int (eqU p1 p1)), .unset, .unset] [.null, (.ref b2)])) _
          refine st54.trans ?_
          exact kt
        by_cases hc55 : (eqN ) = (0 : Int32)
        · rw [if_pos hc55] at hf
          refine Go.step (T' := T54) (f' := (mkF m 106 #[.val (.long p1), .second, .val (.long p2), .second, .val (.int p3), .val (.long (pick p1 p2 p3)), .second, .val (.ref b2), .val (.ref b7), .val (.ref b_16), .val (.int (1 : Int32)), .val (.int (0 : Int32)), .val (.int (0 : Int32)), .val (.int (eqU p1 p1)), .unset, .unset] [])) (fun t kt => ?_) ?_
          · show Steps p.tables e below (T54.setTop (mkF m 103 #[.val (.long p1), .second, .val (.long p2), .second, .val (.int p3), .val (.long (pick p1 p2 p3)), .second, .val (.ref b2), .val (.ref b7), .val (.ref b_16), .val (.int (1 : Int32)), .val (.int (0 : Int32)), .val (.int (0 : Int32)), .val (.int (eqU p1 p1)), .unset, .unset] [(.int (eqN ))])) _
            refine XS.ifNo X54.here hx rfl (hb hby at_103) rfl ((if0 _ _).trans (teq hc55).2) ?_
            exact kt
          obtain ⟨cq56, kq56, q56a, q56b, q56c⟩ := isOf hZ e54 (G17 : Exa Z T16.heap b2 "com/example/plumbline/plumbline/model/PlistUid")
          obtain ⟨_, _, ⟨T56, L56, k56, n56⟩, -, X56, ⟨Lc56, hQ56, l56, y56, z56⟩, st56⟩ := X54.virtualBack hx (y := (⟨"com/example/plumbline/plumbline/model/PlistUid", "equals", "(Ljava/lang/Object;)Z"⟩ : MethodName)) (z := (⟨"com/example/plumbline/plumbline/model/PlistUid", "equals", "(Ljava/lang/Object;)Z"⟩ : MethodName)) hown (mvT hZ (hw _ (List.mem_of_getElem? (i := 29) rfl))) (mvT hZ (hw _ (List.mem_of_getElem? (i := 30) rfl))) (notFace_of_selects (args := #[]) (mvT hZ (hw _ (List.mem_of_getElem? (i := 32) rfl)))) (mvT hZ (hw _ (List.mem_of_getElem? (i := 32) rfl))) (mvT hZ (hw _ (List.mem_of_getElem? (i := 31) rfl))) (by decide) (backOf (W := 0) (rm_eqI l Z a0 hw [] b2 b_16  T16.heap n0 Z16 pf16_0 ) hZ (hw _ (List.mem_of_getElem? (i := 33) rfl)) (hw _ (List.mem_of_getElem? (i := 6) rfl)) (by decide) (by decide)) q56a q56c (g := (mkF m 117 #[.val (.long p1), .second, .val (.long p2), .second, .val (.int p3), .val (.long (pick p1 p2 p3)), .second, .val (.ref b2), .val (.ref b7), .val (.ref b_16), .val (.int (1 : Int32)), .val (.int (0 : Int32)), .val (.int (0 : Int32)), .val (.int (eqU p1 p1)), .val (.int (1 : Int32)), .unset] [(.ref b_16), (.ref b2)])) rfl (by rw [hml]; rfl) (Steps.refl _) (argsL := [(.ref b_16)]) (rest := []) (lenOf pd_4 rfl) rfl (by show 2 * 0 + _ ≤ _; exact Nat.le_of_eq rfl) (hb hby at_117) (fun _ _ => ⟨rfl, e54, (Nat.le_trans (Nat.add_le_add_right (Nat.add_le_add_right (Nat.add_le_add_right (Nat.add_le_add_right (Nat.add_le_add_right (Nat.add_le_add_right (Nat.add_le_add_right (Nat.add_le_add_right (Nat.add_le_add_right (Nat.add_le_add_right (Nat.add_le_add_right (Nat.le_refl 0) 0) 1) 0) 1) 0) 1) 0) 0) 0) 0) 0) (by decide)), (Nat.le_trans (Nat.add_le_add_right (Nat.add_le_add_right (Nat.add_le_add_right (Nat.add_le_add_right (Nat.add_le_add_right (Nat.add_le_add_right (Nat.add_le_add_right (Nat.add_le_add_right (Nat.add_le_add_right (Nat.add_le_add_right (Nat.add_le_add_right (Nat.le_refl 0) 0) 1) 0) 1) 0) 2) 0) 0) 0) 0) 0) (by decide))⟩)
          dsimp only [Pt.U, Pt.locs, Pt.cells, Pt.slots] at X56 l56 y56 z56 st56 hQ56
          subst l56 y56 z56
          obtain ⟨rfl, N56q, e56⟩ := hQ56
          have N56 := Fr.app N54 N56q
          refine Go.step (T' := T56) (f' := (mkF m 120 #[.val (.long p1), .second, .val (.long p2), .second, .val (.int p3), .val (.long (pick p1 p2 p3)), .second, .val (.ref b2), .val (.ref b7), .val (.ref b_16), .val (.int (1 : Int32)), .val (.int (0 : Int32)), .val (.int (0 : Int32)), .val (.int (eqU p1 p1)), .val (.int (1 : Int32)), .unset] [(.int (eqI ))])) (fun t kt => ?_) ?_
          · show Steps p.tables e below (T54.setTop (mkF m 106 #[.val (.long p1), .second, .val (.long p2), .second, .val (.int p3), .val (.long (pick p1 p2 p3)), .second, .val (.ref b2), .val (.ref b7), .val (.ref b_16), .val (.int (1 : Int32)), .val (.int (0 : Int32)), .val (.int (0 : Int32)), .val (.int (eqU p1 p1)), .unset, .unset] [])) _
            refine XS.iconst X54.here hx rfl (hb hby at_106) ?_
            show Steps p.tables e below (T54.setTop (mkF m 107 #[.val (.long p1), .second, .val (.long p2), .second, .val (.int p3), .val (.long (pick p1 p2 p3)), .second, .val (.ref b2), .val (.ref b7), .val (.ref b_16), .val (.int (1 : Int32)), .val (.int (0 : Int32)), .val (.int (0 : Int32)), .val (.int (eqU p1 p1)), .unset, .unset] [(.int (1 : Int32))])) _
            refine XS.goto X54.here hx rfl (pc0 := 107) (pc' := 111) rfl (hb hby at_107) (by decide) (by decide) ?_
            show Steps p.tables e below (T54.setTop (mkF m 111 #[.val (.long p1), .second, .val (.long p2), .second, .val (.int p3), .val (.long (pick p1 p2 p3)), .second, .val (.ref b2), .val (.ref b7), .val (.ref b_16), .val (.int (1 : Int32)), .val (.int (0 : Int32)), .val (.int (0 : Int32)), .val (.int (eqU p1 p1)), .unset, .unset] [(.int (1 : Int32))])) _
            refine XS.istore X54.here hx rfl (hb hby at_111) rfl (l' := #[.val (.long p1), .second, .val (.long p2), .second, .val (.int p3), .val (.long (pick p1 p2 p3)), .second, .val (.ref b2), .val (.ref b7), .val (.ref b_16), .val (.int (1 : Int32)), .val (.int (0 : Int32)), .val (.int (0 : Int32)), .val (.int (eqU p1 p1)), .val (.int (1 : Int32)), .unset]) rfl ?_
            show Steps p.tables e below (T54.setTop (mkF m 113 #[.val (.long p1), .second, .val (.long p2), .second, .val (.int p3), .val (.long (pick p1 p2 p3)), .second, .val (.ref b2), .val (.ref b7), .val (.ref b_16), .val (.int (1 : Int32)), .val (.int (0 : Int32)), .val (.int (0 : Int32)), .val (.int (eqU p1 p1)), .val (.int (1 : Int32)), .unset] [])) _
            refine XS.aload X54.here hx rfl (hb hby at_113) rfl rfl ?_
            show Steps p.tables e below (T54.setTop (mkF m 115 #[.val (.long p1), .second, .val (.long p2), .second, .val (.int p3), .val (.long (pick p1 p2 p3)), .second, .val (.ref b2), .val (.ref b7), .val (.ref b_16), .val (.int (1 : Int32)), .val (.int (0 : Int32)), .val (.int (0 : Int32)), .val (.int (eqU p1 p1)), .val (.int (1 : Int32)), .unset] [(.ref b2)])) _
            refine XS.aload X54.here hx rfl (hb hby at_115) rfl rfl ?_
            show Steps p.tables e below (T54.setTop (mkF m 117 #[.val (.long p1), .second, .val (.long p2), .second, .val (.int p3), .val (.long (pick p1 p2 p3)), .second, .val (.ref b2), .val (.ref b7), .val (.ref b_16), .val (.int (1 : Int32)), .val (.int (0 : Int32)), .val (.int (0 : Int32)), .val (.int (eqU p1 p1)), .val (.int (1 : Int32)), .unset] [(.ref b_16), (.ref b2)])) _
            refine st56.trans ?_
            exact kt
          by_cases hc57 : (eqI ) = (0 : Int32)
          · rw [if_pos hc57] at hf
            refine Go.step (T' := T56) (f' := (mkF m 123 #[.val (.long p1), .second, .val (.long p2), .second, .val (.int p3), .val (.long (pick p1 p2 p3)), .second, .val (.ref b2), .val (.ref b7), .val (.ref b_16), .val (.int (1 : Int32)), .val (.int (0 : Int32)), .val (.int (0 : Int32)), .val (.int (eqU p1 p1)), .val (.int (1 : Int32)), .unset] [])) (fun t kt => ?_) ?_
            · show Steps p.tables e below (T56.setTop (mkF m 120 #[.val (.long p1), .second, .val (.long p2), .second, .val (.int p3), .val (.long (pick p1 p2 p3)), .second, .val (.ref b2), .val (.ref b7), .val (.ref b_16), .val (.int (1 : Int32)), .val (.int (0 : Int32)), .val (.int (0 : Int32)), .val (.int (eqU p1 p1)), .val (.int (1 : Int32)), .unset] [(.int (eqI ))])) _
              refine XS.ifNo X56.here hx rfl (hb hby at_120) rfl ((if0 _ _).trans (teq hc57).2) ?_
              exact kt
            refine Go.step (T' := T56) (f' := (mkF m 160 #[.val (.long p1), .second, .val (.long p2), .second, .val (.int p3), .val (.long (pick p1 p2 p3)), .second, .val (.ref b2), .val (.ref b7), .val (.ref b_16), .val (.int (1 : Int32)), .val (.int (0 : Int32)), .val (.int (0 : Int32)), .val (.int (eqU p1 p1)), .val (.int (1 : Int32)), .val (.int (1 : Int32))] [(.int (0 : Int32))])) (fun t kt => ?_) ?_
            · show Steps p.tables e below (T56.setTop (mkF m 123 #[.val (.long p1), .second, .val (.long p2), .second, .val (.int p3), .val (.long (pick p1 p2 p3)), .second, .val (.ref b2), .val (.ref b7), .val (.ref b_16), .val (.int (1 : Int32)), .val (.int (0 : Int32)), .val (.int (0 : Int32)), .val (.int (eqU p1 p1)), .val (.int (1 : Int32)), .unset] [])) _
              refine XS.iconst X56.here hx rfl (hb hby at_123) ?_
              show Steps p.tables e below (T56.setTop (mkF m 124 #[.val (.long p1), .second, .val (.long p2), .second, .val (.int p3), .val (.long (pick p1 p2 p3)), .second, .val (.ref b2), .val (.ref b7), .val (.ref b_16), .val (.int (1 : Int32)), .val (.int (0 : Int32)), .val (.int (0 : Int32)), .val (.int (eqU p1 p1)), .val (.int (1 : Int32)), .unset] [(.int (1 : Int32))])) _
              refine XS.goto X56.here hx rfl (pc0 := 124) (pc' := 128) rfl (hb hby at_124) (by decide) (by decide) ?_
              show Steps p.tables e below (T56.setTop (mkF m 128 #[.val (.long p1), .second, .val (.long p2), .second, .val (.int p3), .val (.long (pick p1 p2 p3)), .second, .val (.ref b2), .val (.ref b7), .val (.ref b_16), .val (.int (1 : Int32)), .val (.int (0 : Int32)), .val (.int (0 : Int32)), .val (.int (eqU p1 p1)), .val (.int (1 : Int32)), .unset] [(.int (1 : Int32))])) _
              refine XS.istore X56.here hx rfl (hb hby at_128) rfl (l' := #[.val (.long p1), .second, .val (.long p2), .second, .val (.int p3), .val (.long (pick p1 p2 p3)), .second, .val (.ref b2), .val (.ref b7), .val (.ref b_16), .val (.int (1 : Int32)), .val (.int (0 : Int32)), .val (.int (0 : Int32)), .val (.int (eqU p1 p1)), .val (.int (1 : Int32)), .val (.int (1 : Int32))]) rfl ?_
              show Steps p.tables e below (T56.setTop (mkF m 130 #[.val (.long p1), .second, .val (.long p2), .second, .val (.int p3), .val (.long (pick p1 p2 p3)), .second, .val (.ref b2), .val (.ref b7), .val (.ref b_16), .val (.int (1 : Int32)), .val (.int (0 : Int32)), .val (.int (0 : Int32)), .val (.int (eqU p1 p1)), .val (.int (1 : Int32)), .val (.int (1 : Int32))] [])) _
              refine XS.iload X56.here hx rfl (hb hby at_130) rfl ?_
              show Steps p.tables e below (T56.setTop (mkF m 132 #[.val (.long p1), .second, .val (.long p2), .second, .val (.int p3), .val (.long (pick p1 p2 p3)), .second, .val (.ref b2), .val (.ref b7), .val (.ref b_16), .val (.int (1 : Int32)), .val (.int (0 : Int32)), .val (.int (0 : Int32)), .val (.int (eqU p1 p1)), .val (.int (1 : Int32)), .val (.int (1 : Int32))] [(.int (0 : Int32))])) _
              refine XS.ifYes X56.here hx rfl (pc0 := 132) (pc' := 159) rfl (hb hby at_132) rfl ((if0 _ _).trans (teq (by decide : ((0 : Int32) = (0 : Int32)))).1) (by decide) (by decide) ?_
              show Steps p.tables e below (T56.setTop (mkF m 159 #[.val (.long p1), .second, .val (.long p2), .second, .val (.int p3), .val (.long (pick p1 p2 p3)), .second, .val (.ref b2), .val (.ref b7), .val (.ref b_16), .val (.int (1 : Int32)), .val (.int (0 : Int32)), .val (.int (0 : Int32)), .val (.int (eqU p1 p1)), .val (.int (1 : Int32)), .val (.int (1 : Int32))] [])) _
              refine XS.iconst X56.here hx rfl (hb hby at_159) ?_
              exact kt
            refine Go.fin X56 (v := some (.int (0 : Int32))) (fun h => by rw [Bd.returns] at h; cases h) Bd.notSynchronized ?_ (Nat.le_trans (Nat.add_le_add_right (Nat.add_le_add_right (Nat.add_le_add_right (Nat.add_le_add_right (Nat.add_le_add_right (Nat.add_le_add_right (Nat.add_le_add_right (Nat.add_le_add_right (Nat.add_le_add_right (Nat.add_le_add_right (Nat.add_le_add_right (Nat.le_refl 0) 0) 1) 0) 1) 0) 1) 0) 0) 0) 0) 0) (by decide)) (Nat.le_trans (Nat.add_le_add_right (Nat.add_le_add_right (Nat.add_le_add_right (Nat.add_le_add_right (Nat.add_le_add_right (Nat.add_le_add_right (Nat.add_le_add_right (Nat.add_le_add_right (Nat.add_le_add_right (Nat.add_le_add_right (Nat.add_le_add_right (Nat.le_refl 0) 0) 1) 0) 1) 0) 2) 0) 0) 0) 0) 0) (by decide)) (fun fs hr => retN X56 hx (t := .boolean) Bd.returns (by simp) (hb hby at_160) hr)
            · exact ⟨by rw [hf], N56⟩
          · rw [if_neg hc57] at hf
            refine Go.step (T' := T56) (f' := (mkF m 127 #[.val (.long p1), .second, .val (.long p2), .second, .val (.int p3), .val (.long (pick p1 p2 p3)), .second, .val (.ref b2), .val (.ref b7), .val (.ref b_16), .val (.int (1 : Int32)), .val (.int (0 : Int32)), .val (.int (0 : Int32)), .val (.int (eqU p1 p1)), .val (.int (1 : Int32)), .unset] [])) (fun t kt => ?_) ?_
            · show Steps p.tables e below (T56.setTop (mkF m 120 #[.val (.long p1), .second, .val (.long p2), .second, .val (.int p3), .val (.long (pick p1 p2 p3)), .second, .val (.ref b2), .val (.ref b7), .val (.ref b_16), .val (.int (1 : Int32)), .val (.int (0 : Int32)), .val (.int (0 : Int32)), .val (.int (eqU p1 p1)), .val (.int (1 : Int32)), .unset] [(.int (eqI ))])) _
              refine XS.ifYes X56.here hx rfl (pc0 := 120) (pc' := 127) rfl (hb hby at_120) rfl ((if0 _ _).trans (feq hc57).2) (by decide) (by decide) ?_
              exact kt
            refine Go.step (T' := T56) (f' := (mkF m 160 #[.val (.long p1), .second, .val (.long p2), .second, .val (.int p3), .val (.long (pick p1 p2 p3)), .second, .val (.ref b2), .val (.ref b7), .val (.ref b_16), .val (.int (1 : Int32)), .val (.int (0 : Int32)), .val (.int (0 : Int32)), .val (.int (eqU p1 p1)), .val (.int (1 : Int32)), .val (.int (0 : Int32))] [(.int (0 : Int32))])) (fun t kt => ?_) ?_
            · show Steps p.tables e below (T56.setTop (mkF m 127 #[.val (.long p1), .second, .val (.long p2), .second, .val (.int p3), .val (.long (pick p1 p2 p3)), .second, .val (.ref b2), .val (.ref b7), .val (.ref b_16), .val (.int (1 : Int32)), .val (.int (0 : Int32)), .val (.int (0 : Int32)), .val (.int (eqU p1 p1)), .val (.int (1 : Int32)), .unset] [])) _
              refine XS.iconst X56.here hx rfl (hb hby at_127) ?_
              show Steps p.tables e below (T56.setTop (mkF m 128 #[.val (.long p1), .second, .val (.long p2), .second, .val (.int p3), .val (.long (pick p1 p2 p3)), .second, .val (.ref b2), .val (.ref b7), .val (.ref b_16), .val (.int (1 : Int32)), .val (.int (0 : Int32)), .val (.int (0 : Int32)), .val (.int (eqU p1 p1)), .val (.int (1 : Int32)), .unset] [(.int (0 : Int32))])) _
              refine XS.istore X56.here hx rfl (hb hby at_128) rfl (l' := #[.val (.long p1), .second, .val (.long p2), .second, .val (.int p3), .val (.long (pick p1 p2 p3)), .second, .val (.ref b2), .val (.ref b7), .val (.ref b_16), .val (.int (1 : Int32)), .val (.int (0 : Int32)), .val (.int (0 : Int32)), .val (.int (eqU p1 p1)), .val (.int (1 : Int32)), .val (.int (0 : Int32))]) rfl ?_
              show Steps p.tables e below (T56.setTop (mkF m 130 #[.val (.long p1), .second, .val (.long p2), .second, .val (.int p3), .val (.long (pick p1 p2 p3)), .second, .val (.ref b2), .val (.ref b7), .val (.ref b_16), .val (.int (1 : Int32)), .val (.int (0 : Int32)), .val (.int (0 : Int32)), .val (.int (eqU p1 p1)), .val (.int (1 : Int32)), .val (.int (0 : Int32))] [])) _
              refine XS.iload X56.here hx rfl (hb hby at_130) rfl ?_
              show Steps p.tables e below (T56.setTop (mkF m 132 #[.val (.long p1), .second, .val (.long p2), .second, .val (.int p3), .val (.long (pick p1 p2 p3)), .second, .val (.ref b2), .val (.ref b7), .val (.ref b_16), .val (.int (1 : Int32)), .val (.int (0 : Int32)), .val (.int (0 : Int32)), .val (.int (eqU p1 p1)), .val (.int (1 : Int32)), .val (.int (0 : Int32))] [(.int (0 : Int32))])) _
              refine XS.ifYes X56.here hx rfl (pc0 := 132) (pc' := 159) rfl (hb hby at_132) rfl ((if0 _ _).trans (teq (by decide : ((0 : Int32) = (0 : Int32)))).1) (by decide) (by decide) ?_
              show Steps p.tables e below (T56.setTop (mkF m 159 #[.val (.long p1), .second, .val (.long p2), .second, .val (.int p3), .val (.long (pick p1 p2 p3)), .second, .val (.ref b2), .val (.ref b7), .val (.ref b_16), .val (.int (1 : Int32)), .val (.int (0 : Int32)), .val (.int (0 : Int32)), .val (.int (eqU p1 p1)), .val (.int (1 : Int32)), .val (.int (0 : Int32))] [])) _
              refine XS.iconst X56.here hx rfl (hb hby at_159) ?_
              exact kt
            refine Go.fin X56 (v := some (.int (0 : Int32))) (fun h => by rw [Bd.returns] at h; cases h) Bd.notSynchronized ?_ (Nat.le_trans (Nat.add_le_add_right (Nat.add_le_add_right (Nat.add_le_add_right (Nat.add_le_add_right (Nat.add_le_add_right (Nat.add_le_add_right (Nat.add_le_add_right (Nat.add_le_add_right (Nat.add_le_add_right (Nat.add_le_add_right (Nat.add_le_add_right (Nat.le_refl 0) 0) 1) 0) 1) 0) 1) 0) 0) 0) 0) 0) (by decide)) (Nat.le_trans (Nat.add_le_add_right (Nat.add_le_add_right (Nat.add_le_add_right (Nat.add_le_add_right (Nat.add_le_add_right (Nat.add_le_add_right (Nat.add_le_add_right (Nat.add_le_add_right (Nat.add_le_add_right (Nat.add_le_add_right (Nat.add_le_add_right (Nat.le_refl 0) 0) 1) 0) 1) 0) 2) 0) 0) 0) 0) 0) (by decide)) (fun fs hr => retN X56 hx (t := .boolean) Bd.returns (by simp) (hb hby at_160) hr)
            · exact ⟨by rw [hf], N56⟩
        · rw [if_neg hc55] at hf
          refine Go.step (T' := T54) (f' := (mkF m 110 #[.val (.long p1), .second, .val (.long p2), .second, .val (.int p3), .val (.long (pick p1 p2 p3)), .second, .val (.ref b2), .val (.ref b7), .val (.ref b_16), .val (.int (1 : Int32)), .val (.int (0 : Int32)), .val (.int (0 : Int32)), .val (.int (eqU p1 p1)), .unset, .unset] [])) (fun t kt => ?_) ?_
          · show Steps p.tables e below (T54.setTop (mkF m 103 #[.val (.long p1), .second, .val (.long p2), .second, .val (.int p3), .val (.long (pick p1 p2 p3)), .second, .val (.ref b2), .val (.ref b7), .val (.ref b_16), .val (.int (1 : Int32)), .val (.int (0 : Int32)), .val (.int (0 : Int32)), .val (.int (eqU p1 p1)), .unset, .unset] [(.int (eqN ))])) _
            refine XS.ifYes X54.here hx rfl (pc0 := 103) (pc' := 110) rfl (hb hby at_103) rfl ((if0 _ _).trans (feq hc55).2) (by decide) (by decide) ?_
            exact kt
          obtain ⟨cq58, kq58, q58a, q58b, q58c⟩ := isOf hZ e54 (G17 : Exa Z T16.heap b2 "com/example/plumbline/plumbline/model/PlistUid")
          obtain ⟨_, _, ⟨T58, L58, k58, n58⟩, -, X58, ⟨Lc58, hQ58, l58, y58, z58⟩, st58⟩ := X54.virtualBack hx (y := (⟨"com/example/plumbline/plumbline/model/PlistUid", "equals", "(Ljava/lang/Object;)Z"⟩ : MethodName)) (z := (⟨"com/example/plumbline/plumbline/model/PlistUid", "equals", "(Ljava/lang/Object;)Z"⟩ : MethodName)) hown (mvT hZ (hw _ (List.mem_of_getElem? (i := 29) rfl))) (mvT hZ (hw _ (List.mem_of_getElem? (i := 30) rfl))) (notFace_of_selects (args := #[]) (mvT hZ (hw _ (List.mem_of_getElem? (i := 32) rfl)))) (mvT hZ (hw _ (List.mem_of_getElem? (i := 32) rfl))) (mvT hZ (hw _ (List.mem_of_getElem? (i := 31) rfl))) (by decide) (backOf (W := 0) (rm_eqI l Z a0 hw [] b2 b_16  T16.heap n0 Z16 pf16_0 ) hZ (hw _ (List.mem_of_getElem? (i := 33) rfl)) (hw _ (List.mem_of_getElem? (i := 6) rfl)) (by decide) (by decide)) q58a q58c (g := (mkF m 117 #[.val (.long p1), .second, .val (.long p2), .second, .val (.int p3), .val (.long (pick p1 p2 p3)), .second, .val (.ref b2), .val (.ref b7), .val (.ref b_16), .val (.int (1 : Int32)), .val (.int (0 : Int32)), .val (.int (0 : Int32)), .val (.int (eqU p1 p1)), .val (.int (0 : Int32)), .unset] [(.ref b_16), (.ref b2)])) rfl (by rw [hml]; rfl) (Steps.refl _) (argsL := [(.ref b_16)]) (rest := []) (lenOf pd_4 rfl) rfl (by show 2 * 0 + _ ≤ _; exact Nat.le_of_eq rfl) (hb hby at_117) (fun _ _ => ⟨rfl, e54, (Nat.le_trans (Nat.add_le_add_right (Nat.add_le_add_right (Nat.add_le_add_right (Nat.add_le_add_right (Nat.add_le_add_right (Nat.add_le_add_right (Nat.add_le_add_right (Nat.add_le_add_right (Nat.add_le_add_right (Nat.add_le_add_right (Nat.add_le_add_right (Nat.le_refl 0) 0) 1) 0) 1) 0) 1) 0) 0) 0) 0) 0) (by decide)), (Nat.le_trans (Nat.add_le_add_right (Nat.add_le_add_right (Nat.add_le_add_right (Nat.add_le_add_right (Nat.add_le_add_right (Nat.add_le_add_right (Nat.add_le_add_right (Nat.add_le_add_right (Nat.add_le_add_right (Nat.add_le_add_right (Nat.add_le_add_right (Nat.le_refl 0) 0) 1) 0) 1) 0) 2) 0) 0) 0) 0) 0) (by decide))⟩)
          dsimp only [Pt.U, Pt.locs, Pt.cells, Pt.slots] at X58 l58 y58 z58 st58 hQ58
          subst l58 y58 z58
          obtain ⟨rfl, N58q, e58⟩ := hQ58
          have N58 := Fr.app N54 N58q
          refine Go.step (T' := T58) (f' := (mkF m 120 #[.val (.long p1), .second, .val (.long p2), .second, .val (.int p3), .val (.long (pick p1 p2 p3)), .second, .val (.ref b2), .val (.ref b7), .val (.ref b_16), .val (.int (1 : Int32)), .val (.int (0 : Int32)), .val (.int (0 : Int32)), .val (.int (eqU p1 p1)), .val (.int (0 : Int32)), .unset] [(.int (eqI ))])) (fun t kt => ?_) ?_
          · show Steps p.tables e below (T54.setTop (mkF m 110 #[.val (.long p1), .second, .val (.long p2), .second, .val (.int p3), .val (.long (pick p1 p2 p3)), .second, .val (.ref b2), .val (.ref b7), .val (.ref b_16), .val (.int (1 : Int32)), .val (.int (0 : Int32)), .val (.int (0 : Int32)), .val (.int (eqU p1 p1)), .unset, .unset] [])) _
            refine XS.iconst X54.here hx rfl (hb hby at_110) ?_
            show Steps p.tables e below (T54.setTop (mkF m 111 #[.val (.long p1), .second, .val (.long p2), .second, .val (.int p3), .val (.long (pick p1 p2 p3)), .second, .val (.ref b2), .val (.ref b7), .val (.ref b_16), .val (.int (1 : Int32)), .val (.int (0 : Int32)), .val (.int (0 : Int32)), .val (.int (eqU p1 p1)), .unset, .unset] [(.int (0 : Int32))])) _
            refine XS.istore X54.here hx rfl (hb hby at_111) rfl (l' := #[.val (.long p1), .second, .val (.long p2), .second, .val (.int p3), .val (.long (pick p1 p2 p3)), .second, .val (.ref b2), .val (.ref b7), .val (.ref b_16), .val (.int (1 : Int32)), .val (.int (0 : Int32)), .val (.int (0 : Int32)), .val (.int (eqU p1 p1)), .val (.int (0 : Int32)), .unset]) rfl ?_
            show Steps p.tables e below (T54.setTop (mkF m 113 #[.val (.long p1), .second, .val (.long p2), .second, .val (.int p3), .val (.long (pick p1 p2 p3)), .second, .val (.ref b2), .val (.ref b7), .val (.ref b_16), .val (.int (1 : Int32)), .val (.int (0 : Int32)), .val (.int (0 : Int32)), .val (.int (eqU p1 p1)), .val (.int (0 : Int32)), .unset] [])) _
            refine XS.aload X54.here hx rfl (hb hby at_113) rfl rfl ?_
            show Steps p.tables e below (T54.setTop (mkF m 115 #[.val (.long p1), .second, .val (.long p2), .second, .val (.int p3), .val (.long (pick p1 p2 p3)), .second, .val (.ref b2), .val (.ref b7), .val (.ref b_16), .val (.int (1 : Int32)), .val (.int (0 : Int32)), .val (.int (0 : Int32)), .val (.int (eqU p1 p1)), .val (.int (0 : Int32)), .unset] [(.ref b2)])) _
            refine XS.aload X54.here hx rfl (hb hby at_115) rfl rfl ?_
            show Steps p.tables e below (T54.setTop (mkF m 117 #[.val (.long p1), .second, .val (.long p2), .second, .val (.int p3), .val (.long (pick p1 p2 p3)), .second, .val (.ref b2), .val (.ref b7), .val (.ref b_16), .val (.int (1 : Int32)), .val (.int (0 : Int32)), .val (.int (0 : Int32)), .val (.int (eqU p1 p1)), .val (.int (0 : Int32)), .unset] [(.ref b_16), (.ref b2)])) _
            refine st58.trans ?_
            exact kt
          by_cases hc59 : (eqI ) = (0 : Int32)
          · rw [if_pos hc59] at hf
            refine Go.step (T' := T58) (f' := (mkF m 123 #[.val (.long p1), .second, .val (.long p2), .second, .val (.int p3), .val (.long (pick p1 p2 p3)), .second, .val (.ref b2), .val (.ref b7), .val (.ref b_16), .val (.int (1 : Int32)), .val (.int (0 : Int32)), .val (.int (0 : Int32)), .val (.int (eqU p1 p1)), .val (.int (0 : Int32)), .unset] [])) (fun t kt => ?_) ?_
            · show Steps p.tables e below (T58.setTop (mkF m 120 #[.val (.long p1), .second, .val (.long p2), .second, .val (.int p3), .val (.long (pick p1 p2 p3)), .second, .val (.ref b2), .val (.ref b7), .val (.ref b_16), .val (.int (1 : Int32)), .val (.int (0 : Int32)), .val (.int (0 : Int32)), .val (.int (eqU p1 p1)), .val (.int (0 : Int32)), .unset] [(.int (eqI ))])) _
              refine XS.ifNo X58.here hx rfl (hb hby at_120) rfl ((if0 _ _).trans (teq hc59).2) ?_
              exact kt
            refine Go.step (T' := T58) (f' := (mkF m 160 #[.val (.long p1), .second, .val (.long p2), .second, .val (.int p3), .val (.long (pick p1 p2 p3)), .second, .val (.ref b2), .val (.ref b7), .val (.ref b_16), .val (.int (1 : Int32)), .val (.int (0 : Int32)), .val (.int (0 : Int32)), .val (.int (eqU p1 p1)), .val (.int (0 : Int32)), .val (.int (1 : Int32))] [(.int (0 : Int32))])) (fun t kt => ?_) ?_
            · show Steps p.tables e below (T58.setTop (mkF m 123 #[.val (.long p1), .second, .val (.long p2), .second, .val (.int p3), .val (.long (pick p1 p2 p3)), .second, .val (.ref b2), .val (.ref b7), .val (.ref b_16), .val (.int (1 : Int32)), .val (.int (0 : Int32)), .val (.int (0 : Int32)), .val (.int (eqU p1 p1)), .val (.int (0 : Int32)), .unset] [])) _
              refine XS.iconst X58.here hx rfl (hb hby at_123) ?_
              show Steps p.tables e below (T58.setTop (mkF m 124 #[.val (.long p1), .second, .val (.long p2), .second, .val (.int p3), .val (.long (pick p1 p2 p3)), .second, .val (.ref b2), .val (.ref b7), .val (.ref b_16), .val (.int (1 : Int32)), .val (.int (0 : Int32)), .val (.int (0 : Int32)), .val (.int (eqU p1 p1)), .val (.int (0 : Int32)), .unset] [(.int (1 : Int32))])) _
              refine XS.goto X58.here hx rfl (pc0 := 124) (pc' := 128) rfl (hb hby at_124) (by decide) (by decide) ?_
              show Steps p.tables e below (T58.setTop (mkF m 128 #[.val (.long p1), .second, .val (.long p2), .second, .val (.int p3), .val (.long (pick p1 p2 p3)), .second, .val (.ref b2), .val (.ref b7), .val (.ref b_16), .val (.int (1 : Int32)), .val (.int (0 : Int32)), .val (.int (0 : Int32)), .val (.int (eqU p1 p1)), .val (.int (0 : Int32)), .unset] [(.int (1 : Int32))])) _
              refine XS.istore X58.here hx rfl (hb hby at_128) rfl (l' := #[.val (.long p1), .second, .val (.long p2), .second, .val (.int p3), .val (.long (pick p1 p2 p3)), .second, .val (.ref b2), .val (.ref b7), .val (.ref b_16), .val (.int (1 : Int32)), .val (.int (0 : Int32)), .val (.int (0 : Int32)), .val (.int (eqU p1 p1)), .val (.int (0 : Int32)), .val (.int (1 : Int32))]) rfl ?_
              show Steps p.tables e below (T58.setTop (mkF m 130 #[.val (.long p1), .second, .val (.long p2), .second, .val (.int p3), .val (.long (pick p1 p2 p3)), .second, .val (.ref b2), .val (.ref b7), .val (.ref b_16), .val (.int (1 : Int32)), .val (.int (0 : Int32)), .val (.int (0 : Int32)), .val (.int (eqU p1 p1)), .val (.int (0 : Int32)), .val (.int (1 : Int32))] [])) _
              refine XS.iload X58.here hx rfl (hb hby at_130) rfl ?_
              show Steps p.tables e below (T58.setTop (mkF m 132 #[.val (.long p1), .second, .val (.long p2), .second, .val (.int p3), .val (.long (pick p1 p2 p3)), .second, .val (.ref b2), .val (.ref b7), .val (.ref b_16), .val (.int (1 : Int32)), .val (.int (0 : Int32)), .val (.int (0 : Int32)), .val (.int (eqU p1 p1)), .val (.int (0 : Int32)), .val (.int (1 : Int32))] [(.int (0 : Int32))])) _
              refine XS.ifYes X58.here hx rfl (pc0 := 132) (pc' := 159) rfl (hb hby at_132) rfl ((if0 _ _).trans (teq (by decide : ((0 : Int32) = (0 : Int32)))).1) (by decide) (by decide) ?_
              show Steps p.tables e below (T58.setTop (mkF m 159 #[.val (.long p1), .second, .val (.long p2), .second, .val (.int p3), .val (.long (pick p1 p2 p3)), .second, .val (.ref b2), .val (.ref b7), .val (.ref b_16), .val (.int (1 : Int32)), .val (.int (0 : Int32)), .val (.int (0 : Int32)), .val (.int (eqU p1 p1)), .val (.int (0 : Int32)), .val (.int (1 : Int32))] [])) _
              refine XS.iconst X58.here hx rfl (hb hby at_159) ?_
              exact kt
            refine Go.fin X58 (v := some (.int (0 : Int32))) (fun h => by rw [Bd.returns] at h; cases h) Bd.notSynchronized ?_ (Nat.le_trans (Nat.add_le_add_right (Nat.add_le_add_right (Nat.add_le_add_right (Nat.add_le_add_right (Nat.add_le_add_right (Nat.add_le_add_right (Nat.add_le_add_right (Nat.add_le_add_right (Nat.add_le_add_right (Nat.add_le_add_right (Nat.add_le_add_right (Nat.le_refl 0) 0) 1) 0) 1) 0) 1) 0) 0) 0) 0) 0) (by decide)) (Nat.le_trans (Nat.add_le_add_right (Nat.add_le_add_right (Nat.add_le_add_right (Nat.add_le_add_right (Nat.add_le_add_right (Nat.add_le_add_right (Nat.add_le_add_right (Nat.add_le_add_right (Nat.add_le_add_right (Nat.add_le_add_right (Nat.add_le_add_right (Nat.le_refl 0) 0) 1) 0) 1) 0) 2) 0) 0) 0) 0) 0) (by decide)) (fun fs hr => retN X58 hx (t := .boolean) Bd.returns (by simp) (hb hby at_160) hr)
            · exact ⟨by rw [hf], N58⟩
          · rw [if_neg hc59] at hf
            refine Go.step (T' := T58) (f' := (mkF m 127 #[.val (.long p1), .second, .val (.long p2), .second, .val (.int p3), .val (.long (pick p1 p2 p3)), .second, .val (.ref b2), .val (.ref b7), .val (.ref b_16), .val (.int (1 : Int32)), .val (.int (0 : Int32)), .val (.int (0 : Int32)), .val (.int (eqU p1 p1)), .val (.int (0 : Int32)), .unset] [])) (fun t kt => ?_) ?_
            · show Steps p.tables e below (T58.setTop (mkF m 120 #[.val (.long p1), .second, .val (.long p2), .second, .val (.int p3), .val (.long (pick p1 p2 p3)), .second, .val (.ref b2), .val (.ref b7), .val (.ref b_16), .val (.int (1 : Int32)), .val (.int (0 : Int32)), .val (.int (0 : Int32)), .val (.int (eqU p1 p1)), .val (.int (0 : Int32)), .unset] [(.int (eqI ))])) _
              refine XS.ifYes X58.here hx rfl (pc0 := 120) (pc' := 127) rfl (hb hby at_120) rfl ((if0 _ _).trans (feq hc59).2) (by decide) (by decide) ?_
              exact kt
            refine Go.step (T' := T58) (f' := (mkF m 160 #[.val (.long p1), .second, .val (.long p2), .second, .val (.int p3), .val (.long (pick p1 p2 p3)), .second, .val (.ref b2), .val (.ref b7), .val (.ref b_16), .val (.int (1 : Int32)), .val (.int (0 : Int32)), .val (.int (0 : Int32)), .val (.int (eqU p1 p1)), .val (.int (0 : Int32)), .val (.int (0 : Int32))] [(.int (0 : Int32))])) (fun t kt => ?_) ?_
            · show Steps p.tables e below (T58.setTop (mkF m 127 #[.val (.long p1), .second, .val (.long p2), .second, .val (.int p3), .val (.long (pick p1 p2 p3)), .second, .val (.ref b2), .val (.ref b7), .val (.ref b_16), .val (.int (1 : Int32)), .val (.int (0 : Int32)), .val (.int (0 : Int32)), .val (.int (eqU p1 p1)), .val (.int (0 : Int32)), .unset] [])) _
              refine XS.iconst X58.here hx rfl (hb hby at_127) ?_
              show Steps p.tables e below (T58.setTop (mkF m 128 #[.val (.long p1), .second, .val (.long p2), .second, .val (.int p3), .val (.long (pick p1 p2 p3)), .second, .val (.ref b2), .val (.ref b7), .val (.ref b_16), .val (.int (1 : Int32)), .val (.int (0 : Int32)), .val (.int (0 : Int32)), .val (.int (eqU p1 p1)), .val (.int (0 : Int32)), .unset] [(.int (0 : Int32))])) _
              refine XS.istore X58.here hx rfl (hb hby at_128) rfl (l' := #[.val (.long p1), .second, .val (.long p2), .second, .val (.int p3), .val (.long (pick p1 p2 p3)), .second, .val (.ref b2), .val (.ref b7), .val (.ref b_16), .val (.int (1 : Int32)), .val (.int (0 : Int32)), .val (.int (0 : Int32)), .val (.int (eqU p1 p1)), .val (.int (0 : Int32)), .val (.int (0 : Int32))]) rfl ?_
              show Steps p.tables e below (T58.setTop (mkF m 130 #[.val (.long p1), .second, .val (.long p2), .second, .val (.int p3), .val (.long (pick p1 p2 p3)), .second, .val (.ref b2), .val (.ref b7), .val (.ref b_16), .val (.int (1 : Int32)), .val (.int (0 : Int32)), .val (.int (0 : Int32)), .val (.int (eqU p1 p1)), .val (.int (0 : Int32)), .val (.int (0 : Int32))] [])) _
              refine XS.iload X58.here hx rfl (hb hby at_130) rfl ?_
              show Steps p.tables e below (T58.setTop (mkF m 132 #[.val (.long p1), .second, .val (.long p2), .second, .val (.int p3), .val (.long (pick p1 p2 p3)), .second, .val (.ref b2), .val (.ref b7), .val (.ref b_16), .val (.int (1 : Int32)), .val (.int (0 : Int32)), .val (.int (0 : Int32)), .val (.int (eqU p1 p1)), .val (.int (0 : Int32)), .val (.int (0 : Int32))] [(.int (0 : Int32))])) _
              refine XS.ifYes X58.here hx rfl (pc0 := 132) (pc' := 159) rfl (hb hby at_132) rfl ((if0 _ _).trans (teq (by decide : ((0 : Int32) = (0 : Int32)))).1) (by decide) (by decide) ?_
              show Steps p.tables e below (T58.setTop (mkF m 159 #[.val (.long p1), .second, .val (.long p2), .second, .val (.int p3), .val (.long (pick p1 p2 p3)), .second, .val (.ref b2), .val (.ref b7), .val (.ref b_16), .val (.int (1 : Int32)), .val (.int (0 : Int32)), .val (.int (0 : Int32)), .val (.int (eqU p1 p1)), .val (.int (0 : Int32)), .val (.int (0 : Int32))] [])) _
              refine XS.iconst X58.here hx rfl (hb hby at_159) ?_
              exact kt
            refine Go.fin X58 (v := some (.int (0 : Int32))) (fun h => by rw [Bd.returns] at h; cases h) Bd.notSynchronized ?_ (Nat.le_trans (Nat.add_le_add_right (Nat.add_le_add_right (Nat.add_le_add_right (Nat.add_le_add_right (Nat.add_le_add_right (Nat.add_le_add_right (Nat.add_le_add_right (Nat.add_le_add_right (Nat.add_le_add_right (Nat.add_le_add_right (Nat.add_le_add_right (Nat.le_refl 0) 0) 1) 0) 1) 0) 1) 0) 0) 0) 0) 0) (by decide)) (Nat.le_trans (Nat.add_le_add_right (Nat.add_le_add_right (Nat.add_le_add_right (Nat.add_le_add_right (Nat.add_le_add_right (Nat.add_le_add_right (Nat.add_le_add_right (Nat.add_le_add_right (Nat.add_le_add_right (Nat.add_le_add_right (Nat.add_le_add_right (Nat.le_refl 0) 0) 1) 0) 1) 0) 2) 0) 0) 0) 0) 0) (by decide)) (fun fs hr => retN X58 hx (t := .boolean) Bd.returns (by simp) (hb hby at_160) hr)
            · exact ⟨by rw [hf], N58⟩
  · rw [if_neg hc21] at hf
    refine Go.step (T' := T16) (f' := (mkF m 47 #[.val (.long p1), .second, .val (.long p2), .second, .val (.int p3), .val (.long (pick p1 p2 p3)), .second, .val (.ref b2), .val (.ref b7), .val (.ref b_16), .unset, .unset, .unset, .unset, .unset, .unset] [])) (fun t kt => ?_) ?_
    · show Steps p.tables e below (T16.setTop (mkF m 40 #[.val (.long p1), .second, .val (.long p2), .second, .val (.int p3), .val (.long (pick p1 p2 p3)), .second, .val (.ref b2), .val (.ref b7), .val (.ref b_16), .unset, .unset, .unset, .unset, .unset, .unset] [(.int (lcmpW p1 (pick p1 p2 p3)))])) _
      refine XS.ifYes X16.here hx rfl (pc0 := 40) (pc' := 47) rfl (hb hby at_40) rfl ((if0 _ _).trans (feq (fun q => hc21 ((lw_eq _ _).mp q))).2) (by decide) (by decide) ?_
      exact kt
    obtain ⟨cq60, kq60, q60a, q60b, q60c⟩ := isOf hZ rfl (G17 : Exa Z T16.heap b2 "com/example/plumbline/plumbline/model/PlistUid")
    obtain ⟨_, _, ⟨T60, L60, k60, n60⟩, -, X60, ⟨Lc60, hQ60, l60, y60, z60⟩, st60⟩ := X16.virtualBack hx (y := (⟨"com/example/plumbline/plumbline/model/PlistUid", "equals", "(Ljava/lang/Object;)Z"⟩ : MethodName)) (z := (⟨"com/example/plumbline/plumbline/model/PlistUid", "equals", "(Ljava/lang/Object;)Z"⟩ : MethodName)) hown (mvT hZ (hw _ (List.mem_of_getElem? (i := 29) rfl))) (mvT hZ (hw _ (List.mem_of_getElem? (i := 30) rfl))) (notFace_of_selects (args := #[]) (mvT hZ (hw _ (List.mem_of_getElem? (i := 32) rfl)))) (mvT hZ (hw _ (List.mem_of_getElem? (i := 32) rfl))) (mvT hZ (hw _ (List.mem_of_getElem? (i := 31) rfl))) (by decide) (backOf (W := 0) (rm_eqU l Z a0 hw [] b2 b7 p1 (pick p1 p2 p3) T16.heap n0 Z16 G19 G18 G20 ) hZ (hw _ (List.mem_of_getElem? (i := 33) rfl)) (hw _ (List.mem_of_getElem? (i := 6) rfl)) (by decide) (by decide)) q60a q60c (g := (mkF m 54 #[.val (.long p1), .second, .val (.long p2), .second, .val (.int p3), .val (.long (pick p1 p2 p3)), .second, .val (.ref b2), .val (.ref b7), .val (.ref b_16), .val (.int (0 : Int32)), .unset, .unset, .unset, .unset, .unset] [(.ref b7), (.ref b2)])) rfl (by rw [hml]; rfl) (Steps.refl _) (argsL := [(.ref b7)]) (rest := []) (lenOf pd_4 rfl) rfl (by show 2 * 0 + _ ≤ _; exact Nat.le_of_eq rfl) (hb hby at_54) (fun _ _ => ⟨rfl, rfl, (Nat.le_trans (Nat.add_le_add_right (Nat.add_le_add_right (Nat.add_le_add_right (Nat.add_le_add_right (Nat.add_le_add_right (Nat.add_le_add_right (Nat.add_le_add_right (Nat.le_refl 0) 0) 1) 0) 1) 0) 1) 0) (by decide)), (Nat.le_trans (Nat.add_le_add_right (Nat.add_le_add_right (Nat.add_le_add_right (Nat.add_le_add_right (Nat.add_le_add_right (Nat.add_le_add_right (Nat.add_le_add_right (Nat.le_refl 0) 0) 1) 0) 1) 0) 2) 0) (by decide))⟩)
    dsimp only [Pt.U, Pt.locs, Pt.cells, Pt.slots] at X60 l60 y60 z60 st60 hQ60
    subst l60 y60 z60
    obtain ⟨rfl, N60q, e60⟩ := hQ60
    have N60 := Fr.app N16 N60q
    refine Go.step (T' := T60) (f' := (mkF m 59 #[.val (.long p1), .second, .val (.long p2), .second, .val (.int p3), .val (.long (pick p1 p2 p3)), .second, .val (.ref b2), .val (.ref b7), .val (.ref b_16), .val (.int (0 : Int32)), .unset, .unset, .unset, .unset, .unset] [(.int (0 : Int32)), (.int (eqU p1 (pick p1 p2 p3)))])) (fun t kt => ?_) ?_
    · show Steps p.tables e below (T16.setTop (mkF m 47 #[.val (.long p1), .second, .val (.long p2), .second, .val (.int p3), .val (.long (pick p1 p2 p3)), .second, .val (.ref b2), .val (.ref b7), .val (.ref b_16), .unset, .unset, .unset, .unset, .unset, .unset] [])) _
      refine XS.iconst X16.here hx rfl (hb hby at_47) ?_
      show Steps p.tables e below (T16.setTop (mkF m 48 #[.val (.long p1), .second, .val (.long p2), .second, .val (.int p3), .val (.long (pick p1 p2 p3)), .second, .val (.ref b2), .val (.ref b7), .val (.ref b_16), .unset, .unset, .unset, .unset, .unset, .unset] [(.int (0 : Int32))])) _
      refine XS.istore X16.here hx rfl (hb hby at_48) rfl (l' := #[.val (.long p1), .second, .val (.long p2), .second, .val (.int p3), .val (.long (pick p1 p2 p3)), .second, .val (.ref b2), .val (.ref b7), .val (.ref b_16), .val (.int (0 : Int32)), .unset, .unset, .unset, .unset, .unset]) rfl ?_
      show Steps p.tables e below (T16.setTop (mkF m 50 #[.val (.long p1), .second, .val (.long p2), .second, .val (.int p3), .val (.long (pick p1 p2 p3)), .second, .val (.ref b2), .val (.ref b7), .val (.ref b_16), .val (.int (0 : Int32)), .unset, .unset, .unset, .unset, .unset] [])) _
      refine XS.aload X16.here hx rfl (hb hby at_50) rfl rfl ?_
      show Steps p.tables e below (T16.setTop (mkF m 52 #[.val (.long p1), .second, .val (.long p2), .second, .val (.int p3), .val (.long (pick p1 p2 p3)), .second, .val (.ref b2), .val (.ref b7), .val (.ref b_16), .val (.int (0 : Int32)), .unset, .unset, .unset, .unset, .unset] [(.ref b2)])) _
      refine XS.aload X16.here hx rfl (hb hby at_52) rfl rfl ?_
      show Steps p.tables e below (T16.setTop (mkF m 54 #[.val (.long p1), .second, .val (.long p2), .second, .val (.int p3), .val (.long (pick p1 p2 p3)), .second, .val (.ref b2), .val (.ref b7), .val (.ref b_16), .val (.int (0 : Int32)), .unset, .unset, .unset, .unset, .unset] [(.ref b7), (.ref b2)])) _
      refine st60.trans ?_
      show Steps p.tables e below (T60.setTop (mkF m 57 #[.val (.long p1), .second, .val (.long p2), .second, .val (.int p3), .val (.long (pick p1 p2 p3)), .second, .val (.ref b2), .val (.ref b7), .val (.ref b_16), .val (.int (0 : Int32)), .unset, .unset, .unset, .unset, .unset] [(.int (eqU p1 (pick p1 p2 p3)))])) _
      refine XS.iload X60.here hx rfl (hb hby at_57) rfl ?_
      exact kt
    by_cases hc61 : (eqU p1 (pick p1 p2 p3)) = (0 : Int32)
    · rw [if_pos hc61] at hf
      refine Go.step (T' := T60) (f' := (mkF m 62 #[.val (.long p1), .second, .val (.long p2), .second, .val (.int p3), .val (.long (pick p1 p2 p3)), .second, .val (.ref b2), .val (.ref b7), .val (.ref b_16), .val (.int (0 : Int32)), .unset, .unset, .unset, .unset, .unset] [])) (fun t kt => ?_) ?_
      · show Steps p.tables e below (T60.setTop (mkF m 59 #[.val (.long p1), .second, .val (.long p2), .second, .val (.int p3), .val (.long (pick p1 p2 p3)), .second, .val (.ref b2), .val (.ref b7), .val (.ref b_16), .val (.int (0 : Int32)), .unset, .unset, .unset, .unset, .unset] [(.int (0 : Int32)), (.int (eqU p1 (pick p1 p2 p3)))])) _
        refine XS.icmpNo X60.here hx rfl (hb hby at_59) rfl (teq hc61).2 ?_
        exact kt
      obtain ⟨cq62, kq62, q62a, q62b, q62c⟩ := isOf hZ e60 (G19 : Exa Z T16.heap b7 "com/example/plumbline/plumbline/model/PlistUid")
      obtain ⟨_, _, ⟨T62, L62, k62, n62⟩, -, X62, ⟨Lc62, hQ62, l62, y62, z62⟩, st62⟩ := X60.virtualBack hx (y := (⟨"com/example/plumbline/plumbline/model/PlistUid", "equals", "(Ljava/lang/Object;)Z"⟩ : MethodName)) (z := (⟨"com/example/plumbline/plumbline/model/PlistUid", "equals", "(Ljava/lang/Object;)Z"⟩ : MethodName)) hown (mvT hZ (hw _ (List.mem_of_getElem? (i := 29) rfl))) (mvT hZ (hw _ (List.mem_of_getElem? (i := 30) rfl))) (notFace_of_selects (args := #[]) (mvT hZ (hw _ (List.mem_of_getElem? (i := 32) rfl)))) (mvT hZ (hw _ (List.mem_of_getElem? (i := 32) rfl))) (mvT hZ (hw _ (List.mem_of_getElem? (i := 31) rfl))) (by decide) (backOf (W := 0) (rm_eqU l Z a0 hw [] b7 b2 (pick p1 p2 p3) p1 T16.heap n0 Z16 G17 G20 G18 ) hZ (hw _ (List.mem_of_getElem? (i := 33) rfl)) (hw _ (List.mem_of_getElem? (i := 6) rfl)) (by decide) (by decide)) q62a q62c (g := (mkF m 73 #[.val (.long p1), .second, .val (.long p2), .second, .val (.int p3), .val (.long (pick p1 p2 p3)), .second, .val (.ref b2), .val (.ref b7), .val (.ref b_16), .val (.int (0 : Int32)), .val (.int (1 : Int32)), .unset, .unset, .unset, .unset] [(.ref b2), (.ref b7)])) rfl (by rw [hml]; rfl) (Steps.refl _) (argsL := [(.ref b2)]) (rest := []) (lenOf pd_4 rfl) rfl (by show 2 * 0 + _ ≤ _; exact Nat.le_of_eq rfl) (hb hby at_73) (fun _ _ => ⟨rfl, e60, (Nat.le_trans (Nat.add_le_add_right (Nat.add_le_add_right (Nat.add_le_add_right (Nat.add_le_add_right (Nat.add_le_add_right (Nat.add_le_add_right (Nat.add_le_add_right (Nat.add_le_add_right (Nat.le_refl 0) 0) 1) 0) 1) 0) 1) 0) 0) (by decide)), (Nat.le_trans (Nat.add_le_add_right (Nat.add_le_add_right (Nat.add_le_add_right (Nat.add_le_add_right (Nat.add_le_add_right (Nat.add_le_add_right (Nat.add_le_add_right (Nat.add_le_add_right (Nat.le_refl 0) 0) 1) 0) 1) 0) 2) 0) 0) (by decide))⟩)
      dsimp only [Pt.U, Pt.locs, Pt.cells, Pt.slots] at X62 l62 y62 z62 st62 hQ62
      subst l62 y62 z62
      obtain ⟨rfl, N62q, e62⟩ := hQ62
      have N62 := Fr.app N60 N62q
      refine Go.step (T' := T62) (f' := (mkF m 78 #[.val (.long p1), .second, .val (.long p2), .second, .val (.int p3), .val (.long (pick p1 p2 p3)), .second, .val (.ref b2), .val (.ref b7), .val (.ref b_16), .val (.int (0 : Int32)), .val (.int (1 : Int32)), .unset, .unset, .unset, .unset] [(.int (0 : Int32)), (.int (eqU (pick p1 p2 p3) p1))])) (fun t kt => ?_) ?_
      · show Steps p.tables e below (T60.setTop (mkF m 62 #[.val (.long p1), .second, .val (.long p2), .second, .val (.int p3), .val (.long (pick p1 p2 p3)), .second, .val (.ref b2), .val (.ref b7), .val (.ref b_16), .val (.int (0 : Int32)), .unset, .unset, .unset, .unset, .unset] [])) _
        refine XS.iconst X60.here hx rfl (hb hby at_62) ?_
        show Steps p.tables e below (T60.setTop (mkF m 63 #[.val (.long p1), .second, .val (.long p2), .second, .val (.int p3), .val (.long (pick p1 p2 p3)), .second, .val (.ref b2), .val (.ref b7), .val (.ref b_16), .val (.int (0 : Int32)), .unset, .unset, .unset, .unset, .unset] [(.int (1 : Int32))])) _
        refine XS.goto X60.here hx rfl (pc0 := 63) (pc' := 67) rfl (hb hby at_63) (by decide) (by decide) ?_
        show Steps p.tables e below (T60.setTop (mkF m 67 #[.val (.long p1), .second, .val (.long p2), .second, .val (.int p3), .val (.long (pick p1 p2 p3)), .second, .val (.ref b2), .val (.ref b7), .val (.ref b_16), .val (.int (0 : Int32)), .unset, .unset, .unset, .unset, .unset] [(.int (1 : Int32))])) _
        refine XS.istore X60.here hx rfl (hb hby at_67) rfl (l' := #[.val (.long p1), .second, .val (.long p2), .second, .val (.int p3), .val (.long (pick p1 p2 p3)), .second, .val (.ref b2), .val (.ref b7), .val (.ref b_16), .val (.int (0 : Int32)), .val (.int (1 : Int32)), .unset, .unset, .unset, .unset]) rfl ?_
        show Steps p.tables e below (T60.setTop (mkF m 69 #[.val (.long p1), .second, .val (.long p2), .second, .val (.int p3), .val (.long (pick p1 p2 p3)), .second, .val (.ref b2), .val (.ref b7), .val (.ref b_16), .val (.int (0 : Int32)), .val (.int (1 : Int32)), .unset, .unset, .unset, .unset] [])) _
        refine XS.aload X60.here hx rfl (hb hby at_69) rfl rfl ?_
        show Steps p.tables e below (T60.setTop (mkF m 71 #[.val (.long p1), .second, .val (.long p2), .second, .val (.int p3), .val (.long (pick p1 p2 p3)), .second, .val (.ref b2), .val (.ref b7), .val (.ref b_16), .val (.int (0 : Int32)), .val (.int (1 : Int32)), .unset, .unset, .unset, .unset] [(.ref b7)])) _
        refine XS.aload X60.here hx rfl (hb hby at_71) rfl rfl ?_
        show Steps p.tables e below (T60.setTop (mkF m 73 #[.val (.long p1), .second, .val (.long p2), .second, .val (.int p3), .val (.long (pick p1 p2 p3)), .second, .val (.ref b2), .val (.ref b7), .val (.ref b_16), .val (.int (0 : Int32)), .val (.int (1 : Int32)), .unset, .unset, .unset, .unset] [(.ref b2), (.ref b7)])) _
        refine st62.trans ?_
        show Steps p.tables e below (T62.setTop (mkF m 76 #[.val (.long p1), .second, .val (.long p2), .second, .val (.int p3), .val (.long (pick p1 p2 p3)), .second, .val (.ref b2), .val (.ref b7), .val (.ref b_16), .val (.int (0 : Int32)), .val (.int (1 : Int32)), .unset, .unset, .unset, .unset] [(.int (eqU (pick p1 p2 p3) p1))])) _
        refine XS.iload X62.here hx rfl (hb hby at_76) rfl ?_
        exact kt
      by_cases hc63 : (eqU (pick p1 p2 p3) p1) = (0 : Int32)
      · rw [if_pos hc63] at hf
        refine Go.step (T' := T62) (f' := (mkF m 81 #[.val (.long p1), .second, .val (.long p2), .second, .val (.int p3), .val (.long (pick p1 p2 p3)), .second, .val (.ref b2), .val (.ref b7), .val (.ref b_16), .val (.int (0 : Int32)), .val (.int (1 : Int32)), .unset, .unset, .unset, .unset] [])) (fun t kt => ?_) ?_
        · show Steps p.tables e below (T62.setTop (mkF m 78 #[.val (.long p1), .second, .val (.long p2), .second, .val (.int p3), .val (.long (pick p1 p2 p3)), .second, .val (.ref b2), .val (.ref b7), .val (.ref b_16), .val (.int (0 : Int32)), .val (.int (1 : Int32)), .unset, .unset, .unset, .unset] [(.int (0 : Int32)), (.int (eqU (pick p1 p2 p3) p1))])) _
          refine XS.icmpNo X62.here hx rfl (hb hby at_78) rfl (teq hc63).2 ?_
          exact kt
        obtain ⟨cq64, kq64, q64a, q64b, q64c⟩ := isOf hZ e62 (G17 : Exa Z T16.heap b2 "com/example/plumbline/plumbline/model/PlistUid")
        obtain ⟨_, _, ⟨T64, L64, k64, n64⟩, -, X64, ⟨Lc64, hQ64, l64, y64, z64⟩, st64⟩ := X62.virtualBack hx (y := (⟨"com/example/plumbline/plumbline/model/PlistUid", "equals", "(Ljava/lang/Object;)Z"⟩ : MethodName)) (z := (⟨"com/example/plumbline/plumbline/model/PlistUid", "equals", "(Ljava/lang/Object;)Z"⟩ : MethodName)) hown (mvT hZ (hw _ (List.mem_of_getElem? (i := 29) rfl))) (mvT hZ (hw _ (List.mem_of_getElem? (i := 30) rfl))) (notFace_of_selects (args := #[]) (mvT hZ (hw _ (List.mem_of_getElem? (i := 32) rfl)))) (mvT hZ (hw _ (List.mem_of_getElem? (i := 32) rfl))) (mvT hZ (hw _ (List.mem_of_getElem? (i := 31) rfl))) (by decide) (backOf (W := 0) (rm_eqU l Z a0 hw [] b2 b2 p1 p1 T16.heap n0 Z16 G17 G18 G18 ) hZ (hw _ (List.mem_of_getElem? (i := 33) rfl)) (hw _ (List.mem_of_getElem? (i := 6) rfl)) (by decide) (by decide)) q64a q64c (g := (mkF m 92 #[.val (.long p1), .second, .val (.long p2), .second, .val (.int p3), .val (.long (pick p1 p2 p3)), .second, .val (.ref b2), .val (.ref b7), .val (.ref b_16), .val (.int (0 : Int32)), .val (.int (1 : Int32)), .val (.int (1 : Int32)), .unset, .unset, .unset] [(.ref b2), (.ref b2)])) rfl (by rw [hml]; rfl) (Steps.refl _) (argsL := [(.ref b2)]) (rest := []) (lenOf pd_4 rfl) rfl (by show 2 * 0 + _ ≤ _; exact Nat.le_of_eq rfl) (hb hby at_92) (fun _ _ => ⟨rfl, e62, (Nat.le_trans (Nat.add_le_add_right (Nat.add_le_add_right (Nat.add_le_add_right (Nat.add_le_add_right (Nat.add_le_add_right (Nat.add_le_add_right (Nat.add_le_add_right (Nat.add_le_add_right (Nat.add_le_add_right (Nat.le_refl 0) 0) 1) 0) 1) 0) 1) 0) 0) 0) (by decide)), (Nat.le_trans (Nat.add_le_add_right (Nat.add_le_add_right (Nat.add_le_add_right (Nat.add_le_add_right (Nat.add_le_add_right (Nat.add_le_add_right (Nat.add_le_add_right (Nat.add_le_add_right (Nat.add_le_add_right (Nat.le_refl 0) 0) 1) 0) 1) 0) 2) 0) 0) 0) (by decide))⟩)
        dsimp only [Pt.U, Pt.locs, Pt.cells, Pt.slots] at X64 l64 y64 z64 st64 hQ64
        subst l64 y64 z64
        obtain ⟨rfl, N64q, e64⟩ := hQ64
        have N64 := Fr.app N62 N64q
        obtain ⟨cq65, kq65, q65a, q65b, q65c⟩ := isOf hZ e64 (G17 : Exa Z T16.heap b2 "com/example/plumbline/plumbline/model/PlistUid")
        obtain ⟨_, _, ⟨T65, L65, k65, n65⟩, -, X65, ⟨Lc65, hQ65, l65, y65, z65⟩, st65⟩ := X64.virtualBack hx (y := (⟨"com/example/plumbline/plumbline/model/PlistUid", "equals", "(Ljava/lang/Object;)Z"⟩ : MethodName)) (z := (⟨"com/example/plumbline/plumbline/model/PlistUid", "equals", "(Ljava/lang/Object;)Z"⟩ : MethodName)) hown (mvT hZ (hw _ (List.mem_of_getElem? (i := 29) rfl))) (mvT hZ (hw _ (List.mem_of_getElem? (i := 30) rfl))) (notFace_of_selects (args := #[]) (mvT hZ (hw _ (List.mem_of_getElem? (i := 32) rfl)))) (mvT hZ (hw _ (List.mem_of_getElem? (i := 32) rfl))) (mvT hZ (hw _ (List.mem_of_getElem? (i := 31) rfl))) (by decide) (backOf (W := 0) (rm_eqN l Z a0 hw [] b2  T16.heap n0 Z16  ) hZ (hw _ (List.mem_of_getElem? (i := 33) rfl)) (hw _ (List.mem_of_getElem? (i := 6) rfl)) (by decide) (by decide)) q65a q65c (g := (mkF m 100 #[.val (.long p1), .second, .val (.long p2), .second, .val (.int p3), .val (.long (pick p1 p2 p3)), .second, .val (.ref b2), .val (.ref b7), .val (.ref b_16), .val (.int (0 : Int32)), .val (.int (1 : Int32)), .val (.int (1 : Int32)), .val (.int (eqU p1 p1)), .unset, .unset] [.null, (.ref b2)])) rfl (by rw [hml]; rfl) (Steps.refl _) (argsL := [.null]) (rest := []) (lenOf pd_4 rfl) rfl (by show 2 * 0 + _ ≤ _; exact Nat.le_of_eq rfl) (hb hby at_100) (fun _ _ => ⟨rfl, e64, (Nat.le_trans (Nat.add_le_add_right (Nat.add_le_add_right (Nat.add_le_add_right (Nat.add_le_add_right (Nat.add_le_add_right (Nat.add_le_add_right (Nat.add_le_add_right (Nat.add_le_add_right (Nat.add_le_add_right (Nat.add_le_add_right (Nat.le_refl 0) 0) 1) 0) 1) 0) 1) 0) 0) 0) 0) (by decide)), (Nat.le_trans (Nat.add_le_add_right (Nat.add_le_add_right (Nat.add_le_add_right (Nat.add_le_add_right (Nat.add_le_add_right (Nat.add_le_add_right (Nat.add_le_add_right (Nat.add_le_add_right (Nat.add_le_add_right (Nat.add_le_add_right (Nat.le_refl 0) 0) 1) 0) 1) 0) 2) 0) 0) 0) 0) (by decide))⟩)
        dsimp only [Pt.U, Pt.locs, Pt.cells, Pt.slots] at X65 l65 y65 z65 st65 hQ65
        subst l65 y65 z65
        obtain ⟨rfl, N65q, e65⟩ := hQ65
        have N65 := Fr.app N64 N65q
        refine Go.step (T' := T65) (f' := (mkF m 103 #[.val (.long p1), .second, .val (.long p2), .second, .val (.int p3), .val (.long (pick p1 p2 p3)), .second, .val (.ref b2), .val (.ref b7), .val (.ref b_16), .val (.int (0 : Int32)), .val (.int (1 : Int32)), .val (.int (1 : Int32)), .val (.int (eqU p1 p1)), .unset, .unset] [(.int (eqN ))])) (fun t kt => ?_) ?_
        · show Steps p.tables e below (T62.setTop (mkF m 81 #[.val (.long p1), .second, .val (.long p2), .second, .val (.int p3), .val (.long (pick p1 p2 p3)), .second, .val (.ref b2), .val (.ref b7), .val (.ref b_16), .val (.int (0 : Int32)), .val (.int (1 : Int32)), .unset, .unset, .unset, .unset] [])) _
          refine XS.iconst X62.here hx rfl (hb hby at_81) ?_
          show Steps p.tables e below (T62.setTop (mkF m 82 #[.val (.long p1), .second, .val (.long p2), .second, .val (.int p3), .val (.long (pick p1 p2 p3)), .second, .val (.ref b2), .val (.ref b7), .val (.ref b_16), .val (.int (0 : Int32)), .val (.int (1 : Int32)), .unset, .unset, .unset, .unset] [(.int (1 : Int32))])) _
          refine XS.goto X62.here hx rfl (pc0 := 82) (pc' := 86) rfl (hb hby at_82) (by decide) (by decide) ?_
          show Steps p.tables e below (T62.setTop (mkF m 86 #[.val (.long p1), .second, .val (.long p2), .second, .val (.int p3), .val (.long (pick p1 p2 p3)), .second, .val (.ref b2), .val (.ref b7), .val (.ref b_16), .val (.int (0 : Int32)), .val (.int (1 : Int32)), .unset, .unset, .unset, .unset] [(.int (1 : Int32))])) _
          refine XS.istore X62.here hx rfl (hb hby at_86) rfl (l' := #[.val (.long p1), .second, .val (.long p2), .second, .val (.int p3), .val (.long (pick p1 p2 p3)), .second, .val (.ref b2), .val (.ref b7), .val (.ref b_16), .val (.int (0 : Int32)), .val (.int (1 : Int32)), .val (.int (1 : Int32)), .unset, .unset, .unset]) rfl ?_
          show Steps p.tables e below (T62.setTop (mkF m 88 #[.val (.long p1), .second, .val (.long p2), .second, .val (.int p3), .val (.long (pick p1 p2 p3)), .second, .val (.ref b2), .val (.ref b7), .val (.ref b_16), .val (.int (0 : Int32)), .val (.int (1 : Int32)), .val (.int (1 : Int32)), .unset, .unset, .unset] [])) _
          refine XS.aload X62.here hx rfl (hb hby at_88) rfl rfl ?_
          show Steps p.tables e below (T62.setTop (mkF m 90 #[.val (.long p1), .second, .val (.long p2), .second, .val (.int p3), .val (.long (pick p1 p2 p3)), .second, .val (.ref b2), .val (.ref b7), .val (.ref b_16), .val (.int (0 : Int32)), .val (.int (1 : Int32)), .val (.int (1 : Int32)), .unset, .unset, .unset] [(.ref b2)])) _
          refine XS.aload X62.here hx rfl (hb hby at_90) rfl rfl ?_
          show Steps p.tables e below (T62.setTop (mkF m 92 #[.val (.long p1), .second, .val (.long p2), .second, .val (.int p3), .val (.long (pick p1 p2 p3)), .second, .val (.ref b2), .val (.ref b7), .val (.ref b_16), .val (.int (0 : Int32)), .val (.int (1 : Int32)), .val (.int (1 : Int32)), .unset, .unset, .unset] [(.ref b2), (.ref b2)])) _
          refine st64.trans ?_
          show Steps p.tables e below (T64.setTop (mkF m 95 #[.val (.long p1), .second, .val (.long p2), .second, .val (.int p3), .val (.long (pick p1 p2 p3)), .second, .val (.ref b2), .val (.ref b7), .val (.ref b_16), .val (.int (0 : Int32)), .val (.int (1 : Int32)), .val (.int (1 : Int32)), .unset, .unset, .unset] [(.int (eqU p1 p1))])) _
          refine XS.istore X64.here hx rfl (hb hby at_95) rfl (l' := #[.val (.long p1), .second, .val (.long p2), .second, .val (.int p3), .val (.long (pick p1 p2 p3)), .second, .val (.ref b2), .val (.ref b7), .val (.ref b_16), .val (.int (0 : Int32)), .val (.int (1 : Int32)), .val (.int (1 : Int32)), .val (.int (eqU p1 p1)), .unset, .unset]) rfl ?_
          show Steps p.tables e below (T64.setTop (mkF m 97 #[.val (.long p1), .second, .val (.long p2), .second, .val (.int p3), .val (.long (pick p1 p2 p3)), .second, .val (.ref b2), .val (.ref b7), .val (.ref b_16), .val (.int (0 : Int32)), .val (.int (1 : Int32)), .val (.int (1 : Int32)), .val (.int (eqU p1 p1)), .unset, .unset] [])) _
          refine XS.aload X64.here hx rfl (hb hby at_97) rfl rfl ?_
          show Steps p.tables e below (T64.setTop (mkF m 99 #[.val (.long p1), .second, .val (.long p2), .second, .val (.int p3), .val (.long (pick p1 p2 p3)), .second, .val (.ref b2), .val (.ref b7), .val (.ref b_16), .val (.int (0 : Int32)), .val (.int (1 : Int32)), .val (.int (1 : Int32)), .val (.int (eqU p1 p1)), .unset, .unset] [(.ref b2)])) _
          refine XS.aconstNull X64.here hx rfl (hb hby at_99) ?_
          show Steps p.tables e below (T64.setTop (mkF m 100 #[.val (.long p1), .second, .val (.long p2), .second, .val (.int p3), .val (.long (pick p1 p2 p3)), .second, .val (.ref b2), .val (.ref b7), .val (.ref b_16), .val (.int (0 : Int32)), .val (.int (1 : Int32)), .val (.int (1 : Int32)), .val (.int (eqU p1 p1)), .unset, .unset] [.null, (.ref b2)])) _
          refine st65.trans ?_
          exact kt
        by_cases hc66 : (eqN ) = (0 : Int32)
        · rw [if_pos hc66] at hf
          refine Go.step (T' := T65) (f' := (mkF m 106 #[.val (.long p1), .second, .val (.long p2), .second, .val (.int p3), .val (.long (pick p1 p2 p3)), .second, .val (.ref b2), .val (.ref b7), .val (.ref b_16), .val (.int (0 : Int32)), .val (.int (1 : Int32)), .val (.int (1 : Int32)), .val (.int (eqU p1 p1)), .unset, .unset] [])) (fun t kt => ?_) ?_
          · show Steps p.tables e below (T65.setTop (mkF m 103 #[.val (.long p1), .second, .val (.long p2), .second, .val (.int p3), .val (.long (pick p1 p2 p3)), .second, .val (.ref b2), .val (.ref b7), .val (.ref b_16), .val (.int (0 : Int32)), .val (.int (1 : Int32)), .val (.int (1 : Int32)), .val (.int (eqU p1 p1)), .unset, .unset] [(.int (eqN ))])) _
            refine XS.ifNo X65.here hx rfl (hb hby at_103) rfl ((if0 _ _).trans (teq hc66).2) ?_
            exact kt
          obtain ⟨cq67, kq67, q67a, q67b, q67c⟩ := isOf hZ e65 (G17 : Exa Z T16.heap b2 "com/example/plumbline/plumbline/model/PlistUid")
          obtain ⟨_, _, ⟨T67, L67, k67, n67⟩, -, X67, ⟨Lc67, hQ67, l67, y67, z67⟩, st67⟩ := X65.virtualBack hx (y := (⟨"com/example/plumbline/plumbline/model/PlistUid", "equals", "(Ljava/lang/Object;)Z"⟩ : MethodName)) (z := (⟨"com/example/plumbline/plumbline/model/PlistUid", "equals", "(Ljava/lang/Object;)Z"⟩ : MethodName)) hown (mvT hZ (hw _ (List.mem_of_getElem? (i := 29) rfl))) (mvT hZ (hw _ (List.mem_of_getElem? (i := 30) rfl))) (notFace_of_selects (args := #[]) (mvT hZ (hw _ (List.mem_of_getElem? (i := 32) rfl)))) (mvT hZ (hw _ (List.mem_of_getElem? (i := 32) rfl))) (mvT hZ (hw _ (List.mem_of_getElem? (i := 31) rfl))) (by decide) (backOf (W := 0) (rm_eqI l Z a0 hw [] b2 b_16  T16.heap n0 Z16 pf16_0 ) hZ (hw _ (List.mem_of_getElem? (i := 33) rfl)) (hw _ (List.mem_of_getElem? (i := 6) rfl)) (by decide) (by decide)) q67a q67c (g := (mkF m 117 #[.val (.long p1), .second, .val (.long p2), .second, .val (.int p3), .val (.long (pick p1 p2 p3)), .second, .val (.ref b2), .val (.ref b7), .val (.ref b_16), .val (.int (0 : Int32)), .val (.int (1 : Int32)), .val (.int (1 : Int32)), .val (.int (eqU p1 p1)), .val (.int (1 : Int32)), .unset] [(.ref b_16), (.ref b2)])) rfl (by rw [hml]; rfl) (Steps.refl _) (argsL := [(.ref b_16)]) (rest := []) (lenOf pd_4 rfl) rfl (by show 2 * 0 + _ ≤ _; exact Nat.le_of_eq rfl) (hb hby at_117) (fun _ _ => ⟨rfl, e65, (Nat.le_trans (Nat.add_le_add_right (Nat.add_le_add_right (Nat.add_le_add_right (Nat.add_le_add_right (Nat.add_le_add_right (Nat.add_le_add_right (Nat.add_le_add_right (Nat.add_le_add_right (Nat.add_le_add_right (Nat.add_le_add_right (Nat.add_le_add_right (Nat.le_refl 0) 0) 1) 0) 1) 0) 1) 0) 0) 0) 0) 0) (by decide)), (Nat.le_trans (Nat.add_le_add_right (Nat.add_le_add_right (Nat.add_le_add_right (Nat.add_le_add_right (Nat.add_le_add_right (Nat.add_le_add_right (Nat.add_le_add_right (Nat.add_le_add_right (Nat.add_le_add_right (Nat.add_le_add_right (Nat.add_le_add_right (Nat.le_refl 0) 0) 1) 0) 1) 0) 2) 0) 0) 0) 0) 0) (by decide))⟩)
          dsimp only [Pt.U, Pt.locs, Pt.cells, Pt.slots] at X67 l67 y67 z67 st67 hQ67
          subst l67 y67 z67
          obtain ⟨rfl, N67q, e67⟩ := hQ67
          have N67 := Fr.app N65 N67q
          refine Go.step (T' := T67) (f' := (mkF m 120 #[.val (.long p1), .second, .val (.long p2), .second, .val (.int p3), .val (.long (pick p1 p2 p3)), .second, .val (.ref b2), .val (.ref b7), .val (.ref b_16), .val (.int (0 : Int32)), .val (.int (1 : Int32)), .val (.int (1 : Int32)), .val (.int (eqU p1 p1)), .val (.int (1 : Int32)), .unset] [(.int (eqI ))])) (fun t kt => ?_) ?_
          · show Steps p.tables e below (T65.setTop (mkF m 106 #[.val (.long p1), .second, .val (.long p2), .second, .val (.int p3), .val (.long (pick p1 p2 p3)), .second, .val (.ref b2), .val (.ref b7), .val (.ref b_16), .val (.int (0 : Int32)), .val (.int (1 : Int32)), .val (.int (1 : Int32)), .val (.int (eqU p1 p1)), .unset, .unset] [])) _
            refine XS.iconst X65.here hx rfl (hb hby at_106) ?_
            show Steps p.tables e below (T65.setTop (mkF m 107 #[.val (.long p1), .second, .val (.long p2), .second, .val (.int p3), .val (.long (pick p1 p2 p3)), .second, .val (.ref b2), .val (.ref b7), .val (.ref b_16), .val (.int (0 : Int32)), .val (.int (1 : Int32)), .val (.int (1 : Int32)), .val (.int (eqU p1 p1)), .unset, .unset] [(.int (1 : Int32))])) _
            refine XS.goto X65.here hx rfl (pc0 := 107) (pc' := 111) rfl (hb hby at_107) (by decide) (by decide) ?_
            show Steps p.tables e below (T65.setTop (mkF m 111 #[.val (.long p1), .second, .val (.long p2), .second, .val (.int p3), .val (.long (pick p1 p2 p3)), .second, .val (.ref b2), .val (.ref b7), .val (.ref b_16), .val (.int (0 : Int32)), .val (.int (1 : Int32)), .val (.int (1 : Int32)), .val (.int (eqU p1 p1)), .unset, .unset] [(.int (1 : Int32))])) _
            refine XS.istore X65.here hx rfl (hb hby at_111) rfl (l' := #[.val (.long p1), .second, .val (.long p2), .second, .val (.int p3), .val (.long (pick p1 p2 p3)), .second, .val (.ref b2), .val (.ref b7), .val (.ref b_16), .val (.int (0 : Int32)), .val (.int (1 : Int32)), .val (.int (1 : Int32)), .val (.int (eqU p1 p1)), .val (.int (1 : Int32)), .unset]) rfl ?_
            show Steps p.tables e below (T65.setTop (mkF m 113 #[.val (.long p1), .second, .val (.long p2), .second, .val (.int p3), .val (.long (pick p1 p2 p3)), .second, .val (.ref b2), .val (.ref b7), .val (.ref b_16), .val (.int (0 : Int32)), .val (.int (1 : Int32)), .val (.int (1 : Int32)), .val (.int (eqU p1 p1)), .val (.int (1 : Int32)), .unset] [])) _
            refine XS.aload X65.here hx rfl (hb hby at_113) rfl rfl ?_
            show Steps p.tables e below (T65.setTop (mkF m 115 #[.val (.long p1), .second, .val (.long p2), .second, .val (.int p3), .val (.long (pick p1 p2 p3)), .second, .val (.ref b2), .val (.ref b7), .val (.ref b_16), .val (.int (0 : Int32)), .val (.int (1 : Int32)), .val (.int (1 : Int32)), .val (.int (eqU p1 p1)), .val (.int (1 : Int32)), .unset] [(.ref b2)])) _
            refine XS.aload X65.here hx rfl (hb hby at_115) rfl rfl ?_
            show Steps p.tables e below (T65.setTop (mkF m 117 #[.val (.long p1), .second, .val (.long p2), .second, .val (.int p3), .val (.long (pick p1 p2 p3)), .second, .val (.ref b2), .val (.ref b7), .val (.ref b_16), .val (.int (0 : Int32)), .val (.int (1 : Int32)), .val (.int (1 : Int32)), .val (.int (eqU p1 p1)), .val (.int (1 : Int32)), .unset] [(.ref b_16), (.ref b2)])) _
            refine st67.trans ?_
            exact kt
          by_cases hc68 : (eqI ) = (0 : Int32)
          · rw [if_pos hc68] at hf
            refine Go.step (T' := T67) (f' := (mkF m 123 #[.val (.long p1), .second, .val (.long p2), .second, .val (.int p3), .val (.long (pick p1 p2 p3)), .second, .val (.ref b2), .val (.ref b7), .val (.ref b_16), .val (.int (0 : Int32)), .val (.int (1 : Int32)), .val (.int (1 : Int32)), .val (.int (eqU p1 p1)), .val (.int (1 : Int32)), .unset] [])) (fun t kt => ?_) ?_
            · show Steps p.tables e below (T67.setTop (mkF m 120 #[.val (.long p1), .second, .val (.long p2), .second, .val (.int p3), .val (.long (pick p1 p2 p3)), .second, .val (.ref b2), .val (.ref b7), .val (.ref b_16), .val (.int (0 : Int32)), .val (.int (1 : Int32)), .val (.int (1 : Int32)), .val (.int (eqU p1 p1)), .val (.int (1 : Int32)), .unset] [(.int (eqI ))])) _
              refine XS.ifNo X67.here hx rfl (hb hby at_120) rfl ((if0 _ _).trans (teq hc68).2) ?_
              exact kt
            refine Go.step (T' := T67) (f' := (mkF m 142 #[.val (.long p1), .second, .val (.long p2), .second, .val (.int p3), .val (.long (pick p1 p2 p3)), .second, .val (.ref b2), .val (.ref b7), .val (.ref b_16), .val (.int (0 : Int32)), .val (.int (1 : Int32)), .val (.int (1 : Int32)), .val (.int (eqU p1 p1)), .val (.int (1 : Int32)), .val (.int (1 : Int32))] [(.int (eqU p1 p1))])) (fun t kt => ?_) ?_
            · show Steps p.tables e below (T67.setTop (mkF m 123 #[.val (.long p1), .second, .val (.long p2), .second, .val (.int p3), .val (.long (pick p1 p2 p3)), .second, .val (.ref b2), .val (.ref b7), .val (.ref b_16), .val (.int (0 : Int32)), .val (.int (1 : Int32)), .val (.int (1 : Int32)), .val (.int (eqU p1 p1)), .val (.int (1 : Int32)), .unset] [])) _
              refine XS.iconst X67.here hx rfl (hb hby at_123) ?_
              show Steps p.tables e below (T67.setTop (mkF m 124 #[.val (.long p1), .second, .val (.long p2), .second, .val (.int p3), .val (.long (pick p1 p2 p3)), .second, .val (.ref b2), .val (.ref b7), .val (.ref b_16), .val (.int (0 : Int32)), .val (.int (1 : Int32)), .val (.int (1 : Int32)), .val (.int (eqU p1 p1)), .val (.int (1 : Int32)), .unset] [(.int (1 : Int32))])) _
              refine XS.goto X67.here hx rfl (pc0 := 124) (pc' := 128) rfl (hb hby at_124) (by decide) (by decide) ?_
              show Steps p.tables e below (T67.setTop (mkF m 128 #[.val (.long p1), .second, .val (.long p2), .second, .val (.int p3), .val (.long (pick p1 p2 p3)), .second, .val (.ref b2), .val (.ref b7), .val (.ref b_16), .val (.int (0 : Int32)), .val (.int (1 : Int32)), .val (.int (1 : Int32)), .val (.int (eqU p1 p1)), .val (.int (1 : Int32)), .unset] [(.int (1 : Int32))])) _
              refine XS.istore X67.here hx rfl (hb hby at_128) rfl (l' := #[.val (.long p1), .second, .val (.long p2), .second, .val (.int p3), .val (.long (pick p1 p2 p3)), .second, .val (.ref b2), .val (.ref b7), .val (.ref b_16), .val (.int (0 : Int32)), .val (.int (1 : Int32)), .val (.int (1 : Int32)), .val (.int (eqU p1 p1)), .val (.int (1 : Int32)), .val (.int (1 : Int32))]) rfl ?_
              show Steps p.tables e below (T67.setTop (mkF m 130 #[.val (.long p1), .second, .val (.long p2), .second, .val (.int p3), .val (.long (pick p1 p2 p3)), .second, .val (.ref b2), .val (.ref b7), .val (.ref b_16), .val (.int (0 : Int32)), .val (.int (1 : Int32)), .val (.int (1 : Int32)), .val (.int (eqU p1 p1)), .val (.int (1 : Int32)), .val (.int (1 : Int32))] [])) _
              refine XS.iload X67.here hx rfl (hb hby at_130) rfl ?_
              show Steps p.tables e below (T67.setTop (mkF m 132 #[.val (.long p1), .second, .val (.long p2), .second, .val (.int p3), .val (.long (pick p1 p2 p3)), .second, .val (.ref b2), .val (.ref b7), .val (.ref b_16), .val (.int (0 : Int32)), .val (.int (1 : Int32)), .val (.int (1 : Int32)), .val (.int (eqU p1 p1)), .val (.int (1 : Int32)), .val (.int (1 : Int32))] [(.int (1 : Int32))])) _
              refine XS.ifNo X67.here hx rfl (hb hby at_132) rfl ((if0 _ _).trans (feq (by decide : ¬ ((1 : Int32) = (0 : Int32)))).1) ?_
              show Steps p.tables e below (T67.setTop (mkF m 135 #[.val (.long p1), .second, .val (.long p2), .second, .val (.int p3), .val (.long (pick p1 p2 p3)), .second, .val (.ref b2), .val (.ref b7), .val (.ref b_16), .val (.int (0 : Int32)), .val (.int (1 : Int32)), .val (.int (1 : Int32)), .val (.int (eqU p1 p1)), .val (.int (1 : Int32)), .val (.int (1 : Int32))] [])) _
              refine XS.iload X67.here hx rfl (hb hby at_135) rfl ?_
              show Steps p.tables e below (T67.setTop (mkF m 137 #[.val (.long p1), .second, .val (.long p2), .second, .val (.int p3), .val (.long (pick p1 p2 p3)), .second, .val (.ref b2), .val (.ref b7), .val (.ref b_16), .val (.int (0 : Int32)), .val (.int (1 : Int32)), .val (.int (1 : Int32)), .val (.int (eqU p1 p1)), .val (.int (1 : Int32)), .val (.int (1 : Int32))] [(.int (1 : Int32))])) _
              refine XS.ifNo X67.here hx rfl (hb hby at_137) rfl ((if0 _ _).trans (feq (by decide : ¬ ((1 : Int32) = (0 : Int32)))).1) ?_
              show Steps p.tables e below (T67.setTop (mkF m 140 #[.val (.long p1), .second, .val (.long p2), .second, .val (.int p3), .val (.long (pick p1 p2 p3)), .second, .val (.ref b2), .val (.ref b7), .val (.ref b_16), .val (.int (0 : Int32)), .val (.int (1 : Int32)), .val (.int (1 : Int32)), .val (.int (eqU p1 p1)), .val (.int (1 : Int32)), .val (.int (1 : Int32))] [])) _
              refine XS.iload X67.here hx rfl (hb hby at_140) rfl ?_
              exact kt
            by_cases hc69 : (eqU p1 p1) = (0 : Int32)
            · rw [if_pos hc69] at hf
              refine Go.step (T' := T67) (f' := (mkF m 159 #[.val (.long p1), .second, .val (.long p2), .second, .val (.int p3), .val (.long (pick p1 p2 p3)), .second, .val (.ref b2), .val (.ref b7), .val (.ref b_16), .val (.int (0 : Int32)), .val (.int (1 : Int32)), .val (.int (1 : Int32)), .val (.int (eqU p1 p1)), .val (.int (1 : Int32)), .val (.int (1 : Int32))] [])) (fun t kt => ?_) ?_
              · show Steps p.tables e below (T67.setTop (mkF m 142 #[.val (.long p1), .second, .val (.long p2), .second, .val (.int p3), .val (.long (pick p1 p2 p3)), .second, .val (.ref b2), .val (.ref b7), .val (.ref b_16), .val (.int (0 : Int32)), .val (.int (1 : Int32)), .val (.int (1 : Int32)), .val (.int (eqU p1 p1)), .val (.int (1 : Int32)), .val (.int (1 : Int32))] [(.int (eqU p1 p1))])) _
                refine XS.ifYes X67.here hx rfl (pc0 := 142) (pc' := 159) rfl (hb hby at_142) rfl ((if0 _ _).trans (teq hc69).1) (by decide) (by decide) ?_
                exact kt
              refine Go.step (T' := T67) (f' := (mkF m 160 #[.val (.long p1), .second, .val (.long p2), .second, .val (.int p3), .val (.long (pick p1 p2 p3)), .second, .val (.ref b2), .val (.ref b7), .val (.ref b_16), .val (.int (0 : Int32)), .val (.int (1 : Int32)), .val (.int (1 : Int32)), .val (.int (eqU p1 p1)), .val (.int (1 : Int32)), .val (.int (1 : Int32))] [(.int (0 : Int32))])) (fun t kt => ?_) ?_
              · show Steps p.tables e below (T67.setTop (mkF m 159 #[.val (.long p1), .second, .val (.long p2), .second, .val (.int p3), .val (.long (pick p1 p2 p3)), .second, .val (.ref b2), .val (.ref b7), .val (.ref b_16), .val (.int (0 : Int32)), .val (.int (1 : Int32)), .val (.int (1 : Int32)), .val (.int (eqU p1 p1)), .val (.int (1 : Int32)), .val (.int (1 : Int32))] [])) _
                refine XS.iconst X67.here hx rfl (hb hby at_159) ?_
                exact kt
              refine Go.fin X67 (v := some (.int (0 : Int32))) (fun h => by rw [Bd.returns] at h; cases h) Bd.notSynchronized ?_ (Nat.le_trans (Nat.add_le_add_right (Nat.add_le_add_right (Nat.add_le_add_right (Nat.add_le_add_right (Nat.add_le_add_right (Nat.add_le_add_right (Nat.add_le_add_right (Nat.add_le_add_right (Nat.add_le_add_right (Nat.add_le_add_right (Nat.add_le_add_right (Nat.le_refl 0) 0) 1) 0) 1) 0) 1) 0) 0) 0) 0) 0) (by decide)) (Nat.le_trans (Nat.add_le_add_right (Nat.add_le_add_right (Nat.add_le_add_right (Nat.add_le_add_right (Nat.add_le_add_right (Nat.add_le_add_right (Nat.add_le_add_right (Nat.add_le_add_right (Nat.add_le_add_right (Nat.add_le_add_right (Nat.add_le_add_right (Nat.le_refl 0) 0) 1) 0) 1) 0) 2) 0) 0) 0) 0) 0) (by decide)) (fun fs hr => retN X67 hx (t := .boolean) Bd.returns (by simp) (hb hby at_160) hr)
              · exact ⟨by rw [hf], N67⟩
            · rw [if_neg hc69] at hf
              refine Go.step (T' := T67) (f' := (mkF m 145 #[.val (.long p1), .second, .val (.long p2), .second, .val (.int p3), .val (.long (pick p1 p2 p3)), .second, .val (.ref b2), .val (.ref b7), .val (.ref b_16), .val (.int (0 : Int32)), .val (.int (1 : Int32)), .val (.int (1 : Int32)), .val (.int (eqU p1 p1)), .val (.int (1 : Int32)), .val (.int (1 : Int32))] [])) (fun t kt => ?_) ?_
              · show Steps p.tables e below (T67.setTop (mkF m 142 #[.val (.long p1), .second, .val (.long p2), .second, .val (.int p3), .val (.long (pick p1 p2 p3)), .second, .val (.ref b2), .val (.ref b7), .val (.ref b_16), .val (.int (0 : Int32)), .val (.int (1 : Int32)), .val (.int (1 : Int32)), .val (.int (eqU p1 p1)), .val (.int (1 : Int32)), .val (.int (1 : Int32))] [(.int (eqU p1 p1))])) _
                refine XS.ifNo X67.here hx rfl (hb hby at_142) rfl ((if0 _ _).trans (feq hc69).1) ?_
                exact kt
              refine Go.step (T' := T67) (f' := (mkF m 160 #[.val (.long p1), .second, .val (.long p2), .second, .val (.int p3), .val (.long (pick p1 p2 p3)), .second, .val (.ref b2), .val (.ref b7), .val (.ref b_16), .val (.int (0 : Int32)), .val (.int (1 : Int32)), .val (.int (1 : Int32)), .val (.int (eqU p1 p1)), .val (.int (1 : Int32)), .val (.int (1 : Int32))] [(.int (1 : Int32))])) (fun t kt => ?_) ?_
              · show Steps p.tables e below (T67.setTop (mkF m 145 #[.val (.long p1), .second, .val (.long p2), .second, .val (.int p3), .val (.long (pick p1 p2 p3)), .second, .val (.ref b2), .val (.ref b7), .val (.ref b_16), .val (.int (0 : Int32)), .val (.int (1 : Int32)), .val (.int (1 : Int32)), .val (.int (eqU p1 p1)), .val (.int (1 : Int32)), .val (.int (1 : Int32))] [])) _
                refine XS.iload X67.here hx rfl (hb hby at_145) rfl ?_
                show Steps p.tables e below (T67.setTop (mkF m 147 #[.val (.long p1), .second, .val (.long p2), .second, .val (.int p3), .val (.long (pick p1 p2 p3)), .second, .val (.ref b2), .val (.ref b7), .val (.ref b_16), .val (.int (0 : Int32)), .val (.int (1 : Int32)), .val (.int (1 : Int32)), .val (.int (eqU p1 p1)), .val (.int (1 : Int32)), .val (.int (1 : Int32))] [(.int (1 : Int32))])) _
                refine XS.ifNo X67.here hx rfl (hb hby at_147) rfl ((if0 _ _).trans (feq (by decide : ¬ ((1 : Int32) = (0 : Int32)))).1) ?_
                show Steps p.tables e below (T67.setTop (mkF m 150 #[.val (.long p1), .second, .val (.long p2), .second, .val (.int p3), .val (.long (pick p1 p2 p3)), .second, .val (.ref b2), .val (.ref b7), .val (.ref b_16), .val (.int (0 : Int32)), .val (.int (1 : Int32)), .val (.int (1 : Int32)), .val (.int (eqU p1 p1)), .val (.int (1 : Int32)), .val (.int (1 : Int32))] [])) _
                refine XS.iload X67.here hx rfl (hb hby at_150) rfl ?_
                show Steps p.tables e below (T67.setTop (mkF m 152 #[.val (.long p1), .second, .val (.long p2), .second, .val (.int p3), .val (.long (pick p1 p2 p3)), .second, .val (.ref b2), .val (.ref b7), .val (.ref b_16), .val (.int (0 : Int32)), .val (.int (1 : Int32)), .val (.int (1 : Int32)), .val (.int (eqU p1 p1)), .val (.int (1 : Int32)), .val (.int (1 : Int32))] [(.int (1 : Int32))])) _
                refine XS.ifNo X67.here hx rfl (hb hby at_152) rfl ((if0 _ _).trans (feq (by decide : ¬ ((1 : Int32) = (0 : Int32)))).1) ?_
                show Steps p.tables e below (T67.setTop (mkF m 155 #[.val (.long p1), .second, .val (.long p2), .second, .val (.int p3), .val (.long (pick p1 p2 p3)), .second, .val (.ref b2), .val (.ref b7), .val (.ref b_16), .val (.int (0 : Int32)), .val (.int (1 : Int32)), .val (.int (1 : Int32)), .val (.int (eqU p1 p1)), .val (.int (1 : Int32)), .val (.int (1 : Int32))] [])) _
                refine XS.iconst X67.here hx rfl (hb hby at_155) ?_
                show Steps p.tables e below (T67.setTop (mkF m 156 #[.val (.long p1), .second, .val (.long p2), .second, .val (.int p3), .val (.long (pick p1 p2 p3)), .second, .val (.ref b2), .val (.ref b7), .val (.ref b_16), .val (.int (0 : Int32)), .val (.int (1 : Int32)), .val (.int (1 : Int32)), .val (.int (eqU p1 p1)), .val (.int (1 : Int32)), .val (.int (1 : Int32))] [(.int (1 : Int32))])) _
                refine XS.goto X67.here hx rfl (pc0 := 156) (pc' := 160) rfl (hb hby at_156) (by decide) (by decide) ?_
                exact kt
              refine Go.fin X67 (v := some (.int (1 : Int32))) (fun h => by rw [Bd.returns] at h; cases h) Bd.notSynchronized ?_ (Nat.le_trans (Nat.add_le_add_right (Nat.add_le_add_right (Nat.add_le_add_right (Nat.add_le_add_right (Nat.add_le_add_right (Nat.add_le_add_right (Nat.add_le_add_right (Nat.add_le_add_right (Nat.add_le_add_right (Nat.add_le_add_right (Nat.add_le_add_right (Nat.le_refl 0) 0) 1) 0) 1) 0) 1) 0) 0) 0) 0) 0) (by decide)) (Nat.le_trans (Nat.add_le_add_right (Nat.add_le_add_right (Nat.add_le_add_right (Nat.add_le_add_right (Nat.add_le_add_right (Nat.add_le_add_right (Nat.add_le_add_right (Nat.add_le_add_right (Nat.add_le_add_right (Nat.add_le_add_right (Nat.add_le_add_right (Nat.le_refl 0) 0) 1) 0) 1) 0) 2) 0) 0) 0) 0) 0) (by decide)) (fun fs hr => retN X67 hx (t := .boolean) Bd.returns (by simp) (hb hby at_160) hr)
              · exact ⟨by rw [hf], N67⟩
          · rw [if_neg hc68] at hf
            refine Go.step (T' := T67) (f' := (mkF m 127 #[.val (.long p1), .second, .val (.long p2), .second, .val (.int p3), .val (.long (pick p1 p2 p3)), .second, .val (.ref b2), .val (.ref b7), .val (.ref b_16), .val (.int (0 : Int32)), .val (.int (1 : Int32)), .val (.int (1 : Int32)), .val (.int (eqU p1 p1)), .val (.int (1 : Int32)), .unset] [])) (fun t kt => ?_) ?_
            · show Steps p.tables e below (T67.setTop (mkF m 120 #[.val (.long p1), .second, .val (.long p2), .second, .val (.int p3), .val (.long (pick p1 p2 p3)), .second, .val (.ref b2), .val (.ref b7), .val (.ref b_16), .val (.int (0 : Int32)), .val (.int (1 : Int32)), .val (.int (1 : Int32)), .val (.int (eqU p1 p1)), .val (.int (1 : Int32)), .unset] [(.int (eqI ))])) _
              refine XS.ifYes X67.here hx rfl (pc0 := 120) (pc' := 127) rfl (hb hby at_120) rfl ((if0 _ _).trans (feq hc68).2) (by decide) (by decide) ?_
              exact kt
            refine Go.step (T' := T67) (f' := (mkF m 142 #[.val (.long p1), .second, .val (.long p2), .second, .val (.int p3), .val (.long (pick p1 p2 p3)), .second, .val (.ref b2), .val (.ref b7), .val (.ref b_16), .val (.int (0 : Int32)), .val (.int (1 : Int32)), .val (.int (1 : Int32)), .val (.int (eqU p1 p1)), .val (.int (1 : Int32)), .val (.int (0 : Int32))] [(.int (eqU p1 p1))])) (fun t kt => ?_) ?_
            · show Steps p.tables e below (T67.setTop (mkF m 127 #[.val (.long p1), .second, .val (.long p2), .second, .val (.int p3), .val (.long (pick p1 p2 p3)), .second, .val (.ref b2), .val (.ref b7), .val (.ref b_16), .val (.int (0 : Int32)), .val (.int (1 : Int32)), .val (.int (1 : Int32)), .val (.int (eqU p1 p1)), .val (.int (1 : Int32)), .unset] [])) _
              refine XS.iconst X67.here hx rfl (hb hby at_127) ?_
              show Steps p.tables e below (T67.setTop (mkF m 128 #[.val (.long p1), .second, .val (.long p2), .second, .val (.int p3), .val (.long (pick p1 p2 p3)), .second, .val (.ref b2), .val (.ref b7), .val (.ref b_16), .val (.int (0 : Int32)), .val (.int (1 : Int32)), .val (.int (1 : Int32)), .val (.int (eqU p1 p1)), .val (.int (1 : Int32)), .unset] [(.int (0 : Int32))])) _
              refine XS.istore X67.here hx rfl (hb hby at_128) rfl (l' := #[.val (.long p1), .second, .val (.long p2), .second, .val (.int p3), .val (.long (pick p1 p2 p3)), .second, .val (.ref b2), .val (.ref b7), .val (.ref b_16), .val (.int (0 : Int32)), .val (.int (1 : Int32)), .val (.int (1 : Int32)), .val (.int (eqU p1 p1)), .val (.int (1 : Int32)), .val (.int (0 : Int32))]) rfl ?_
              show Steps p.tables e below (T67.setTop (mkF m 130 #[.val (.long p1), .second, .val (.long p2), .second, .val (.int p3), .val (.long (pick p1 p2 p3)), .second, .val (.ref b2), .val (.ref b7), .val (.ref b_16), .val (.int (0 : Int32)), .val (.int (1 : Int32)), .val (.int (1 : Int32)), .val (.int (eqU p1 p1)), .val (.int (1 : Int32)), .val (.int (0 : Int32))] [])) _
              refine XS.iload X67.here hx rfl (hb hby at_130) rfl ?_
              show Steps p.tables e below (T67.setTop (mkF m 132 #[.val (.long p1), .second, .val (.long p2), .second, .val (.int p3), .val (.long (pick p1 p2 p3)), .second, .val (.ref b2), .val (.ref b7), .val (.ref b_16), .val (.int (0 : Int32)), .val (.int (1 : Int32)), .val (.int (1 : Int32)), .val (.int (eqU p1 p1)), .val (.int (1 : Int32)), .val (.int (0 : Int32))] [(.int (1 : Int32))])) _
              refine XS.ifNo X67.here hx rfl (hb hby at_132) rfl ((if0 _ _).trans (feq (by decide : ¬ ((1 : Int32) = (0 : Int32)))).1) ?_
              show Steps p.tables e below (T67.setTop (mkF m 135 #[.val (.long p1), .second, .val (.long p2), .second, .val (.int p3), .val (.long (pick p1 p2 p3)), .second, .val (.ref b2), .val (.ref b7), .val (.ref b_16), .val (.int (0 : Int32)), .val (.int (1 : Int32)), .val (.int (1 : Int32)), .val (.int (eqU p1 p1)), .val (.int (1 : Int32)), .val (.int (0 : Int32))] [])) _
              refine XS.iload X67.here hx rfl (hb hby at_135) rfl ?_
              show Steps p.tables e below (T67.setTop (mkF m 137 #[.val (.long p1), .second, .val (.long p2), .second, .val (.int p3), .val (.long (pick p1 p2 p3)), .second, .val (.ref b2), .val (.ref b7), .val (.ref b_16), .val (.int (0 : Int32)), .val (.int (1 : Int32)), .val (.int (1 : Int32)), .val (.int (eqU p1 p1)), .val (.int (1 : Int32)), .val (.int (0 : Int32))] [(.int (1 : Int32))])) _
              refine XS.ifNo X67.here hx rfl (hb hby at_137) rfl ((if0 _ _).trans (feq (by decide : ¬ ((1 : Int32) = (0 : Int32)))).1) ?_
              show Steps p.tables e below (T67.setTop (mkF m 140 #[.val (.long p1), .second, .val (.long p2), .second, .val (.int p3), .val (.long (pick p1 p2 p3)), .second, .val (.ref b2), .val (.ref b7), .val (.ref b_16), .val (.int (0 : Int32)), .val (.int (1 : Int32)), .val (.int (1 : Int32)), .val (.int (eqU p1 p1)), .val (.int (1 : Int32)), .val (.int (0 : Int32))] [])) _
              refine XS.iload X67.here hx rfl (hb hby at_140) rfl ?_
              exact kt
            by_cases hc70 : (eqU p1 p1) = (0 : Int32)
            · rw [if_pos hc70] at hf
              refine Go.step (T' := T67) (f' := (mkF m 159 #[.val (.long p1), .second, .val (.long p2), .second, .val (.int p3), .val (.long (pick p1 p2 p3)), .second, .val (.ref b2), .val (.ref b7), .val (.ref b_16), .val (.int (0 : Int32)), .val (.int (1 : Int32)), .val (.int (1 : Int32)), .val (.int (eqU p1 p1)), .val (.int (1 : Int32)), .val (.int (0 : Int32))] [])) (fun t kt => ?_) ?_
              · show Steps p.tables e below (T67.setTop (mkF m 142 #[.val (.long p1), .second, .val (.long p2), .second, .val (.int p3), .val (.long (pick p1 p2 p3)), .second, .val (.ref b2), .val (.ref b7), .val (.ref b_16), .val (.int (0 : Int32)), .val (.int (1 : Int32)), .val (.int (1 : Int32)), .val (.int (eqU p1 p1)), .val (.int (1 : Int32)), .val (.int (0 : Int32))] [(.int (eqU p1 p1))])) _
                refine XS.ifYes X67.here hx rfl (pc0 := 142) (pc' := 159) rfl (hb hby at_142) rfl ((if0 _ _).trans (teq hc70).1) (by decide) (by decide) ?_
                exact kt
              refine Go.step (T' := T67) (f' := (mkF m 160 #[.val (.long p1), .second, .val (.long p2), .second, .val (.int p3), .val (.long (pick p1 p2 p3)), .second, .val (.ref b2), .val (.ref b7), .val (.ref b_16), .val (.int (0 : Int32)), .val (.int (1 : Int32)), .val (.int (1 : Int32)), .val (.int (eqU p1 p1)), .val (.int (1 : Int32)), .val (.int (0 : Int32))] [(.int (0 : Int32))])) (fun t kt => ?_) ?_
              · show Steps p.tables e below (T67.setTop (mkF m 159 #[.val (.long p1), .second, .val (.long p2), .second, .val (.int p3), .val (.long (pick p1 p2 p3)), .second, .val (.ref b2), .val (.ref b7), .val (.ref b_16), .val (.int (0 : Int32)), .val (.int (1 : Int32)), .val (.int (1 : Int32)), .val (.int (eqU p1 p1)), .val (.int (1 : Int32)), .val (.int (0 : Int32))] [])) _
                refine XS.iconst X67.here hx rfl (hb hby at_159) ?_
                exact kt
              refine Go.fin X67 (v := some (.int (0 : Int32))) (fun h => by rw [Bd.returns] at h; cases h) Bd.notSynchronized ?_ (Nat.le_trans (Nat.add_le_add_right (Nat.add_le_add_right (Nat.add_le_add_right (Nat.add_le_add_right (Nat.add_le_add_right (Nat.add_le_add_right (Nat.add_le_add_right (Nat.add_le_add_right (Nat.add_le_add_right (Nat.add_le_add_right (Nat.add_le_add_right (Nat.le_refl 0) 0) 1) 0) 1) 0) 1) 0) 0) 0) 0) 0) (by decide)) (Nat.le_trans (Nat.add_le_add_right (Nat.add_le_add_right (Nat.add_le_add_right (Nat.add_le_add_right (Nat.add_le_add_right (Nat.add_le_add_right (Nat.add_le_add_right (Nat.add_le_add_right (Nat.add_le_add_right (Nat.add_le_add_right (Nat.add_le_add_right (Nat.le_refl 0) 0) 1) 0) 1) 0) 2) 0) 0) 0) 0) 0) (by decide)) (fun fs hr => retN X67 hx (t := .boolean) Bd.returns (by simp) (hb hby at_160) hr)
              · exact ⟨by rw [hf], N67⟩
            · rw [if_neg hc70] at hf
              refine Go.step (T' := T67) (f' := (mkF m 145 #[.val (.long p1), .second, .val (.long p2), .second, .val (.int p3), .val (.long (pick p1 p2 p3)), .second, .val (.ref b2), .val (.ref b7), .val (.ref b_16), .val (.int (0 : Int32)), .val (.int (1 : Int32)), .val (.int (1 : Int32)), .val (.int (eqU p1 p1)), .val (.int (1 : Int32)), .val (.int (0 : Int32))] [])) (fun t kt => ?_) ?_
              · show Steps p.tables e below (T67.setTop (mkF m 142 #[.val (.long p1), .second, .val (.long p2), .second, .val (.int p3), .val (.long (pick p1 p2 p3)), .second, .val (.ref b2), .val (.ref b7), .val (.ref b_16), .val (.int (0 : Int32)), .val (.int (1 : Int32)), .val (.int (1 : Int32)), .val (.int (eqU p1 p1)), .val (.int (1 : Int32)), .val (.int (0 : Int32))] [(.int (eqU p1 p1))])) _
                refine XS.ifNo X67.here hx rfl (hb hby at_142) rfl ((if0 _ _).trans (feq hc70).1) ?_
                exact kt
              refine Go.step (T' := T67) (f' := (mkF m 160 #[.val (.long p1), .second, .val (.long p2), .second, .val (.int p3), .val (.long (pick p1 p2 p3)), .second, .val (.ref b2), .val (.ref b7), .val (.ref b_16), .val (.int (0 : Int32)), .val (.int (1 : Int32)), .val (.int (1 : Int32)), .val (.int (eqU p1 p1)), .val (.int (1 : Int32)), .val (.int (0 : Int32))] [(.int (0 : Int32))])) (fun t kt => ?_) ?_
              · show Steps p.tables e below (T67.setTop (mkF m 145 #[.val (.long p1), .second, .val (.long p2), .second, .val (.int p3), .val (.long (pick p1 p2 p3)), .second, .val (.ref b2), .val (.ref b7), .val (.ref b_16), .val (.int (0 : Int32)), .val (.int (1 : Int32)), .val (.int (1 : Int32)), .val (.int (eqU p1 p1)), .val (.int (1 : Int32)), .val (.int (0 : Int32))] [])) _
                refine XS.iload X67.here hx rfl (hb hby at_145) rfl ?_
                show Steps p.tables e below (T67.setTop (mkF m 147 #[.val (.long p1), .second, .val (.long p2), .second, .val (.int p3), .val (.long (pick p1 p2 p3)), .second, .val (.ref b2), .val (.ref b7), .val (.ref b_16), .val (.int (0 : Int32)), .val (.int (1 : Int32)), .val (.int (1 : Int32)), .val (.int (eqU p1 p1)), .val (.int (1 : Int32)), .val (.int (0 : Int32))] [(.int (1 : Int32))])) _
                refine XS.ifNo X67.here hx rfl (hb hby at_147) rfl ((if0 _ _).trans (feq (by decide : ¬ ((1 : Int32) = (0 : Int32)))).1) ?_
                show Steps p.tables e below (T67.setTop (mkF m 150 #[.val (.long p1), .second, .val (.long p2), .second, .val (.int p3), .val (.long (pick p1 p2 p3)), .second, .val (.ref b2), .val (.ref b7), .val (.ref b_16), .val (.int (0 : Int32)), .val (.int (1 : Int32)), .val (.int (1 : Int32)), .val (.int (eqU p1 p1)), .val (.int (1 : Int32)), .val (.int (0 : Int32))] [])) _
                refine XS.iload X67.here hx rfl (hb hby at_150) rfl ?_
                show Steps p.tables e below (T67.setTop (mkF m 152 #[.val (.long p1), .second, .val (.long p2), .second, .val (.int p3), .val (.long (pick p1 p2 p3)), .second, .val (.ref b2), .val (.ref b7), .val (.ref b_16), .val (.int (0 : Int32)), .val (.int (1 : Int32)), .val (.int (1 : Int32)), .val (.int (eqU p1 p1)), .val (.int (1 : Int32)), .val (.int (0 : Int32))] [(.int (0 : Int32))])) _
                refine XS.ifYes X67.here hx rfl (pc0 := 152) (pc' := 159) rfl (hb hby at_152) rfl ((if0 _ _).trans (teq (by decide : ((0 : Int32) = (0 : Int32)))).1) (by decide) (by decide) ?_
                show Steps p.tables e below (T67.setTop (mkF m 159 #[.val (.long p1), .second, .val (.long p2), .second, .val (.int p3), .val (.long (pick p1 p2 p3)), .second, .val (.ref b2), .val (.ref b7), .val (.ref b_16), .val (.int (0 : Int32)), .val (.int (1 : Int32)), .val (.int (1 : Int32)), .val (.int (eqU p1 p1)), .val (.int (1 : Int32)), .val (.int (0 : Int32))] [])) _
                refine XS.iconst X67.here hx rfl (hb hby at_159) ?_
                exact kt
              refine Go.fin X67 (v := some (.int (0 : Int32))) (fun h => by rw [Bd.returns] at h; cases h) Bd.notSynchronized ?_ (Nat.le_trans (Nat.add_le_add_right (Nat.add_le_add_right (Nat.add_le_add_right (Nat.add_le_add_right (Nat.add_le_add_right (Nat.add_le_add_right (Nat.add_le_add_right (Nat.add_le_add_right (Nat.add_le_add_right (Nat.add_le_add_right (Nat.add_le_add_right (Nat.le_refl 0) 0) 1) 0) 1) 0) 1) 0) 0) 0) 0) 0) (by decide)) (Nat.le_trans (Nat.add_le_add_right (Nat.add_le_add_right (Nat.add_le_add_right (Nat.add_le_add_right (Nat.add_le_add_right (Nat.add_le_add_right (Nat.add_le_add_right (Nat.add_le_add_right (Nat.add_le_add_right (Nat.add_le_add_right (Nat.add_le_add_right (Nat.le_refl 0) 0) 1) 0) 1) 0) 2) 0) 0) 0) 0) 0) (by decide)) (fun fs hr => retN X67 hx (t := .boolean) Bd.returns (by simp) (hb hby at_160) hr)
              · exact ⟨by rw [hf], N67⟩
        · rw [if_neg hc66] at hf
          refine Go.step (T' := T65) (f' := (mkF m 110 #[.val (.long p1), .second, .val (.long p2), .second, .val (.int p3), .val (.long (pick p1 p2 p3)), .second, .val (.ref b2), .val (.ref b7), .val (.ref b_16), .val (.int (0 : Int32)), .val (.int (1 : Int32)), .val (.int (1 : Int32)), .val (.int (eqU p1 p1)), .unset, .unset] [])) (fun t kt => ?_) ?_
          · show Steps p.tables e below (T65.setTop (mkF m 103 #[.val (.long p1), .second, .val (.long p2), .second, .val (.int p3), .val (.long (pick p1 p2 p3)), .second, .val (.ref b2), .val (.ref b7), .val (.ref b_16), .val (.int (0 : Int32)), .val (.int (1 : Int32)), .val (.int (1 : Int32)), .val (.int (eqU p1 p1)), .unset, .unset] [(.int (eqN ))])) _
            refine XS.ifYes X65.here hx rfl (pc0 := 103) (pc' := 110) rfl (hb hby at_103) rfl ((if0 _ _).trans (feq hc66).2) (by decide) (by decide) ?_
            exact kt
          obtain ⟨cq71, kq71, q71a, q71b, q71c⟩ := isOf hZ e65 (G17 : Exa Z T16.heap b2 "com/example/plumbline/plumbline/model/PlistUid")
          obtain ⟨_, _, ⟨T71, L71, k71, n71⟩, -, X71, ⟨Lc71, hQ71, l71, y71, z71⟩, st71⟩ := X65.virtualBack hx (y := (⟨"com/example/plumbline/plumbline/model/PlistUid", "equals", "(Ljava/lang/Object;)Z"⟩ : MethodName)) (z := (⟨"com/example/plumbline/plumbline/model/PlistUid", "equals", "(Ljava/lang/Object;)Z"⟩ : MethodName)) hown (mvT hZ (hw _ (List.mem_of_getElem? (i := 29) rfl))) (mvT hZ (hw _ (List.mem_of_getElem? (i := 30) rfl))) (notFace_of_selects (args := #[]) (mvT hZ (hw _ (List.mem_of_getElem? (i := 32) rfl)))) (mvT hZ (hw _ (List.mem_of_getElem? (i := 32) rfl))) (mvT hZ (hw _ (List.mem_of_getElem? (i := 31) rfl))) (by decide) (backOf (W := 0) (rm_eqI l Z a0 hw [] b2 b_16  T16.heap n0 Z16 pf16_0 ) hZ (hw _ (List.mem_of_getElem? (i := 33) rfl)) (hw _ (List.mem_of_getElem? (i := 6) rfl)) (by decide) (by decide)) q71a q71c (g := (mkF m 117 #[.val (.long p1), .second, .val (.long p2), .second, .val (.int p3), .val (.long (pick p1 p2 p3)), .second, .val (.ref b2), .val (.ref b7), .val (.ref b_16), .val (.int (0 : Int32)), .val (.int (1 : Int32)), .val (.int (1 : Int32)), .val (.int (eqU p1 p1)), .val (.int (0 : Int32)), .unset] [(.ref b_16), (.ref b2)])) rfl (by rw [hml]; rfl) (Steps.refl _) (argsL := [(.ref b_16)]) (rest := []) (lenOf pd_4 rfl) rfl (by show 2 * 0 + _ ≤ _; exact Nat.le_of_eq rfl) (hb hby at_117) (fun _ _ => ⟨rfl, e65, (Nat.le_trans (Nat.add_le_add_right (Nat.add_le_add_right (Nat.add_le_add_right (Nat.add_le_add_right (Nat.add_le_add_right (Nat.add_le_add_right (Nat.add_le_add_right (Nat.add_le_add_right (Nat.add_le_add_right (Nat.add_le_add_right (Nat.add_le_add_right (Nat.le_refl 0) 0) 1) 0) 1) 0) 1) 0) 0) 0) 0) 0) (by decide)), (Nat.le_trans (Nat.add_le_add_right (Nat.add_le_add_right (Nat.add_le_add_right (Nat.add_le_add_right (Nat.add_le_add_right (Nat.add_le_add_right (Nat.add_le_add_right (Nat.add_le_add_right (Nat.add_le_add_right (Nat.add_le_add_right (Nat.add_le_add_right (Nat.le_refl 0) 0) 1) 0) 1) 0) 2) 0) 0) 0) 0) 0) (by decide))⟩)
          dsimp only [Pt.U, Pt.locs, Pt.cells, Pt.slots] at X71 l71 y71 z71 st71 hQ71
          subst l71 y71 z71
          obtain ⟨rfl, N71q, e71⟩ := hQ71
          have N71 := Fr.app N65 N71q
          refine Go.step (T' := T71) (f' := (mkF m 120 #[.val (.long p1), .second, .val (.long p2), .second, .val (.int p3), .val (.long (pick p1 p2 p3)), .second, .val (.ref b2), .val (.ref b7), .val (.ref b_16), .val (.int (0 : Int32)), .val (.int (1 : Int32)), .val (.int (1 : Int32)), .val (.int (eqU p1 p1)), .val (.int (0 : Int32)), .unset] [(.int (eqI ))])) (fun t kt => ?_) ?_
          · show Steps p.tables e below (T65.setTop (mkF m 110 #[.val (.long p1), .second, .val (.long p2), .second, .val (.int p3), .val (.long (pick p1 p2 p3)), .second, .val (.ref b2), .val (.ref b7), .val (.ref b_16), .val (.int (0 : Int32)), .val (.int (1 : Int32)), .val (.int (1 : Int32)), .val (.int (eqU p1 p1)), .unset, .unset] [])) _
            refine XS.iconst X65.here hx rfl (hb hby at_110) ?_
            show Steps p.tables e below (T65.setTop (mkF m 111 #[.val (.long p1), .second, .val (.long p2), .second, .val (.int p3), .val (.long (pick p1 p2 p3)), .second, .val (.ref b2), .val (.ref b7), .val (.ref b_16), .val (.int (0 : Int32)), .val (.int (1 : Int32)), .val (.int (1 : Int32)), .val (.int (eqU p1 p1)), .unset, .unset] [(.int (0 : Int32))])) _
            refine XS.istore X65.here hx rfl (hb hby at_111) rfl (l' := #[.val (.long p1), .second, .val (.long p2), .second, .val (.int p3), .val (.long (pick p1 p2 p3)), .second, .val (.ref b2), .val (.ref b7), .val (.ref b_16), .val (.int (0 : Int32)), .val (.int (1 : Int32)), .val (.int (1 : Int32)), .val (.int (eqU p1 p1)), .val (.int (0 : Int32)), .unset]) rfl ?_
            show Steps p.tables e below (T65.setTop (mkF m 113 #[.val (.long p1), .second, .val (.long p2), .second, .val (.int p3), .val (.long (pick p1 p2 p3)), .second, .val (.ref b2), .val (.ref b7), .val (.ref b_16), .val (.int (0 : Int32)), .val (.int (1 : Int32)), .val (.int (1 : Int32)), .val (.int (eqU p1 p1)), .val (.int (0 : Int32)), .unset] [])) _
            refine XS.aload X65.here hx rfl (hb hby at_113) rfl rfl ?_
            show Steps p.tables e below (T65.setTop (mkF m 115 #[.val (.long p1), .second, .val (.long p2), .second, .val (.int p3), .val (.long (pick p1 p2 p3)), .second, .val (.ref b2), .val (.ref b7), .val (.ref b_16), .val (.int (0 : Int32)), .val (.int (1 : Int32)), .val (.int (1 : Int32)), .val (.int (eqU p1 p1)), .val (.int (0 : Int32)), .unset] [(.ref b2)])) _
            refine XS.aload X65.here hx rfl (hb hby at_115) rfl rfl ?_
            show Steps p.tables e below (T65.setTop (mkF m 117 #[.val (.long p1), .second, .val (.long p2), .second, .val (.int p3), .val (.long (pick p1 p2 p3)), .second, .val (.ref b2), .val (.ref b7), .val (.ref b_16), .val (.int (0 : Int32)), .val (.int (1 : Int32)), .val (.int (1 : Int32)), .val (.int (eqU p1 p1)), .val (.int (0 : Int32)), .unset] [(.ref b_16), (.ref b2)])) _
            refine st71.trans ?_
            exact kt
          by_cases hc72 : (eqI ) = (0 : Int32)
          · rw [if_pos hc72] at hf
            refine Go.step (T' := T71) (f' := (mkF m 123 #[.val (.long p1), .second, .val (.long p2), .second, .val (.int p3), .val (.long (pick p1 p2 p3)), .second, .val (.ref b2), .val (.ref b7), .val (.ref b_16), .val (.int (0 : Int32)), .val (.int (1 : Int32)), .val (.int (1 : Int32)), .val (.int (eqU p1 p1)), .val (.int (0 : Int32)), .unset] [])) (fun t kt => ?_) ?_
            · show Steps p.tables e below (T71.setTop (mkF m 120 #[.val (.long p1), .second, .val (.long p2), .second, .val (.int p3), .val (.long (pick p1 p2 p3)), .second, .val (.ref b2), .val (.ref b7), .val (.ref b_16), .val (.int (0 : Int32)), .val (.int (1 : Int32)), .val (.int (1 : Int32)), .val (.int (eqU p1 p1)), .val (.int (0 : Int32)), .unset] [(.int (eqI ))])) _
              refine XS.ifNo X71.here hx rfl (hb hby at_120) rfl ((if0 _ _).trans (teq hc72).2) ?_
              exact kt
            refine Go.step (T' := T71) (f' := (mkF m 142 #[.val (.long p1), .second, .val (.long p2), .second, .val (.int p3), .val (.long (pick p1 p2 p3)), .second, .val (.ref b2), .val (.ref b7), .val (.ref b_16), .val (.int (0 : Int32)), .val (.int (1 : Int32)), .val (.int (1 : Int32)), .val (.int (eqU p1 p1)), .val (.int (0 : Int32)), .val (.int (1 : Int32))] [(.int (eqU p1 p1))])) (fun t kt => ?_) ?_
            · show Steps p.tables e below (T71.setTop (mkF m 123 #[.val (.long p1), .second, .val (.long p2), .second, .val (.int p3), .val (.long (pick p1 p2 p3)), .second, .val (.ref b2), .val (.ref b7), .val (.ref b_16), .val (.int (0 : Int32)), .val (.int (1 : Int32)), .val (.int (1 : Int32)), .val (.int (eqU p1 p1)), .val (.int (0 : Int32)), .unset] [])) _
              refine XS.iconst X71.here hx rfl (hb hby at_123) ?_
              show Steps p.tables e below (T71.setTop (mkF m 124 #[.val (.long p1), .second, .val (.long p2), .second, .val (.int p3), .val (.long (pick p1 p2 p3)), .second, .val (.ref b2), .val (.ref b7), .val (.ref b_16), .val (.int (0 : Int32)), .val (.int (1 : Int32)), .val (.int (1 : Int32)), .val (.int (eqU p1 p1)), .val (.int (0 : Int32)), .unset] [(.int (1 : Int32))])) _
              refine XS.goto X71.here hx rfl (pc0 := 124) (pc' := 128) rfl (hb hby at_124) (by decide) (by decide) ?_
              show Steps p.tables e below (T71.setTop (mkF m 128 #[.val (.long p1), .second, .val (.long p2), .second, .val (.int p3), .val (.long (pick p1 p2 p3)), .second, .val (.ref b2), .val (.ref b7), .val (.ref b_16), .val (.int (0 : Int32)), .val (.int (1 : Int32)), .val (.int (1 : Int32)), .val (.int (eqU p1 p1)), .val (.int (0 : Int32)), .unset] [(.int (1 : Int32))])) _
              refine XS.istore X71.here hx rfl (hb hby at_128) rfl (l' := #[.val (.long p1), .second, .val (.long p2), .second, .val (.int p3), .val (.long (pick p1 p2 p3)), .second, .val (.ref b2), .val (.ref b7), .val (.ref b_16), .val (.int (0 : Int32)), .val (.int (1 : Int32)), .val (.int (1 : Int32)), .val (.int (eqU p1 p1)), .val (.int (0 : Int32)), .val (.int (1 : Int32))]) rfl ?_
              show Steps p.tables e below (T71.setTop (mkF m 130 #[.val (.long p1), .second, .val (.long p2), .second, .val (.int p3), .val (.long (pick p1 p2 p3)), .second, .val (.ref b2), .val (.ref b7), .val (.ref b_16), .val (.int (0 : Int32)), .val (.int (1 : Int32)), .val (.int (1 : Int32)), .val (.int (eqU p1 p1)), .val (.int (0 : Int32)), .val (.int (1 : Int32))] [])) _
              refine XS.iload X71.here hx rfl (hb hby at_130) rfl ?_
              show Steps p.tables e below (T71.setTop (mkF m 132 #[.val (.long p1), .second, .val (.long p2), .second, .val (.int p3), .val (.long (pick p1 p2 p3)), .second, .val (.ref b2), .val (.ref b7), .val (.ref b_16), .val (.int (0 : Int32)), .val (.int (1 : Int32)), .val (.int (1 : Int32)), .val (.int (eqU p1 p1)), .val (.int (0 : Int32)), .val (.int (1 : Int32))] [(.int (1 : Int32))])) _
              refine XS.ifNo X71.here hx rfl (hb hby at_132) rfl ((if0 _ _).trans (feq (by decide : ¬ ((1 : Int32) = (0 : Int32)))).1) ?_
              show Steps p.tables e below (T71.setTop (mkF m 135 #[.val (.long p1), .second, .val (.long p2), .second, .val (.int p3), .val (.long (pick p1 p2 p3)), .second, .val (.ref b2), .val (.ref b7), .val (.ref b_16), .val (.int (0 : Int32)), .val (.int (1 : Int32)), .val (.int (1 : Int32)), .val (.int (eqU p1 p1)), .val (.int (0 : Int32)), .val (.int (1 : Int32))] [])) _
              refine XS.iload X71.here hx rfl (hb hby at_135) rfl ?_
              show Steps p.tables e below (T71.setTop (mkF m 137 #[.val (.long p1), .second, .val (.long p2), .second, .val (.int p3), .val (.long (pick p1 p2 p3)), .second, .val (.ref b2), .val (.ref b7), .val (.ref b_16), .val (.int (0 : Int32)), .val (.int (1 : Int32)), .val (.int (1 : Int32)), .val (.int (eqU p1 p1)), .val (.int (0 : Int32)), .val (.int (1 : Int32))] [(.int (1 : Int32))])) _
              refine XS.ifNo X71.here hx rfl (hb hby at_137) rfl ((if0 _ _).trans (feq (by decide : ¬ ((1 : Int32) = (0 : Int32)))).1) ?_
              show Steps p.tables e below (T71.setTop (mkF m 140 #[.val (.long p1), .second, .val (.long p2), .second, .val (.int p3), .val (.long (pick p1 p2 p3)), .second, .val (.ref b2), .val (.ref b7), .val (.ref b_16), .val (.int (0 : Int32)), .val (.int (1 : Int32)), .val (.int (1 : Int32)), .val (.int (eqU p1 p1)), .val (.int (0 : Int32)), .val (.int (1 : Int32))] [])) _
              refine XS.iload X71.here hx rfl (hb hby at_140) rfl ?_
              exact kt
            by_cases hc73 : (eqU p1 p1) = (0 : Int32)
            · rw [if_pos hc73] at hf
              refine Go.step (T' := T71) (f' := (mkF m 159 #[.val (.long p1), .second, .val (.long p2), .second, .val (.int p3), .val (.long (pick p1 p2 p3)), .second, .val (.ref b2), .val (.ref b7), .val (.ref b_16), .val (.int (0 : Int32)), .val (.int (1 : Int32)), .val (.int (1 : Int32)), .val (.int (eqU p1 p1)), .val (.int (0 : Int32)), .val (.int (1 : Int32))] [])) (fun t kt => ?_) ?_
              · show Steps p.tables e below (T71.setTop (mkF m 142 #[.val (.long p1), .second, .val (.long p2), .second, .val (.int p3), .val (.long (pick p1 p2 p3)), .second, .val (.ref b2), .val (.ref b7), .val (.ref b_16), .val (.int (0 : Int32)), .val (.int (1 : Int32)), .val (.int (1 : Int32)), .val (.int (eqU p1 p1)), .val (.int (0 : Int32)), .val (.int (1 : Int32))] [(.int (eqU p1 p1))])) _
                refine XS.ifYes X71.here hx rfl (pc0 := 142) (pc' := 159) rfl (hb hby at_142) rfl ((if0 _ _).trans (teq hc73).1) (by decide) (by decide) ?_
                exact kt
              refine Go.step (T' := T71) (f' := (mkF m 160 #[.val (.long p1), .second, .val (.long p2), .second, .val (.int p3), .val (.long (pick p1 p2 p3)), .second, .val (.ref b2), .val (.ref b7), .val (.ref b_16), .val (.int (0 : Int32)), .val (.int (1 : Int32)), .val (.int (1 : Int32)), .val (.int (eqU p1 p1)), .val (.int (0 : Int32)), .val (.int (1 : Int32))] [(.int (0 : Int32))])) (fun t kt => ?_) ?_
              · show Steps p.tables e below (T71.setTop (mkF m 159 #[.val (.long p1), .second, .val (.long p2), .second, .val (.int p3), .val (.long (pick p1 p2 p3)), .second, .val (.ref b2), .val (.ref b7), .val (.ref b_16), .val (.int (0 : Int32)), .val (.int (1 : Int32)), .val (.int (1 : Int32)), .val (.int (eqU p1 p1)), .val (.int (0 : Int32)), .val (.int (1 : Int32))] [])) _
                refine XS.iconst X71.here hx rfl (hb hby at_159) ?_
                exact kt
              refine Go.fin X71 (v := some (.int (0 : Int32))) (fun h => by rw [Bd.returns] at h; cases h) Bd.notSynchronized ?_ (Nat.le_trans (Nat.add_le_add_right (Nat.add_le_add_right (Nat.add_le_add_right (Nat.add_le_add_right (Nat.add_le_add_right (Nat.add_le_add_right (Nat.add_le_add_right (Nat.add_le_add_right (Nat.add_le_add_right (Nat.add_le_add_right (Nat.add_le_add_right (Nat.le_refl 0) 0) 1) 0) 1) 0) 1) 0) 0) 0) 0) 0) (by decide)) (Nat.le_trans (Nat.add_le_add_right (Nat.add_le_add_right (Nat.add_le_add_right (Nat.add_le_add_right (Nat.add_le_add_right (Nat.add_le_add_right (Nat.add_le_add_right (Nat.add_le_add_right (Nat.add_le_add_right (Nat.add_le_add_right (Nat.add_le_add_right (Nat.le_refl 0) 0) 1) 0) 1) 0) 2) 0) 0) 0) 0) 0) (by decide)) (fun fs hr => retN X71 hx (t := .boolean) Bd.returns (by simp) (hb hby at_160) hr)
              · exact ⟨by rw [hf], N71⟩
            · rw [if_neg hc73] at hf
              refine Go.step (T' := T71) (f' := (mkF m 145 #[.val (.long p1), .second, .val (.long p2), .second, .val (.int p3), .val (.long (pick p1 p2 p3)), .second, .val (.ref b2), .val (.ref b7), .val (.ref b_16), .val (.int (0 : Int32)), .val (.int (1 : Int32)), .val (.int (1 : Int32)), .val (.int (eqU p1 p1)), .val (.int (0 : Int32)), .val (.int (1 : Int32))] [])) (fun t kt => ?_) ?_
              · show Steps p.tables e below (T71.setTop (mkF m 142 #[.val (.long p1), .second, .val (.long p2), .second, .val (.int p3), .val (.long (pick p1 p2 p3)), .second, .val (.ref b2), .val (.ref b7), .val (.ref b_16), .val (.int (0 : Int32)), .val (.int (1 : Int32)), .val (.int (1 : Int32)), .val (.int (eqU p1 p1)), .val (.int (0 : Int32)), .val (.int (1 : Int32))] [(.int (eqU p1 p1))])) _
                refine XS.ifNo X71.here hx rfl (hb hby at_142) rfl ((if0 _ _).trans (feq hc73).1) ?_
                exact kt
              refine Go.step (T' := T71) (f' := (mkF m 160 #[.val (.long p1), .second, .val (.long p2), .second, .val (.int p3), .val (.long (pick p1 p2 p3)), .second, .val (.ref b2), .val (.ref b7), .val (.ref b_16), .val (.int (0 : Int32)), .val (.int (1 : Int32)), .val (.int (1 : Int32)), .val (.int (eqU p1 p1)), .val (.int (0 : Int32)), .val (.int (1 : Int32))] [(.int (0 : Int32))])) (fun t kt => ?_) ?_
              · show Steps p.tables e below (T71.setTop (mkF m 145 #[.val (.long p1), .second, .val (.long p2), .second, .val (.int p3), .val (.long (pick p1 p2 p3)), .second, .val (.ref b2), .val (.ref b7), .val (.ref b_16), .val (.int (0 : Int32)), .val (.int (1 : Int32)), .val (.int (1 : Int32)), .val (.int (eqU p1 p1)), .val (.int (0 : Int32)), .val (.int (1 : Int32))] [])) _
                refine XS.iload X71.here hx rfl (hb hby at_145) rfl ?_
                show Steps p.tables e below (T71.setTop (mkF m 147 #[.val (.long p1), .second, .val (.long p2), .second, .val (.int p3), .val (.long (pick p1 p2 p3)), .second, .val (.ref b2), .val (.ref b7), .val (.ref b_16), .val (.int (0 : Int32)), .val (.int (1 : Int32)), .val (.int (1 : Int32)), .val (.int (eqU p1 p1)), .val (.int (0 : Int32)), .val (.int (1 : Int32))] [(.int (0 : Int32))])) _
                refine XS.ifYes X71.here hx rfl (pc0 := 147) (pc' := 159) rfl (hb hby at_147) rfl ((if0 _ _).trans (teq (by decide : ((0 : Int32) = (0 : Int32)))).1) (by decide) (by decide) ?_
                show Steps p.tables e below (T71.setTop (mkF m 159 #[.val (.long p1), .second, .val (.long p2), .second, .val (.int p3), .val (.long (pick p1 p2 p3)), .second, .val (.ref b2), .val (.ref b7), .val (.ref b_16), .val (.int (0 : Int32)), .val (.int (1 : Int32)), .val (.int (1 : Int32)), .val (.int (eqU p1 p1)), .val (.int (0 : Int32)), .val (.int (1 : Int32))] [])) _
                refine XS.iconst X71.here hx rfl (hb hby at_159) ?_
                exact kt
              refine Go.fin X71 (v := some (.int (0 : Int32))) (fun h => by rw [Bd.returns] at h; cases h) Bd.notSynchronized ?_ (Nat.le_trans (Nat.add_le_add_right (Nat.add_le_add_right (Nat.add_le_add_right (Nat.add_le_add_right (Nat.add_le_add_right (Nat.add_le_add_right (Nat.add_le_add_right (Nat.add_le_add_right (Nat.add_le_add_right (Nat.add_le_add_right (Nat.add_le_add_right (Nat.le_refl 0) 0) 1) 0) 1) 0) 1) 0) 0) 0) 0) 0) (by decide)) (Nat.le_trans (Nat.add_le_add_right (Nat.add_le_add_right (Nat.add_le_add_right (Nat.add_le_add_right (Nat.add_le_add_right (Nat.add_le_add_right (Nat.add_le_add_right (Nat.add_le_add_right (Nat.add_le_add_right (Nat.add_le_add_right (Nat.add_le_add_right (Nat.le_refl 0) 0) 1) 0) 1) 0) 2) 0) 0) 0) 0) 0) (by decide)) (fun fs hr => retN X71 hx (t := .boolean) Bd.returns (by simp) (hb hby at_160) hr)
              · exact ⟨by rw [hf], N71⟩
          · rw [if_neg hc72] at hf
            refine Go.step (T' := T71) (f' := (mkF m 127 #[.val (.long p1), .second, .val (.long p2), .second, .val (.int p3), .val (.long (pick p1 p2 p3)), .second, .val (.ref b2), .val (.ref b7), .val (.ref b_16), .val (.int (0 : Int32)), .val (.int (1 : Int32)), .val (.int (1 : Int32)), .val (.int (eqU p1 p1)), .val (.int (0 : Int32)), .unset] [])) (fun t kt => ?_) ?_
            · show Steps p.tables e below (T71.setTop (mkF m 120 #[.val (.long p1), .second, .val (.long p2), .second, .val (.int p3), .val (.long (pick p1 p2 p3)), .second, .val (.ref b2), .val (.ref b7), .val (.ref b_16), .val (.int (0 : Int32)), .val (.int (1 : Int32)), .val (.int (1 : Int32)), .val (.int (eqU p1 p1)), .val (.int (0 : Int32)), .unset] [(.int (eqI ))])) _
              refine XS.ifYes X71.here hx rfl (pc0 := 120) (pc' := 127) rfl (hb hby at_120) rfl ((if0 _ _).trans (feq hc72).2) (by decide) (by decide) ?_
              exact kt
            refine Go.step (T' := T71) (f' := (mkF m 142 #[.val (.long p1), .second, .val (.long p2), .second, .val (.int p3), .val (.long (pick p1 p2 p3)), .second, .val (.ref b2), .val (.ref b7), .val (.ref b_16), .val (.int (0 : Int32)), .val (.int (1 : Int32)), .val (.int (1 : Int32)), .val (.int (eqU p1 p1)), .val (.int (0 : Int32)), .val (.int (0 : Int32))] [(.int (eqU p1 p1))])) (fun t kt => ?_) ?_
            · show Steps p.tables e below (T71.setTop (mkF m 127 #[.val (.long p1), .second, .val (.long p2), .second, .val (.int p3), .val (.long (pick p1 p2 p3)), .second, .val (.ref b2), .val (.ref b7), .val (.ref b_16), .val (.int (0 : Int32)), .val (.int (1 : Int32)), .val (.int (1 : Int32)), .val (.int (eqU p1 p1)), .val (.int (0 : Int32)), .unset] [])) _
              refine XS.iconst X71.here hx rfl (hb hby at_127) ?_
              show Steps p.tables e below (T71.setTop (mkF m 128 #[.val (.long p1), .second, .val (.long p2), .second, .val (.int p3), .val (.long (pick p1 p2 p3)), .second, .val (.ref b2), .val (.ref b7), .val (.ref b_16), .val (.int (0 : Int32)), .val (.int (1 : Int32)), .val (.int (1 : Int32)), .val (.int (eqU p1 p1)), .val (.int (0 : Int32)), .unset] [(.int (0 : Int32))])) _
              refine XS.istore X71.here hx rfl (hb hby at_128) rfl (l' := #[.val (.long p1), .second, .val (.long p2), .second, .val (.int p3), .val (.long (pick p1 p2 p3)), .second, .val (.ref b2), .val (.ref b7), .val (.ref b_16), .val (.int (0 : Int32)), .val (.int (1 : Int32)), .val (.int (1 : Int32)), .val (.int (eqU p1 p1)), .val (.int (0 : Int32)), .val (.int (0 : Int32))]) rfl ?_
              show Steps p.tables e below (T71.setTop (mkF m 130 #[.val (.long p1), .second, .val (.long p2), .second, .val (.int p3), .val (.long (pick p1 p2 p3)), .second, .val (.ref b2), .val (.ref b7), .val (.ref b_16), .val (.int (0 : Int32)), .val (.int (1 : Int32)), .val (.int (1 : Int32)), .val (.int (eqU p1 p1)), .val (.int (0 : Int32)), .val (.int (0 : Int32))] [])) _
              refine XS.iload X71.here hx rfl (hb hby at_130) rfl ?_
              show Steps p.tables e below (T71.setTop (mkF m 132 #[.val (.long p1), .second, .val (.long p2), .second, .val (.int p3), .val (.long (pick p1 p2 p3)), .second, .val (.ref b2), .val (.ref b7), .val (.ref b_16), .val (.int (0 : Int32)), .val (.int (1 : Int32)), .val (.int (1 : Int32)), .val (.int (eqU p1 p1)), .val (.int (0 : Int32)), .val (.int (0 : Int32))] [(.int (1 : Int32))])) _
              refine XS.ifNo X71.here hx rfl (hb hby at_132) rfl ((if0 _ _).trans (feq (by decide : ¬ ((1 : Int32) = (0 : Int32)))).1) ?_
              show Steps p.tables e below (T71.setTop (mkF m 135 #[.val (.long p1), .second, .val (.long p2), .second, .val (.int p3), .val (.long (pick p1 p2 p3)), .second, .val (.ref b2), .val (.ref b7), .val (.ref b_16), .val (.int (0 : Int32)), .val (.int (1 : Int32)), .val (.int (1 : Int32)), .val (.int (eqU p1 p1)), .val (.int (0 : Int32)), .val (.int (0 : Int32))] [])) _
              refine XS.iload X71.here hx rfl (hb hby at_135) rfl ?_
              show Steps p.tables e below (T71.setTop (mkF m 137 #[.val (.long p1), .second, .val (.long p2), .second, .val (.int p3), .val (.long (pick p1 p2 p3)), .second, .val (.ref b2), .val (.ref b7), .val (.ref b_16), .val (.int (0 : Int32)), .val (.int (1 : Int32)), .val (.int (1 : Int32)), .val (.int (eqU p1 p1)), .val (.int (0 : Int32)), .val (.int (0 : Int32))] [(.int (1 : Int32))])) _
              refine XS.ifNo X71.here hx rfl (hb hby at_137) rfl ((if0 _ _).trans (feq (by decide : ¬ ((1 : Int32) = (0 : Int32)))).1) ?_
              show Steps p.tables e below (T71.setTop (mkF m 140 #[.val (.long p1), .second, .val (.long p2), .second, .val (.int p3), .val (.long (pick p1 p2 p3)), .second, .val (.ref b2), .val (.ref b7), .val (.ref b_16), .val (.int (0 : Int32)), .val (.int (1 : Int32)), .val (.int (1 : Int32)), .val (.int (eqU p1 p1)), .val (.int (0 : Int32)), .val (.int (0 : Int32))] [])) _
              refine XS.iload X71.here hx rfl (hb hby at_140) rfl ?_
              exact kt
            by_cases hc74 : (eqU p1 p1) = (0 : Int32)
            · rw [if_pos hc74] at hf
              refine Go.step (T' := T71) (f' := (mkF m 159 #[.val (.long p1), .second, .val (.long p2), .second, .val (.int p3), .val (.long (pick p1 p2 p3)), .second, .val (.ref b2), .val (.ref b7), .val (.ref b_16), .val (.int (0 : Int32)), .val (.int (1 : Int32)), .val (.int (1 : Int32)), .val (.int (eqU p1 p1)), .val (.int (0 : Int32)), .val (.int (0 : Int32))] [])) (fun t kt => ?_) ?_
              · show Steps p.tables e below (T71.setTop (mkF m 142 #[.val (.long p1), .second, .val (.long p2), .second, .val (.int p3), .val (.long (pick p1 p2 p3)), .second, .val (.ref b2), .val (.ref b7), .val (.ref b_16), .val (.int (0 : Int32)), .val (.int (1 : Int32)), .val (.int (1 : Int32)), .val (.int (eqU p1 p1)), .val (.int (0 : Int32)), .val (.int (0 : Int32))] [(.int (eqU p1 p1))])) _
                refine XS.ifYes X71.here hx rfl (pc0 := 142) (pc' := 159) rfl (hb hby at_142) rfl ((if0 _ _).trans (teq hc74).1) (by decide) (by decide) ?_
                exact kt
              refine Go.step (T' := T71) (f' := (mkF m 160 #[.val (.long p1), .second, .val (.long p2), .second, .val (.int p3), .val (.long (pick p1 p2 p3)), .second, .val (.ref b2), .val (.ref b7), .val (.ref b_16), .val (.int (0 : Int32)), .val (.int (1 : Int32)), .val (.int (1 : Int32)), .val (.int (eqU p1 p1)), .val (.int (0 : Int32)), .val (.int (0 : Int32))] [(.int (0 : Int32))])) (fun t kt => ?_) ?_
              · show Steps p.tables e below (T71.setTop (mkF m 159 #[.val (.long p1), .second, .val (.long p2), .second, .val (.int p3), .val (.long (pick p1 p2 p3)), .second, .val (.ref b2), .val (.ref b7), .val (.ref b_16), .val (.int (0 : Int32)), .val (.int (1 : Int32)), .val (.int (1 : Int32)), .val (.int (eqU p1 p1)), .val (.int (0 : Int32)), .val (.int (0 : Int32))] [])) _
                refine XS.iconst X71.here hx rfl (hb hby at_159) ?_
                exact kt
              refine Go.fin X71 (v := some (.int (0 : Int32))) (fun h => by rw [Bd.returns] at h; cases h) Bd.notSynchronized ?_ (Nat.le_trans (Nat.add_le_add_right (Nat.add_le_add_right (Nat.add_le_add_right (Nat.add_le_add_right (Nat.add_le_add_right (Nat.add_le_add_right (Nat.add_le_add_right (Nat.add_le_add_right (Nat.add_le_add_right (Nat.add_le_add_right (Nat.add_le_add_right (Nat.le_refl 0) 0) 1) 0) 1) 0) 1) 0) 0) 0) 0) 0) (by decide)) (Nat.le_trans (Nat.add_le_add_right (Nat.add_le_add_right (Nat.add_le_add_right (Nat.add_le_add_right (Nat.add_le_add_right (Nat.add_le_add_right (Nat.add_le_add_right (Nat.add_le_add_right (Nat.add_le_add_right (Nat.add_le_add_right (Nat.add_le_add_right (Nat.le_refl 0) 0) 1) 0) 1) 0) 2) 0) 0) 0) 0) 0) (by decide)) (fun fs hr => retN X71 hx (t := .boolean) Bd.returns (by simp) (hb hby at_160) hr)
              · exact ⟨by rw [hf], N71⟩
            · rw [if_neg hc74] at hf
              refine Go.step (T' := T71) (f' := (mkF m 145 #[.val (.long p1), .second, .val (.long p2), .second, .val (.int p3), .val (.long (pick p1 p2 p3)), .second, .val (.ref b2), .val (.ref b7), .val (.ref b_16), .val (.int (0 : Int32)), .val (.int (1 : Int32)), .val (.int (1 : Int32)), .val (.int (eqU p1 p1)), .val (.int (0 : Int32)), .val (.int (0 : Int32))] [])) (fun t kt => ?_) ?_
              · show Steps p.tables e below (T71.setTop (mkF m 142 #[.val (.long p1), .second, .val (.long p2), .second, .val (.int p3), .val (.long (pick p1 p2 p3)), .second, .val (.ref b2), .val (.ref b7), .val (.ref b_16), .val (.int (0 : Int32)), .val (.int (1 : Int32)), .val (.int (1 : Int32)), .val (.int (eqU p1 p1)), .val (.int (0 : Int32)), .val (.int (0 : Int32))] [(.int (eqU p1 p1))])) _
                refine XS.ifNo X71.here hx rfl (hb hby at_142) rfl ((if0 _ _).trans (feq hc74).1) ?_
                exact kt
              refine Go.step (T' := T71) (f' := (mkF m 160 #[.val (.long p1), .second, .val (.long p2), .second, .val (.int p3), .val (.long (pick p1 p2 p3)), .second, .val (.ref b2), .val (.ref b7), .val (.ref b_16), .val (.int (0 : Int32)), .val (.int (1 : Int32)), .val (.int (1 : Int32)), .val (.int (eqU p1 p1)), .val (.int (0 : Int32)), .val (.int (0 : Int32))] [(.int (0 : Int32))])) (fun t kt => ?_) ?_
              · show Steps p.tables e below (T71.setTop (mkF m 145 #[.val (.long p1), .second, .val (.long p2), .second, .val (.int p3), .val (.long (pick p1 p2 p3)), .second, .val (.ref b2), .val (.ref b7), .val (.ref b_16), .val (.int (0 : Int32)), .val (.int (1 : Int32)), .val (.int (1 : Int32)), .val (.int (eqU p1 p1)), .val (.int (0 : Int32)), .val (.int (0 : Int32))] [])) _
                refine XS.iload X71.here hx rfl (hb hby at_145) rfl ?_
                show Steps p.tables e below (T71.setTop (mkF m 147 #[.val (.long p1), .second, .val (.long p2), .second, .val (.int p3), .val (.long (pick p1 p2 p3)), .second, .val (.ref b2), .val (.ref b7), .val (.ref b_16), .val (.int (0 : Int32)), .val (.int (1 : Int32)), .val (.int (1 : Int32)), .val (.int (eqU p1 p1)), .val (.int (0 : Int32)), .val (.int (0 : Int32))] [(.int (0 : Int32))])) _
                refine XS.ifYes X71.here hx rfl (pc0 := 147) (pc' := 159) rfl (hb hby at_147) rfl ((if0 _ _).trans (teq (by decide : ((0 : Int32) = (0 : Int32)))).1) (by decide) (by decide) ?_
                show Steps p.tables e below (T71.setTop (mkF m 159 #[.val (.long p1), .second, .val (.long p2), .second, .val (.int p3), .val (.long (pick p1 p2 p3)), .second, .val (.ref b2), .val (.ref b7), .val (.ref b_16), .val (.int (0 : Int32)), .val (.int (1 : Int32)), .val (.int (1 : Int32)), .val (.int (eqU p1 p1)), .val (.int (0 : Int32)), .val (.int (0 : Int32))] [])) _
                refine XS.iconst X71.here hx rfl (hb hby at_159) ?_
                exact kt
              refine Go.fin X71 (v := some (.int (0 : Int32))) (fun h => by rw [Bd.returns] at h; cases h) Bd.notSynchronized ?_ (Nat.le_trans (Nat.add_le_add_right (Nat.add_le_add_right (Nat.add_le_add_right (Nat.add_le_add_right (Nat.add_le_add_right (Nat.add_le_add_right (Nat.add_le_add_right (Nat.add_le_add_right (Nat.add_le_add_right (Nat.add_le_add_right (Nat.add_le_add_right (Nat.le_refl 0) 0) 1) 0) 1) 0) 1) 0) 0) 0) 0) 0) (by decide)) (Nat.le_trans (Nat.add_le_add_right (Nat.add_le_add_right (Nat.add_le_add_right (Nat.add_le_add_right (Nat.add_le_add_right (Nat.add_le_add_right (Nat.add_le_add_right (Nat.add_le_add_right (Nat.add_le_add_right (Nat.add_le_add_right (Nat.add_le_add_right (Nat.le_refl 0) 0) 1) 0) 1) 0) 2) 0) 0) 0) 0) 0) (by decide)) (fun fs hr => retN X71 hx (t := .boolean) Bd.returns (by simp) (hb hby at_160) hr)
              · exact ⟨by rw [hf], N71⟩
      · rw [if_neg hc63] at hf
        refine Go.step (T' := T62) (f' := (mkF m 85 #[.val (.long p1), .second, .val (.long p2), .second, .val (.int p3), .val (.long (pick p1 p2 p3)), .second, .val (.ref b2), .val (.ref b7), .val (.ref b_16), .val (.int (0 : Int32)), .val (.int (1 : Int32)), .unset, .unset, .unset, .unset] [])) (fun t kt => ?_) ?_
        · show Steps p.tables e below (T62.setTop (mkF m 78 #[.val (.long p1), .second, .val (.long p2), .second, .val (.int p3), .val (.long (pick p1 p2 p3)), .second, .val (.ref b2), .val (.ref b7), .val (.ref b_16), .val (.int (0 : Int32)), .val (.int (1 : Int32)), .unset, .unset, .unset, .unset] [(.int (0 : Int32)), (.int (eqU (pick p1 p2 p3) p1))])) _
          refine XS.icmpYes X62.here hx rfl (pc0 := 78) (pc' := 85) rfl (hb hby at_78) rfl (feq hc63).2 (by decide) (by decide) ?_
          exact kt
        obtain ⟨cq75, kq75, q75a, q75b, q75c⟩ := isOf hZ e62 (G17 : Exa Z T16.heap b2 "com/example/plumbline/plumbline/model/PlistUid")
        obtain ⟨_, _, ⟨T75, L75, k75, n75⟩, -, X75, ⟨Lc75, hQ75, l75, y75, z75⟩, st75⟩ := X62.virtualBack hx (y := (⟨"com/example/plumbline/plumbline/model/PlistUid", "equals", "(Ljava/lang/Object;)Z"⟩ : MethodName)) (z := (⟨"com/example/plumbline/plumbline/model/PlistUid", "equals", "(Ljava/lang/Object;)Z"⟩ : MethodName)) hown (mvT hZ (hw _ (List.mem_of_getElem? (i := 29) rfl))) (mvT hZ (hw _ (List.mem_of_getElem? (i := 30) rfl))) (notFace_of_selects (args := #[]) (mvT hZ (hw _ (List.mem_of_getElem? (i := 32) rfl)))) (mvT hZ (hw _ (List.mem_of_getElem? (i := 32) rfl))) (mvT hZ (hw _ (List.mem_of_getElem? (i := 31) rfl))) (by decide) (backOf (W := 0) (rm_eqU l Z a0 hw [] b2 b2 p1 p1 T16.heap n0 Z16 G17 G18 G18 ) hZ (hw _ (List.mem_of_getElem? (i := 33) rfl)) (hw _ (List.mem_of_getElem? (i := 6) rfl)) (by decide) (by decide)) q75a q75c (g := (mkF m 92 #[.val (.long p1), .second, .val (.long p2), .second, .val (.int p3), .val (.long (pick p1 p2 p3)), .second, .val (.ref b2), .val (.ref b7), .val (.ref b_16), .val (.int (0 : Int32)), .val (.int (1 : Int32)), .val (.int (0 : Int32)), .unset, .unset, .unset] [(.ref b2), (.ref b2)])) rfl (by rw [hml]; rfl) (Steps.refl _) (argsL := [(.ref b2)]) (rest := []) (lenOf pd_4 rfl) rfl (by show 2 * 0 + _ ≤ _; exact Nat.le_of_eq rfl) (hb hby at_92) (fun _ _ => ⟨rfl, e62, (Nat.le_trans (Nat.add_le_add_right (Nat.add_le_add_right (Nat.add_le_add_right (Nat.add_le_add_right (Nat.add_le_add_right (Nat.add_le_add_right (Nat.add_le_add_right (Nat.add_le_add_right (Nat.add_le_add_right (Nat.le_refl 0) 0) 1) 0) 1) 0) 1) 0) 0) 0) (by decide)), (Nat.le_trans (Nat.add_le_add_right (Nat.add_le_add_right (Nat.add_le_add_right (Nat.add_le_add_right (Nat.add_le_add_right (Nat.add_le_add_right (Nat.add_le_add_right (Nat.add_le_add_right (Nat.add_le_add_right (Nat.le_refl 0) 0) 1) 0) 1) 0) 2) 0) 0) 0) (by decide))⟩)
        dsimp only [Pt.U, Pt.locs, Pt.cells, Pt.slots] at X75 l75 y75 z75 st75 hQ75
        subst l75 y75 z75
        obtain ⟨rfl, N75q, e75⟩ := hQ75
        have N75 := Fr.app N62 N75q
        obtain ⟨cq76, kq76, q76a, q76b, q76c⟩ := isOf hZ e75 (G17 : Exa Z T16.heap b2 "com/example/plumbline/plumbline/model/PlistUid")
        obtain ⟨_, _, ⟨T76, L76, k76, n76⟩, -, X76, ⟨Lc76, hQ76, l76, y76, z76⟩, st76⟩ := X75.virtualBack hx (y := (⟨"com/example/plumbline/plumbline/model/PlistUid", "equals", "(Ljava/lang/Object;)Z"⟩ : MethodName)) (z := (⟨"com/example/plumbline/plumbline/model/PlistUid", "equals", "(Ljava/lang/Object;)Z"⟩ : MethodName)) hown (mvT hZ (hw _ (List.mem_of_getElem? (i := 29) rfl))) (mvT hZ (hw _ (List.mem_of_getElem? (i := 30) rfl))) (notFace_of_selects (args := #[]) (mvT hZ (hw _ (List.mem_of_getElem? (i := 32) rfl)))) (mvT hZ (hw _ (List.mem_of_getElem? (i := 32) rfl))) (mvT hZ (hw _ (List.mem_of_getElem? (i := 31) rfl))) (by decide) (backOf (W := 0) (rm_eqN l Z a0 hw [] b2  T16.heap n0 Z16  ) hZ (hw _ (List.mem_of_getElem? (i := 33) rfl)) (hw _ (List.mem_of_getElem? (i := 6) rfl)) (by decide) (by decide)) q76a q76c (g := (mkF m 100 #[.val (.long p1), .second, .val (.long p2), .second, .val (.int p3), .val (.long (pick p1 p2 p3)), .second, .val (.ref b2), .val (.ref b7), .val (.ref b_16), .val (.int (0 : Int32)), .val (.int (1 : Int32)), .val (.int (0 : Int32)), .val (.int (eqU p1 p1)), .unset, .unset] [.null, (.ref b2)])) rfl (by rw [hml]; rfl) (Steps.refl _) (argsL := [.null]) (rest := []) (lenOf pd_4 rfl) rfl (by show 2 * 0 + _ ≤ _; exact Nat.le_of_eq rfl) (hb hby at_100) (fun _ _ => ⟨rfl, e75, (Nat.le_trans (Nat.add_le_add_right (Nat.add_le_add_right (Nat.add_le_add_right (Nat.add_le_add_right (Nat.add_le_add_right (Nat.add_le_add_right (Nat.add_le_add_right (Nat.add_le_add_right (Nat.add_le_add_right (Nat.add_le_add_right (Nat.le_refl 0) 0) 1) 0) 1) 0) 1) 0) 0) 0) 0) (by decide)), (Nat.le_trans (Nat.add_le_add_right (Nat.add_le_add_right (Nat.add_le_add_right (Nat.add_le_add_right (Nat.add_le_add_right (Nat.add_le_add_right (Nat.add_le_add_right (Nat.add_le_add_right (Nat.add_le_add_right (Nat.add_le_add_right (Nat.le_refl 0) 0) 1) 0) 1) 0) 2) 0) 0) 0) 0) (by decide))⟩)
        dsimp only [Pt.U, Pt.locs, Pt.cells, Pt.slots] at X76 l76 y76 z76 st76 hQ76
        subst l76 y76 z76
        obtain ⟨rfl, N76q, e76⟩ := hQ76
        have N76 := Fr.app N75 N76q
        refine Go.step (T' := T76) (f' := (mkF m 103 #[.val (.long p1), .second, .val (.long p2), .second, .val (.int p3), .val (.long (pick p1 p2 p3)), .second, .val (.ref b2), .val (.ref b7), .val (.ref b_16), .val (.int (0 : Int32)), .val (.int (1 : Int32)), .val (.int (0 : Int32)), .val (.int (eqU p1 p1)), .unset, .unset] [(.int (eqN ))])) (fun t kt => ?_) ?_
        · show Steps p.tables e below (T62.setTop (mkF m 85 #[.val (.long p1), .second, .val (.long p2), .second, .val (.int p3), .val (.long (pick p1 p2 p3)), .second, .val (.ref b2), .val (.ref b7), .val (.ref b_16), .val (.int (0 : Int32)), .val (.int (1 : Int32)), .unset, .unset, .unset, .unset] [])) _
          refine XS.iconst X62.here hx rfl (hb hby at_85) ?_
          show Steps p.tables e below (T62.setTop (mkF m 86 #[.val (.long p1), .second, .val (.long p2), .second, .val (.int p3), .val (.long (pick p1 p2 p3)), .second, .val (.ref b2), .val (.ref b7), .val (.ref b_16), .val (.int (0 : Int32)), .val (.int (1 : Int32)), .unset, .unset, .unset, .unset] [(.int (0 : Int32))])) _
          refine XS.istore X62.here hx rfl (hb hby at_86) rfl (l' := #[.val (.long p1), .second, .val (.long p2), .second, .val (.int p3), .val (.long (pick p1 p2 p3)), .second, .val (.ref b2), .val (.ref b7), .val (.ref b_16), .val (.int (0 : Int32)), .val (.int (1 : Int32)), .val (.int (0 : Int32)), .unset, .unset, .unset]) rfl ?_
          show Steps p.tables e below (T62.setTop (mkF m 88 #[.val (.long p1), .second, .val (.long p2), .second, .val (.int p3), .val (.long (pick p1 p2 p3)), .second, .val (.ref b2), .val (.ref b7), .val (.ref b_16), .val (.int (0 : Int32)), .val (.int (1 : Int32)), .val (.int (0 : Int32)), .unset, .unset, .unset] [])) _
          refine XS.aload X62.here hx rfl (hb hby at_88) rfl rfl ?_
          show Steps p.tables e below (T62.setTop (mkF m 90 #[.val (.long p1), .second, .val (.long p2), .second, .val (.int p3), .val (.long (pick p1 p2 p3)), .second, .val (.ref b2), .val (.ref b7), .val (.ref b_16), .val (.int (0 : Int32)), .val (.int (1 : Int32)), .val (.int (0 : Int32)), .unset, .unset, .unset] [(.ref b2)])) _
          refine XS.aload X62.here hx rfl (hb hby at_90) rfl rfl ?_
          show Steps p.tables e below (T62.setTop (mkF m 92 #[.val (.long p1), .second, .val (.long p2), .second, .val (.int p3), .val (.long (pick p1 p2 p3)), .second, .val (.ref b2), .val (.ref b7), .val (.ref b_16), .val (.int (0 : Int32)), .val (.int (1 : Int32)), .val (.int (0 : Int32)), .unset, .unset, .unset] [(.ref b2), (.ref b2)])) _
          refine st75.trans ?_
          show Steps p.tables e below (T75.setTop (mkF m 95 #[.val (.long p1), .second, .val (.long p2), .second, .val (.int p3), .val (.long (pick p1 p2 p3)), .second, .val (.ref b2), .val (.ref b7), .val (.ref b_16), .val (.int (0 : Int32)), .val (.int (1 : Int32)), .val (.int (0 : Int32)), .unset, .unset, .unset] [(.int (eqU p1 p1))])) _
          refine XS.istore X75.here hx rfl (hb hby at_95) rfl (l' := #[.val (.long p1), .second, .val (.long p2), .second, .val (.int p3), .val (.long (pick p1 p2 p3)), .second, .val (.ref b2), .val (.ref b7), .val (.ref b_16), .val (.int (0 : Int32)), .val (.int (1 : Int32)), .val (.int (0 : Int32)), .val (.int (eqU p1 p1)), .unset, .unset]) rfl ?_
          show Steps p.tables e below (T75.setTop (mkF m 97 #[.val (.long p1), .second, .val (.long p2), .second, .val (.int p3), .val (.long (pick p1 p2 p3)), .second, .val (.ref b2), .val (.ref b7), .val (.ref b_16), .val (.int (0 : Int32)), .val (.int (1 : Int32)), .val (.int (0 : Int32)), .val (.int (eqU p1 p1)), .unset, .unset] [])) _
          refine XS.aload X75.here hx rfl (hb hby at_97) rfl rfl ?_
          show Steps p.tables e below (T75.setTop (mkF m 99 #[.val (.long p1), .second, .val (.long p2), .second, .val (.int p3), .val (.long (pick p1 p2 p3)), .second, .val (.ref b2), .val (.ref b7), .val (.ref b_16), .val (.int (0 : Int32)), .val (.int (1 : Int32)), .val (.int (0 : Int32)), .val (.int (eqU p1 p1)), .unset, .unset] [(.ref b2)])) _
          refine XS.aconstNull X75.here hx rfl (hb hby at_99) ?_
          show Steps p.tables e below (T75.setTop (mkF m 100 #[.val (.long p1), .second, .val (.long p2), .second, .val (.int p3), .val (.long (pick p1 p2 p3)), .second, .val (.ref b2), .val (.ref b7), .val (.ref b_16), .val (.int (0 : Int32)), .val (.int (1 : Int32)), .val (.int (0 : Int32)), .val (.int (eqU p1 p1)), .unset, .unset] [.null, (.ref b2)])) _
          refine st76.trans ?_
          exact kt
        by_cases hc77 : (eqN ) = (0 : Int32)
        · rw [if_pos hc77] at hf
          refine Go.step (T' := T76) (f' := (mkF m 106 #[.val (.long p1), .second, .val (.long p2), .second, .val (.int p3), .val (.long (pick p1 p2 p3)), .second, .val (.ref b2), .val (.ref b7), .val (.ref b_16), .val (.int (0 : Int32)), .val (.int (1 : Int32)), .val (.int (0 : Int32)), .val (.int (eqU p1 p1)), .unset, .unset] [])) (fun t kt => ?_) ?_
          · show Steps p.tables e below (T76.setTop (mkF m 103 #[.val (.long p1), .second, .val (.long p2), .second, .val (.int p3), .val (.long (pick p1 p2 p3)), .second, .val (.ref b2), .val (.ref b7), .val (.ref b_16), .val (.int (0 : Int32)), .val (.int (1 : Int32)), .val (.int (0 : Int32)), .val (.int (eqU p1 p1)), .unset, .unset] [(.int (eqN ))])) _
            refine XS.ifNo X76.here hx rfl (hb hby at_103) rfl ((if0 _ _).trans (teq hc77).2) ?_
            exact kt
          obtain ⟨cq78, kq78, q78a, q78b, q78c⟩ := isOf hZ e76 (G17 : Exa Z T16.heap b2 "com/example/plumbline/plumbline/model/PlistUid")
          obtain ⟨_, _, ⟨T78, L78, k78, n78⟩, -, X78, ⟨Lc78, hQ78, l78, y78, z78⟩, st78⟩ := X76.virtualBack hx (y := (⟨"com/example/plumbline/plumbline/model/PlistUid", "equals", "(Ljava/lang/Object;)Z"⟩ : MethodName)) (z := (⟨"com/example/plumbline/plumbline/model/PlistUid", "equals", "(Ljava/lang/Object;)Z"⟩ : MethodName)) hown (mvT hZ (hw _ (List.mem_of_getElem? (i := 29) rfl))) (mvT hZ (hw _ (List.mem_of_getElem? (i := 30) rfl))) (notFace_of_selects (args := #[]) (mvT hZ (hw _ (List.mem_of_getElem? (i := 32) rfl)))) (mvT hZ (hw _ (List.mem_of_getElem? (i := 32) rfl))) (mvT hZ (hw _ (List.mem_of_getElem? (i := 31) rfl))) (by decide) (backOf (W := 0) (rm_eqI l Z a0 hw [] b2 b_16  T16.heap n0 Z16 pf16_0 ) hZ (hw _ (List.mem_of_getElem? (i := 33) rfl)) (hw _ (List.mem_of_getElem? (i := 6) rfl)) (by decide) (by decide)) q78a q78c (g := (mkF m 117 #[.val (.long p1), .second, .val (.long p2), .second, .val (.int p3), .val (.long (pick p1 p2 p3)), .second, .val (.ref b2), .val (.ref b7), .val (.ref b_16), .val (.int (0 : Int32)), .val (.int (1 : Int32)), .val (.int (0 : Int32)), .val (.int (eqU p1 p1)), .val (.int (1 : Int32)), .unset] [(.ref b_16), (.ref b2)])) rfl (by rw [hml]; rfl) (Steps.refl _) (argsL := [(.ref b_16)]) (rest := []) (lenOf pd_4 rfl) rfl (by show 2 * 0 + _ ≤ _; exact Nat.le_of_eq rfl) (hb hby at_117) (fun _ _ => ⟨rfl, e76, (Nat.le_trans (Nat.add_le_add_right (Nat.add_le_add_right (Nat.add_le_add_right (Nat.add_le_add_right (Nat.add_le_add_right (Nat.add_le_add_right (Nat.add_le_add_right (Nat.add_le_add_right (Nat.add_le_add_right (Nat.add_le_add_right (Nat.add_le_add_right (Nat.le_refl 0) 0) 1) 0) 1) 0) 1) 0) 0) 0) 0) 0) (by decide)), (Nat.le_trans (Nat.add_le_add_right (Nat.add_le_add_right (Nat.add_le_add_right (Nat.add_le_add_right (Nat.add_le_add_right (Nat.add_le_add_right (Nat.add_le_add_right (Nat.add_le_add_right (Nat.add_le_add_right (Nat.add_le_add_right (Nat.add_le_add_right (Nat.le_refl 0) 0) 1) 0) 1) 0) 2) 0) 0) 0) 0) 0) (by decide))⟩)
          dsimp only [Pt.U, Pt.locs, Pt.cells, Pt.slots] at X78 l78 y78 z78 st78 hQ78
          subst l78 y78 z78
          obtain ⟨rfl, N78q, e78⟩ := hQ78
          have N78 := Fr.app N76 N78q
          refine Go.step (T' := T78) (f' := (mkF m 120 #[.val (.long p1), .second, .val (.long p2), .second, .val (.int p3), .val (.long (pick p1 p2 p3)), .second, .val (.ref b2), .val (.ref b7), .val (.ref b_16), .val (.int (0 : Int32)), .val (.int (1 : Int32)), .val (.int (0 : Int32)), .val (.int (eqU p1 p1)), .val (.int (1 : Int32)), .unset] [(.int (eqI ))])) (fun t kt => ?_) ?_
          · show Steps p.tables e below (T76.setTop (mkF m 106 #[.val (.long p1), .second, .val (.long p2), .second, .val (.int p3), .val (.long (pick p1 p2 p3)), .second, .val (.ref b2), .val (.ref b7), .val (.ref b_16), .val (.int (0 : Int32)), .val (.int (1 : Int32)), .val (.int (0 : Int32)), .val (.int (eqU p1 p1)), .unset, .unset] [])) _
            refine XS.iconst X76.here hx rfl (hb hby at_106) ?_
            show Steps p.tables e below (T76.setTop (mkF m 107 #[.val (.long p1), .second, .val (.long p2), .second, .val (.int p3), .val (.long (pick p1 p2 p3)), .second, .val (.ref b2), .val (.ref b7), .val (.ref b_16), .val (.int (0 : Int32)), .val (.int (1 : Int32)), .val (.int (0 : Int32)), .val (.int (eqU p1 p1)), .unset, .unset] [(.int (1 : Int32))])) _
            refine XS.goto X76.here hx rfl (pc0 := 107) (pc' := 111) rfl (hb hby at_107) (by decide) (by decide) ?_
            show Steps p.tables e below (T76.setTop (mkF m 111 #[.val (.long p1), .second, .val (.long p2), .second, .val (.int p3), .val (.long (pick p1 p2 p3)), .second, .val (.ref b2), .val (.ref b7), .val (.ref b_16), .val (.int (0 : Int32)), .val (.int (1 : Int32)), .val (.int (0 : Int32)), .val (.int (eqU p1 p1)), .unset, .unset] [(.int (1 : Int32))])) _
            refine XS.istore X76.here hx rfl (hb hby at_111) rfl (l' := #[.val (.long p1), .second, .val (.long p2), .second, .val (.int p3), .val (.long (pick p1 p2 p3)), .second, .val (.ref b2), .val (.ref b7), .val (.ref b_16), .val (.int (0 : Int32)), .val (.int (1 : Int32)), .val (.int (0 : Int32)), .val (.int (eqU p1 p1)), .val (.int (1 : Int32)), .unset]) rfl ?_
            show Steps p.tables e below (T76.setTop (mkF m 113 #[.val (.long p1), .second, .val (.long p2), .second, .val (.int p3), .val (.long (pick p1 p2 p3)), .second, .val (.ref b2), .val (.ref b7), .val (.ref b_16), .val (.int (0 : Int32)), .val (.int (1 : Int32)), .val (.int (0 : Int32)), .val (.int (eqU p1 p1)), .val (.int (1 : Int32)), .unset] [])) _
            refine XS.aload X76.here hx rfl (hb hby at_113) rfl rfl ?_
            show Steps p.tables e below (T76.setTop (mkF m 115 #[.val (.long p1), .second, .val (.long p2), .second, .val (.int p3), .val (.long (pick p1 p2 p3)), .second, .val (.ref b2), .val (.ref b7), .val (.ref b_16), .val (.int (0 : Int32)), .val (.int (1 : Int32)), .val (.int (0 : Int32)), .val (.int (eqU p1 p1)), .val (.int (1 : Int32)), .unset] [(.ref b2)])) _
            refine XS.aload X76.here hx rfl (hb hby at_115) rfl rfl ?_
            show Steps p.tables e below (T76.setTop (mkF m 117 #[.val (.long p1), .second, .val (.long p2), .second, .val (.int p3), .val (.long (pick p1 p2 p3)), .second, .val (.ref b2), .val (.ref b7), .val (.ref b_16), .val (.int (0 : Int32)), .val (.int (1 : Int32)), .val (.int (0 : Int32)), .val (.int (eqU p1 p1)), .val (.int (1 : Int32)), .unset] [(.ref b_16), (.ref b2)])) _
            refine st78.trans ?_
            exact kt
          by_cases hc79 : (eqI ) = (0 : Int32)
          · rw [if_pos hc79] at hf
            refine Go.step (T' := T78) (f' := (mkF m 123 #[.val (.long p1), .second, .val (.long p2), .second, .val (.int p3), .val (.long (pick p1 p2 p3)), .second, .val (.ref b2), .val (.ref b7), .val (.ref b_16), .val (.int (0 : Int32)), .val (.int (1 : Int32)), .val (.int (0 : Int32)), .val (.int (eqU p1 p1)), .val (.int (1 : Int32)), .unset] [])) (fun t kt => ?_) ?_
            · show Steps p.tables e below (T78.setTop (mkF m 120 #[.val (.long p1), .second, .val (.long p2), .second, .val (.int p3), .val (.long (pick p1 p2 p3)), .second, .val (.ref b2), .val (.ref b7), .val (.ref b_16), .val (.int (0 : Int32)), .val (.int (1 : Int32)), .val (.int (0 : Int32)), .val (.int (eqU p1 p1)), .val (.int (1 : Int32)), .unset] [(.int (eqI ))])) _
              refine XS.ifNo X78.here hx rfl (hb hby at_120) rfl ((if0 _ _).trans (teq hc79).2) ?_
              exact kt
            refine Go.step (T' := T78) (f' := (mkF m 160 #[.val (.long p1), .second, .val (.long p2), .second, .val (.int p3), .val (.long (pick p1 p2 p3)), .second, .val (.ref b2), .val (.ref b7), .val (.ref b_16), .val (.int (0 : Int32)), .val (.int (1 : Int32)), .val (.int (0 : Int32)), .val (.int (eqU p1 p1)), .val (.int (1 : Int32)), .val (.int (1 : Int32))] [(.int (0 : Int32))])) (fun t kt => ?_) ?_
            · show Steps p.tables e below (T78.setTop (mkF m 123 #[.val (.long p1), .second, .val (.long p2), .second, .val (.int p3), .val (.long (pick p1 p2 p3)), .second, .val (.ref b2), .val (.ref b7), .val (.ref b_16), .val (.int (0 : Int32)), .val (.int (1 : Int32)), .val (.int (0 : Int32)), .val (.int (eqU p1 p1)), .val (.int (1 : Int32)), .unset] [])) _
              refine XS.iconst X78.here hx rfl (hb hby at_123) ?_
              show Steps p.tables e below (T78.setTop (mkF m 124 #[.val (.long p1), .second, .val (.long p2), .second, .val (.int p3), .val (.long (pick p1 p2 p3)), .second, .val (.ref b2), .val (.ref b7), .val (.ref b_16), .val (.int (0 : Int32)), .val (.int (1 : Int32)), .val (.int (0 : Int32)), .val (.int (eqU p1 p1)), .val (.int (1 : Int32)), .unset] [(.int (1 : Int32))])) _
              refine XS.goto X78.here hx rfl (pc0 := 124) (pc' := 128) rfl (hb hby at_124) (by decide) (by decide) ?_
              show Steps p.tables e below (T78.setTop (mkF m 128 #[.val (.long p1), .second, .val (.long p2), .second, .val (.int p3), .val (.long (pick p1 p2 p3)), .second, .val (.ref b2), .val (.ref b7), .val (.ref b_16), .val (.int (0 : Int32)), .val (.int (1 : Int32)), .val (.int (0 : Int32)), .val (.int (eqU p1 p1)), .val (.int (1 : Int32)), .unset] [(.int (1 : Int32))])) _
              refine XS.istore X78.here hx rfl (hb hby at_128) rfl (l' := #[.val (.long p1), .second, .val (.long p2), .second, .val (.int p3), .val (.long (pick p1 p2 p3)), .second, .val (.ref b2), .val (.ref b7), .val (.ref b_16), .val (.int (0 : Int32)), .val (.int (1 : Int32)), .val (.int (0 : Int32)), .val (.int (eqU p1 p1)), .val (.int (1 : Int32)), .val (.int (1 : Int32))]) rfl ?_
              show Steps p.tables e below (T78.setTop (mkF m 130 #[.val (.long p1), .second, .val (.long p2), .second, .val (.int p3), .val (.long (pick p1 p2 p3)), .second, .val (.ref b2), .val (.ref b7), .val (.ref b_16), .val (.int (0 : Int32)), .val (.int (1 : Int32)), .val (.int (0 : Int32)), .val (.int (eqU p1 p1)), .val (.int (1 : Int32)), .val (.int (1 : Int32))] [])) _
              refine XS.iload X78.here hx rfl (hb hby at_130) rfl ?_
              show Steps p.tables e below (T78.setTop (mkF m 132 #[.val (.long p1), .second, .val (.long p2), .second, .val (.int p3), .val (.long (pick p1 p2 p3)), .second, .val (.ref b2), .val (.ref b7), .val (.ref b_16), .val (.int (0 : Int32)), .val (.int (1 : Int32)), .val (.int (0 : Int32)), .val (.int (eqU p1 p1)), .val (.int (1 : Int32)), .val (.int (1 : Int32))] [(.int (1 : Int32))])) _
              refine XS.ifNo X78.here hx rfl (hb hby at_132) rfl ((if0 _ _).trans (feq (by decide : ¬ ((1 : Int32) = (0 : Int32)))).1) ?_
              show Steps p.tables e below (T78.setTop (mkF m 135 #[.val (.long p1), .second, .val (.long p2), .second, .val (.int p3), .val (.long (pick p1 p2 p3)), .second, .val (.ref b2), .val (.ref b7), .val (.ref b_16), .val (.int (0 : Int32)), .val (.int (1 : Int32)), .val (.int (0 : Int32)), .val (.int (eqU p1 p1)), .val (.int (1 : Int32)), .val (.int (1 : Int32))] [])) _
              refine XS.iload X78.here hx rfl (hb hby at_135) rfl ?_
              show Steps p.tables e below (T78.setTop (mkF m 137 #[.val (.long p1), .second, .val (.long p2), .second, .val (.int p3), .val (.long (pick p1 p2 p3)), .second, .val (.ref b2), .val (.ref b7), .val (.ref b_16), .val (.int (0 : Int32)), .val (.int (1 : Int32)), .val (.int (0 : Int32)), .val (.int (eqU p1 p1)), .val (.int (1 : Int32)), .val (.int (1 : Int32))] [(.int (0 : Int32))])) _
              refine XS.ifYes X78.here hx rfl (pc0 := 137) (pc' := 159) rfl (hb hby at_137) rfl ((if0 _ _).trans (teq (by decide : ((0 : Int32) = (0 : Int32)))).1) (by decide) (by decide) ?_
              show Steps p.tables e below (T78.setTop (mkF m 159 #[.val (.long p1), .second, .val (.long p2), .second, .val (.int p3), .val (.long (pick p1 p2 p3)), .second, .val (.ref b2), .val (.ref b7), .val (.ref b_16), .val (.int (0 : Int32)), .val (.int (1 : Int32)), .val (.int (0 : Int32)), .val (.int (eqU p1 p1)), .val (.int (1 : Int32)), .val (.int (1 : Int32))] [])) _
              refine XS.iconst X78.here hx rfl (hb hby at_159) ?_
              exact kt
            refine Go.fin X78 (v := some (.int (0 : Int32))) (fun h => by rw [Bd.returns] at h; cases h) Bd.notSynchronized ?_ (Nat.le_trans (Nat.add_le_add_right (Nat.add_le_add_right (Nat.add_le_add_right (Nat.add_le_add_right (Nat.add_le_add_right (Nat.add_le_add_right (Nat.add_le_add_right (Nat.add_le_add_right (Nat.add_le_add_right (Nat.add_le_add_right (Nat.add_le_add_right (Nat.le_refl 0) 0) 1) 0) 1) 0) 1) 0) 0) 0) 0) 0) (by decide)) (Nat.le_trans (Nat.add_le_add_right (Nat.add_le_add_right (Nat.add_le_add_right (Nat.add_le_add_right (Nat.add_le_add_right (Nat.add_le_add_right (Nat.add_le_add_right (Nat.add_le_add_right (Nat.add_le_add_right (Nat.add_le_add_right (Nat.add_le_add_right (Nat.le_refl 0) 0) 1) 0) 1) 0) 2) 0) 0) 0) 0) 0) (by decide)) (fun fs hr => retN X78 hx (t := .boolean) Bd.returns (by simp) (hb hby at_160) hr)
            · exact ⟨by rw [hf], N78⟩
          · rw [if_neg hc79] at hf
            refine Go.step (T' := T78) (f' := (mkF m 127 #[.val (.long p1), .second, .val (.long p2), .second, .val (.int p3), .val (.long (pick p1 p2 p3)), .second, .val (.ref b2), .val (.ref b7), .val (.ref b_16), .val (.int (0 : Int32)), .val (.int (1 : Int32)), .val (.int (0 : Int32)), .val (.int (eqU p1 p1)), .val (.int (1 : Int32)), .unset] [])) (fun t kt => ?_) ?_
            · show Steps p.tables e below (T78.setTop (mkF m 120 #[.val (.long p1), .second, .val (.long p2), .second, .val (.int p3), .val (.long (pick p1 p2 p3)), .second, .val (.ref b2), .val (.ref b7), .val (.ref b_16), .val (.int (0 : Int32)), .val (.int (1 : Int32)), .val (.int (0 : Int32)), .val (.int (eqU p1 p1)), .val (.int (1 : Int32)), .unset] [(.int (eqI ))])) _
              refine XS.ifYes X78.here hx rfl (pc0 := 120) (pc' := 127) rfl (hb hby at_120) rfl ((if0 _ _).trans (feq hc79).2) (by decide) (by decide) ?_
              exact kt
            refine Go.step (T' := T78) (f' := (mkF m 160 #[.val (.long p1), .second, .val (.long p2), .second, .val (.int p3), .val (.long (pick p1 p2 p3)), .second, .val (.ref b2), .val (.ref b7), .val (.ref b_16), .val (.int (0 : Int32)), .val (.int (1 : Int32)), .val (.int (0 : Int32)), .val (.int (eqU p1 p1)), .val (.int (1 : Int32)), .val (.int (0 : Int32))] [(.int (0 : Int32))])) (fun t kt => ?_) ?_
            · show Steps p.tables e below (T78.setTop (mkF m 127 #[.val (.long p1), .second, .val (.long p2), .second, .val (.int p3), .val (.long (pick p1 p2 p3)), .second, .val (.ref b2), .val (.ref b7), .val (.ref b_16), .val (.int (0 : Int32)), .val (.int (1 : Int32)), .val (.int (0 : Int32)), .val (.int (eqU p1 p1)), .val (.int (1 : Int32)), .unset] [])) _
              refine XS.iconst X78.here hx rfl (hb hby at_127) ?_
              show Steps p.tables e below (T78.setTop (mkF m 128 #[.val (.long p1), .second, .val (.long p2), .second, .val (.int p3), .val (.long (pick p1 p2 p3)), .second, .val (.ref b2), .val (.ref b7), .val (.ref b_16), .val (.int (0 : Int32)), .val (.int (1 : Int32)), .val (.int (0 : Int32)), .val (.int (eqU p1 p1)), .val (.int (1 : Int32)), .unset] [(.int (0 : Int32))])) _
              refine XS.istore X78.here hx rfl (hb hby at_128) rfl (l' := #[.val (.long p1), .second, .val (.long p2), .second, .val (.int p3), .val (.long (pick p1 p2 p3)), .second, .val (.ref b2), .val (.ref b7), .val (.ref b_16), .val (.int (0 : Int32)), .val (.int (1 : Int32)), .val (.int (0 : Int32)), .val (.int (eqU p1 p1)), .val (.int (1 : Int32)), .val (.int (0 : Int32))]) rfl ?_
              show Steps p.tables e below (T78.setTop (mkF m 130 #[.val (.long p1), .second, .val (.long p2), .second, .val (.int p3), .val (.long (pick p1 p2 p3)), .second, .val (.ref b2), .val (.ref b7), .val (.ref b_16), .val (.int (0 : Int32)), .val (.int (1 : Int32)), .val (.int (0 : Int32)), .val (.int (eqU p1 p1)), .val (.int (1 : Int32)), .val (.int (0 : Int32))] [])) _
              refine XS.iload X78.here hx rfl (hb hby at_130) rfl ?_
              show Steps p.tables e below (T78.setTop (mkF m 132 #[.val (.long p1), .second, .val (.long p2), .second, .val (.int p3), .val (.long (pick p1 p2 p3)), .second, .val (.ref b2), .val (.ref b7), .val (.ref b_16), .val (.int (0 : Int32)), .val (.int (1 : Int32)), .val (.int (0 : Int32)), .val (.int (eqU p1 p1)), .val (.int (1 : Int32)), .val (.int (0 : Int32))] [(.int (1 : Int32))])) _
              refine XS.ifNo X78.here hx rfl (hb hby at_132) rfl ((if0 _ _).trans (feq (by decide : ¬ ((1 : Int32) = (0 : Int32)))).1) ?_
              show Steps p.tables e below (T78.setTop (mkF m 135 #[.val (.long p1), .second, .val (.long p2), .second, .val (.int p3), .val (.long (pick p1 p2 p3)), .second, .val (.ref b2), .val (.ref b7), .val (.ref b_16), .val (.int (0 : Int32)), .val (.int (1 : Int32)), .val (.int (0 : Int32)), .val (.int (eqU p1 p1)), .val (.int (1 : Int32)), .val (.int (0 : Int32))] [])) _
              refine XS.iload X78.here hx rfl (hb hby at_135) rfl ?_
              show Steps p.tables e below (T78.setTop (mkF m 137 #[.val (.long p1), .second, .val (.long p2), .second, .val (.int p3), .val (.long (pick p1 p2 p3)), .second, .val (.ref b2), .val (.ref b7), .val (.ref b_16), .val (.int (0 : Int32)), .val (.int (1 : Int32)), .val (.int (0 : Int32)), .val (.int (eqU p1 p1)), .val (.int (1 : Int32)), .val (.int (0 : Int32))] [(.int (0 : Int32))])) _
              refine XS.ifYes X78.here hx rfl (pc0 := 137) (pc' := 159) rfl (hb hby at_137) rfl ((if0 _ _).trans (teq (by decide : ((0 : Int32) = (0 : Int32)))).1) (by decide) (by decide) ?_
              show Steps p.tables e below (T78.setTop (mkF m 159 #[.val (.long p1), .second, .val (.long p2), .second, .val (.int p3), .val (.long (pick p1 p2 p3)), .second, .val (.ref b2), .val (.ref b7), .val (.ref b_16), .val (.int (0 : Int32)), .val (.int (1 : Int32)), .val (.int (0 : Int32)), .val (.int (eqU p1 p1)), .val (.int (1 : Int32)), .val (.int (0 : Int32))] [])) _
              refine XS.iconst X78.here hx rfl (hb hby at_159) ?_
              exact kt
            refine Go.fin X78 (v := some (.int (0 : Int32))) (fun h => by rw [Bd.returns] at h; cases h) Bd.notSynchronized ?_ (Nat.le_trans (Nat.add_le_add_right (Nat.add_le_add_right (Nat.add_le_add_right (Nat.add_le_add_right (Nat.add_le_add_right (Nat.add_le_add_right (Nat.add_le_add_right (Nat.add_le_add_right (Nat.add_le_add_right (Nat.add_le_add_right (Nat.add_le_add_right (Nat.le_refl 0) 0) 1) 0) 1) 0) 1) 0) 0) 0) 0) 0) (by decide)) (Nat.le_trans (Nat.add_le_add_right (Nat.add_le_add_right (Nat.add_le_add_right (Nat.add_le_add_right (Nat.add_le_add_right (Nat.add_le_add_right (Nat.add_le_add_right (Nat.add_le_add_right (Nat.add_le_add_right (Nat.add_le_add_right (Nat.add_le_add_right (Nat.le_refl 0) 0) 1) 0) 1) 0) 2) 0) 0) 0) 0) 0) (by decide)) (fun fs hr => retN X78 hx (t := .boolean) Bd.returns (by simp) (hb hby at_160) hr)
            · exact ⟨by rw [hf], N78⟩
        · rw [if_neg hc77] at hf
          refine Go.step (T' := T76) (f' := (mkF m 110 #[.val (.long p1), .second, .val (.long p2), .second, .val (.int p3), .val (.long (pick p1 p2 p3)), .second, .val (.ref b2), .val (.ref b7), .val (.ref b_16), .val (.int (0 : Int32)), .val (.int (1 : Int32)), .val (.int (0 : Int32)), .val (.int (eqU p1 p1)), .unset, .unset] [])) (fun t kt => ?_) ?_
          · show Steps p.tables e below (T76.setTop (mkF m 103 #[.val (.long p1), .second, .val (.long p2), .second, .val (.int p3), .val (.long (pick p1 p2 p3)), .second, .val (.ref b2), .val (.ref b7), .val (.ref b_16), .val (.int (0 : Int32)), .val (.int (1 : Int32)), .val (.int (0 : Int32)), .val (.int (eqU p1 p1)), .unset, .unset] [(.int (eqN ))])) _
            refine XS.ifYes X76.here hx rfl (pc0 := 103) (pc' := 110) rfl (hb hby at_103) rfl ((if0 _ _).trans (feq hc77).2) (by decide) (by decide) ?_
            exact kt
          obtain ⟨cq80, kq80, q80a, q80b, q80c⟩ := isOf hZ e76 (G17 : Exa Z T16.heap b2 "com/example/plumbline/plumbline/model/PlistUid")
          obtain ⟨_, _, ⟨T80, L80, k80, n80⟩, -, X80, ⟨Lc80, hQ80, l80, y80, z80⟩, st80⟩ := X76.virtualBack hx (y := (⟨"com/example/plumbline/plumbline/model/PlistUid", "equals", "(Ljava/lang/Object;)Z"⟩ : MethodName)) (z := (⟨"com/example/plumbline/plumbline/model/PlistUid", "equals", "(Ljava/lang/Object;)Z"⟩ : MethodName)) hown (mvT hZ (hw _ (List.mem_of_getElem? (i := 29) rfl))) (mvT hZ (hw _ (List.mem_of_getElem? (i := 30) rfl))) (notFace_of_selects (args := #[]) (mvT hZ (hw _ (List.mem_of_getElem? (i := 32) rfl)))) (mvT hZ (hw _ (List.mem_of_getElem? (i := 32) rfl))) (mvT hZ (hw _ (List.mem_of_getElem? (i := 31) rfl))) (by decide) (backOf (W := 0) (rm_eqI l Z a0 hw [] b2 b_16  T16.heap n0 Z16 pf16_0 ) hZ (hw _ (List.mem_of_getElem? (i := 33) rfl)) (hw _ (List.mem_of_getElem? (i := 6) rfl)) (by decide) (by decide)) q80a q80c (g := (mkF m 117 #[.val (.long p1), .second, .val (.long p2), .second, .val (.int p3), .val (.long (pick p1 p2 p3)), .second, .val (.ref b2), .val (.ref b7), .val (.ref b_16), .val (.int (0 : Int32)), .val (.int (1 : Int32)), .val (.int (0 : Int32)), .val (.int (eqU p1 p1)), .val (.int (0 : Int32)), .unset] [(.ref b_16), (.ref b2)])) rfl (by rw [hml]; rfl) (Steps.refl _) (argsL := [(.ref b_16)]) (rest := []) (lenOf pd_4 rfl) rfl (by show 2 * 0 + _ ≤ _; exact Nat.le_of_eq rfl) (hb hby at_117) (fun _ _ => ⟨rfl, e76, (Nat.le_trans (Nat.add_le_add_right (Nat.add_le_add_right (Nat.add_le_add_right (Nat.add_le_add_right (Nat.add_le_add_right (Nat.add_le_add_right (Nat.add_le_add_right (Nat.add_le_add_right (Nat.add_le_add_right (Nat.add_le_add_right (Nat.add_le_add_right (Nat.le_refl 0) 0) 1) 0) 1) 0) 1) 0) 0) 0) 0) 0) (by decide)), (Nat.le_trans (Nat.add_le_add_right (Nat.add_le_add_right (Nat.add_le_add_right (Nat.add_le_add_right (Nat.add_le_add_right (Nat.add_le_add_right (Nat.add_le_add_right (Nat.add_le_add_right (Nat.add_le_add_right (Nat.add_le_add_right (Nat.add_le_add_right (Nat.le_refl 0) 0) 1) 0) 1) 0) 2) 0) 0) 0) 0) 0) (by decide))⟩)
          dsimp only [Pt.U, Pt.locs, Pt.cells, Pt.slots] at X80 l80 y80 z80 st80 hQ80
          subst l80 y80 z80
          obtain ⟨rfl, N80q, e80⟩ := hQ80
          have N80 := Fr.app N76 N80q
          refine Go.step (T' := T80) (f' := (mkF m 120 #[.val (.long p1), .second, .val (.long p2), .second, .val (.int p3), .val (.long (pick p1 p2 p3)), .second, .val (.ref b2), .val (.ref b7), .val (.ref b_16), .val (.int (0 : Int32)), .val (.int (1 : Int32)), .val (.int (0 : Int32)), .val (.int (eqU p1 p1)), .val (.int (0 : Int32)), .unset] [(.int (eqI ))])) (fun t kt => ?_) ?_
          · show Steps p.tables e below (T76.setTop (mkF m 110 #[.val (.long p1), .second, .val (.long p2), .second, .val (.int p3), .val (.long (pick p1 p2 p3)), .second, .val (.ref b2), .val (.ref b7), .val (.ref b_16), .val (.int (0 : Int32)), .val (.int (1 : Int32)), .val (.int (0 : Int32)), .val (.int (eqU p1 p1)), .unset, .unset] [])) _
            refine XS.iconst X76.here hx rfl (hb hby at_110) ?_
            show Steps p.tables e below (T76.setTop (mkF m 111 #[.val (.long p1), .second, .val (.long p2), .second, .val (.int p3), .val (.long (pick p1 p2 p3)), .second, .val (.ref b2), .val (.ref b7), .val (.ref b_16), .val (.int (0 : Int32)), .val (.int (1 : Int32)), .val (.int (0 : Int32)), .val (.int (eqU p1 p1)), .unset, .unset] [(.int (0 : Int32))])) _
            refine XS.istore X76.here hx rfl (hb hby at_111) rfl (l' := #[.val (.long p1), .second, .val (.long p2), .second, .val (.int p3), .val (.long (pick p1 p2 p3)), .second, .val (.ref b2), .val (.ref b7), .val (.ref b_16), .val (.int (0 : Int32)), .val (.int (1 : Int32)), .val (.int (0 : Int32)), .val (.int (eqU p1 p1)), .val (.int (0 : Int32)), .unset]) rfl ?_
            show Steps p.tables e below (T76.setTop (mkF m 113 #[.val (.long p1), .second, .val (.long p2), .second, .val (.int p3), .val (.long (pick p1 p2 p3)), .second, .val (.ref b2), .val (.ref b7), .val (.ref b_16), .val (.int (0 : Int32)), .val (.int (1 : Int32)), .val (.int (0 : Int32)), .val (.int (eqU p1 p1)), .val (.int (0 : Int32)), .unset] [])) _
            refine XS.aload X76.here hx rfl (hb hby at_113) rfl rfl ?_
            show Steps p.tables e below (T76.setTop (mkF m 115 #[.val (.long p1), .second, .val (.long p2), .second, .val (.int p3), .val (.long (pick p1 p2 p3)), .second, .val (.ref b2), .val (.ref b7), .val (.ref b_16), .val (.int (0 : Int32)), .val (.int (1 : Int32)), .val (.int (0 : Int32)), .val (.int (eqU p1 p1)), .val (.int (0 : Int32)), .unset] [(.ref b2)])) _
            refine XS.aload X76.here hx rfl (hb hby at_115) rfl rfl ?_
            show Steps p.tables e below (T76.setTop (mkF m 117 #[.val (.long p1), .second, .val (.long p2), .second, .val (.int p3), .val (.long (pick p1 p2 p3)), .second, .val (.ref b2), .val (.ref b7), .val (.ref b_16), .val (.int (0 : Int32)), .val (.int (1 : Int32)), .val (.int (0 : Int32)), .val (.int (eqU p1 p1)), .val (.int (0 : Int32)), .unset] [(.ref b_16), (.ref b2)])) _
            refine st80.trans ?_
            exact kt
          by_cases hc81 : (eqI ) = (0 : Int32)
          · rw [if_pos hc81] at hf
            refine Go.step (T' := T80) (f' := (mkF m 123 #[.val (.long p1), .second, .val (.long p2), .second, .val (.int p3), .val (.long (pick p1 p2 p3)), .second, .val (.ref b2), .val (.ref b7), .val (.ref b_16), .val (.int (0 : Int32)), .val (.int (1 : Int32)), .val (.int (0 : Int32)), .val (.int (eqU p1 p1)), .val (.int (0 : Int32)), .unset] [])) (fun t kt => ?_) ?_
            · show Steps p.tables e below (T80.setTop (mkF m 120 #[.val (.long p1), .second, .val (.long p2), .second, .val (.int p3), .val (.long (pick p1 p2 p3)), .second, .val (.ref b2), .val (.ref b7), .val (.ref b_16), .val (.int (0 : Int32)), .val (.int (1 : Int32)), .val (.int (0 : Int32)), .val (.int (eqU p1 p1)), .val (.int (0 : Int32)), .unset] [(.int (eqI ))])) _
              refine XS.ifNo X80.here hx rfl (hb hby at_120) rfl ((if0 _ _).trans (teq hc81).2) ?_
              exact kt
            refine Go.step (T' := T80) (f' := (mkF m 160 #[.val (.long p1), .second, .val (.long p2), .second, .val (.int p3), .val (.long (pick p1 p2 p3)), .second, .val (.ref b2), .val (.ref b7), .val (.ref b_16), .val (.int (0 : Int32)), .val (.int (1 : Int32)), .val (.int (0 : Int32)), .val (.int (eqU p1 p1)), .val (.int (0 : Int32)), .val (.int (1 : Int32))] [(.int (0 : Int32))])) (fun t kt => ?_) ?_
            · show Steps p.tables e below (T80.setTop (mkF m 123 #[.val (.long p1), .second, .val (.long p2), .second, .val (.int p3), .val (.long (pick p1 p2 p3)), .second, .val (.ref b2), .val (.ref b7), .val (.ref b_16), .val (.int (0 : Int32)), .val (.int (1 : Int32)), .val (.int (0 : Int32)), .val (.int (eqU p1 p1)), .val (.int (0 : Int32)), .unset] [])) _
              refine XS.iconst X80.here hx rfl (hb hby at_123) ?_
              show Steps p.tables e below (T80.setTop (mkF m 124 #[.val (.long p1), .second, .val (.long p2), .second, .val (.int p3), .val (.long (pick p1 p2 p3)), .second, .val (.ref b2), .val (.ref b7), .val (.ref b_16), .val (.int (0 : Int32)), .val (.int (1 : Int32)), .val (.int (0 : Int32)), .val (.int (eqU p1 p1)), .val (.int (0 : Int32)), .unset] [(.int (1 : Int32))])) _
              refine XS.goto X80.here hx rfl (pc0 := 124) (pc' := 128) rfl (hb hby at_124) (by decide) (by decide) ?_
              show Steps p.tables e below (T80.setTop (mkF m 128 #[.val (.long p1), .second, .val (.long p2), .second, .val (.int p3), .val (.long (pick p1 p2 p3)), .second, .val (.ref b2), .val (.ref b7), .val (.ref b_16), .val (.int (0 : Int32)), .val (.int (1 : Int32)), .val (.int (0 : Int32)), .val (.int (eqU p1 p1)), .val (.int (0 : Int32)), .unset] [(.int (1 : Int32))])) _
              refine XS.istore X80.here hx rfl (hb hby at_128) rfl (l' := #[.val (.long p1), .second, .val (.long p2), .second, .val (.int p3), .val (.long (pick p1 p2 p3)), .second, .val (.ref b2), .val (.ref b7), .val (.ref b_16), .val (.int (0 : Int32)), .val (.int (1 : Int32)), .val (.int (0 : Int32)), .val (.int (eqU p1 p1)), .val (.int (0 : Int32)), .val (.int (1 : Int32))]) rfl ?_
              show Steps p.tables e below (T80.setTop (mkF m 130 #[.val (.long p1), .second, .val (.long p2), .second, .val (.int p3), .val (.long (pick p1 p2 p3)), .second, .val (.ref b2), .val (.ref b7), .val (.ref b_16), .val (.int (0 : Int32)), .val (.int (1 : Int32)), .val (.int (0 : Int32)), .val (.int (eqU p1 p1)), .val (.int (0 : Int32)), .val (.int (1 : Int32))] [])) _
              refine XS.iload X80.here hx rfl (hb hby at_130) rfl ?_
              show Steps p.tables e below (T80.setTop (mkF m 132 #[.val (.long p1), .second, .val (.long p2), .second, .val (.int p3), .val (.long (pick p1 p2 p3)), .second, .val (.ref b2), .val (.ref b7), .val (.ref b_16), .val (.int (0 : Int32)), .val (.int (1 : Int32)), .val (.int (0 : Int32)), .val (.int (eqU p1 p1)), .val (.int (0 : Int32)), .val (.int (1 : Int32))] [(.int (1 : Int32))])) _
              refine XS.ifNo X80.here hx rfl (hb hby at_132) rfl ((if0 _ _).trans (feq (by decide : ¬ ((1 : Int32) = (0 : Int32)))).1) ?_
              show Steps p.tables e below (T80.setTop (mkF m 135 #[.val (.long p1), .second, .val (.long p2), .second, .val (.int p3), .val (.long (pick p1 p2 p3)), .second, .val (.ref b2), .val (.ref b7), .val (.ref b_16), .val (.int (0 : Int32)), .val (.int (1 : Int32)), .val (.int (0 : Int32)), .val (.int (eqU p1 p1)), .val (.int (0 : Int32)), .val (.int (1 : Int32))] [])) _
              refine XS.iload X80.here hx rfl (hb hby at_135) rfl ?_
              show Steps p.tables e below (T80.setTop (mkF m 137 #[.val (.long p1), .second, .val (.long p2), .second, .val (.int p3), .val (.long (pick p1 p2 p3)), .second, .val (.ref b2), .val (.ref b7), .val (.ref b_16), .val (.int (0 : Int32)), .val (.int (1 : Int32)), .val (.int (0 : Int32)), .val (.int (eqU p1 p1)), .val (.int (0 : Int32)), .val (.int (1 : Int32))] [(.int (0 : Int32))])) _
              refine XS.ifYes X80.here hx rfl (pc0 := 137) (pc' := 159) rfl (hb hby at_137) rfl ((if0 _ _).trans (teq (by decide : ((0 : Int32) = (0 : Int32)))).1) (by decide) (by decide) ?_
              show Steps p.tables e below (T80.setTop (mkF m 159 #[.val (.long p1), .second, .val (.long p2), .second, .val (.int p3), .val (.long (pick p1 p2 p3)), .second, .val (.ref b2), .val (.ref b7), .val (.ref b_16), .val (.int (0 : Int32)), .val (.int (1 : Int32)), .val (.int (0 : Int32)), .val (.int (eqU p1 p1)), .val (.int (0 : Int32)), .val (.int (1 : Int32))] [])) _
              refine XS.iconst X80.here hx rfl (hb hby at_159) ?_
              exact kt
            refine Go.fin X80 (v := some (.int (0 : Int32))) (fun h => by rw [Bd.returns] at h; cases h) Bd.notSynchronized ?_ (Nat.le_trans (Nat.add_le_add_right (Nat.add_le_add_right (Nat.add_le_add_right (Nat.add_le_add_right (Nat.add_le_add_right (Nat.add_le_add_right (Nat.add_le_add_right (Nat.add_le_add_right (Nat.add_le_add_right (Nat.add_le_add_right (Nat.add_le_add_right (Nat.le_refl 0) 0) 1) 0) 1) 0) 1) 0) 0) 0) 0) 0) (by decide)) (Nat.le_trans (Nat.add_le_add_right (Nat.add_le_add_right (Nat.add_le_add_right (Nat.add_le_add_right (Nat.add_le_add_right (Nat.add_le_add_right (Nat.add_le_add_right (Nat.add_le_add_right (Nat.add_le_add_right (Nat.add_le_add_right (Nat.add_le_add_right (Nat.le_refl 0) 0) 1) 0) 1) 0) 2) 0) 0) 0) 0) 0) (by decide)) (fun fs hr => retN X80 hx (t := .boolean) Bd.returns (by simp) (hb hby at_160) hr)
            · exact ⟨by rw [hf], N80⟩
          · rw [if_neg hc81] at hf
            refine Go.step (T' := T80) (f' := (mkF m 127 #[.val (.long p1), .second, .val (.long p2), .second, .val (.int p3), .val (.long (pick p1 p2 p3)), .second, .val (.ref b2), .val (.ref b7), .val (.ref b_16), .val (.int (0 : Int32)), .val (.int (1 : Int32)), .val (.int (0 : Int32)), .val (.int (eqU p1 p1)), .val (.int (0 : Int32)), .unset] [])) (fun t kt => ?_) ?_
            · show Steps p.tables e below (T80.setTop (mkF m 120 #[.val (.long p1), .second, .val (.long p2), .second, .val (.int p3), .val (.long (pick p1 p2 p3)), .second, .val (.ref b2), .val (.ref b7), .val (.ref b_16), .val (.int (0 : Int32)), .val (.int (1 : Int32)), .val (.int (0 : Int32)), .val (.int (eqU p1 p1)), .val (.int (0 : Int32)), .unset] [(.int (eqI ))])) _
              refine XS.ifYes X80.here hx rfl (pc0 := 120) (pc' := 127) rfl (hb hby at_120) rfl ((if0 _ _).trans (feq hc81).2) (by decide) (by decide) ?_
              exact kt
            refine Go.step (T' := T80) (f' := (mkF m 160 #[.val (.long p1), .second, .val (.long p2), .second, .val (.int p3), .val (.long (pick p1 p2 p3)), .second, .val (.ref b2), .val (.ref b7), .val (.ref b_16), .val (.int (0 : Int32)), .val (.int (1 : Int32)), .val (.int (0 : Int32)), .val (.int (eqU p1 p1)), .val (.int (0 : Int32)), .val (.int (0 : Int32))] [(.int (0 : Int32))])) (fun t kt => ?_) ?_
            · show Steps p.tables e below (T80.setTop (mkF m 127 #[.val (.long p1), .second, .val (.long p2), .second, .val (.int p3), .val (.long (pick p1 p2 p3)), .second, .val (.ref b2), .val (.ref b7), .val (.ref b_16), .val (.int (0 : Int32)), .val (.int (1 : Int32)), .val (.int (0 : Int32)), .val (.int (eqU p1 p1)), .val (.int (0 : Int32)), .unset] [])) _
              refine XS.iconst X80.here hx rfl (hb hby at_127) ?_
              show Steps p.tables e below (T80.setTop (mkF m 128 #[.val (.long p1), .second, .val (.long p2), .second, .val (.int p3), .val (.long (pick p1 p2 p3)), .second, .val (.ref b2), .val (.ref b7), .val (.ref b_16), .val (.int (0 : Int32)), .val (.int (1 : Int32)), .val (.int (0 : Int32)), .val (.int (eqU p1 p1)), .val (.int (0 : Int32)), .unset] [(.int (0 : Int32))])) _
              refine XS.istore X80.here hx rfl (hb hby at_128) rfl (l' := #[.val (.long p1), .second, .val (.long p2), .second, .val (.int p3), .val (.long (pick p1 p2 p3)), .second, .val (.ref b2), .val (.ref b7), .val (.ref b_16), .val (.int (0 : Int32)), .val (.int (1 : Int32)), .val (.int (0 : Int32)), .val (.int (eqU p1 p1)), .val (.int (0 : Int32)), .val (.int (0 : Int32))]) rfl ?_
              show Steps p.tables e below (T80.setTop (mkF m 130 #[.val (.long p1), .second, .val (.long p2), .second, .val (.int p3), .val (.long (pick p1 p2 p3)), .second, .val (.ref b2), .val (.ref b7), .val (.ref b_16), .val (.int (0 : Int32)), .val (.int (1 : Int32)), .val (.int (0 : Int32)), .val (.int (eqU p1 p1)), .val (.int (0 : Int32)), .val (.int (0 : Int32))] [])) _
              refine XS.iload X80.here hx rfl (hb hby at_130) rfl ?_
              show Steps p.tables e below (T80.setTop (mkF m 132 #[.val (.long p1), .second, .val (.long p2), .second, .val (.int p3), .val (.long (pick p1 p2 p3)), .second, .val (.ref b2), .val (.ref b7), .val (.ref b_16), .val (.int (0 : Int32)), .val (.int (1 : Int32)), .val (.int (0 : Int32)), .val (.int (eqU p1 p1)), .val (.int (0 : Int32)), .val (.int (0 : Int32))] [(.int (1 : Int32))])) _
              refine XS.ifNo X80.here hx rfl (hb hby at_132) rfl ((if0 _ _).trans (feq (by decide : ¬ ((1 : Int32) = (0 : Int32)))).1) ?_
              show Steps p.tables e below (T80.setTop (mkF m 135 #[.val (.long p1), .second, .val (.long p2), .second, .val (.int p3), .val (.long (pick p1 p2 p3)), .second, .val (.ref b2), .val (.ref b7), .val (.ref b_16), .val (.int (0 : Int32)), .val (.int (1 : Int32)), .val (.int (0 : Int32)), .val (.int (eqU p1 p1)), .val (.int (0 : Int32)), .val (.int (0 : Int32))] [])) _
              refine XS.iload X80.here hx rfl (hb hby at_135) rfl ?_
              show Steps p.tables e below (T80.setTop (mkF m 137 #[.val (.long p1), .second, .val (.long p2), .second, .val (.int p3), .val (.long (pick p1 p2 p3)), .second, .val (.ref b2), .val (.ref b7), .val (.ref b_16), .val (.int (0 : Int32)), .val (.int (1 : Int32)), .val (.int (0 : Int32)), .val (.int (eqU p1 p1)), .val (.int (0 : Int32)), .val (.int (0 : Int32))] [(.int (0 : Int32))])) _
              refine XS.ifYes X80.here hx rfl (pc0 := 137) (pc' := 159) rfl (hb hby at_137) rfl ((if0 _ _).trans (teq (by decide : ((0 : Int32) = (0 : Int32)))).1) (by decide) (by decide) ?_
              show Steps p.tables e below (T80.setTop (mkF m 159 #[.val (.long p1), .second, .val (.long p2), .second, .val (.int p3), .val (.long (pick p1 p2 p3)), .second, .val (.ref b2), .val (.ref b7), .val (.ref b_16), .val (.int (0 : Int32)), .val (.int (1 : Int32)), .val (.int (0 : Int32)), .val (.int (eqU p1 p1)), .val (.int (0 : Int32)), .val (.int (0 : Int32))] [])) _
              refine XS.iconst X80.here hx rfl (hb hby at_159) ?_
              exact kt
            refine Go.fin X80 (v := some (.int (0 : Int32))) (fun h => by rw [Bd.returns] at h; cases h) Bd.notSynchronized ?_ (Nat.le_trans (Nat.add_le_add_right (Nat.add_le_add_right (Nat.add_le_add_right (Nat.add_le_add_right (Nat.add_le_add_right (Nat.add_le_add_right (Nat.add_le_add_right (Nat.add_le_add_right (Nat.add_le_add_right (Nat.add_le_add_right (Nat.add_le_add_right (Nat.le_refl 0) 0) 1) 0) 1) 0) 1) 0) 0) 0) 0) 0) (by decide)) (Nat.le_trans (Nat.add_le_add_right (Nat.add_le_add_right (Nat.add_le_add_right (Nat.add_le_add_right (Nat.add_le_add_right (Nat.add_le_add_right (Nat.add_le_add_right (Nat.add_le_add_right (Nat.add_le_add_right (Nat.add_le_add_right (Nat.add_le_add_right (Nat.le_refl 0) 0) 1) 0) 1) 0) 2) 0) 0) 0) 0) 0) (by decide)) (fun fs hr => retN X80 hx (t := .boolean) Bd.returns (by simp) (hb hby at_160) hr)
            · exact ⟨by rw [hf], N80⟩
    · rw [if_neg hc61] at hf
      refine Go.step (T' := T60) (f' := (mkF m 66 #[.val (.long p1), .second, .val (.long p2), .second, .val (.int p3), .val (.long (pick p1 p2 p3)), .second, .val (.ref b2), .val (.ref b7), .val (.ref b_16), .val (.int (0 : Int32)), .unset, .unset, .unset, .unset, .unset] [])) (fun t kt => ?_) ?_
      · show Steps p.tables e below (T60.setTop (mkF m 59 #[.val (.long p1), .second, .val (.long p2), .second, .val (.int p3), .val (.long (pick p1 p2 p3)), .second, .val (.ref b2), .val (.ref b7), .val (.ref b_16), .val (.int (0 : Int32)), .unset, .unset, .unset, .unset, .unset] [(.int (0 : Int32)), (.int (eqU p1 (pick p1 p2 p3)))])) _
        refine XS.icmpYes X60.here hx rfl (pc0 := 59) (pc' := 66) rfl (hb hby at_59) rfl (feq hc61).2 (by decide) (by decide) ?_
        exact kt
      obtain ⟨cq82, kq82, q82a, q82b, q82c⟩ := isOf hZ e60 (G19 : Exa Z T16.heap b7 "com/example/plumbline/plumbline/model/PlistUid")
      obtain ⟨_, _, ⟨T82, L82, k82, n82⟩, -, X82, ⟨Lc82, hQ82, l82, y82, z82⟩, st82⟩ := X60.virtualBack hx (y := (⟨"com/example/plumbline/plumbline/model/PlistUid", "equals", "(Ljava/lang/Object;)Z"⟩ : MethodName)) (z := (⟨"com/example/plumbline/plumbline/model/PlistUid", "equals", "(Ljava/lang/Object;)Z"⟩ : MethodName)) hown (mvT hZ (hw _ (List.mem_of_getElem? (i := 29) rfl))) (mvT hZ (hw _ (List.mem_of_getElem? (i := 30) rfl))) (notFace_of_selects (args := #[]) (mvT hZ (hw _ (List.mem_of_getElem? (i := 32) rfl)))) (mvT hZ (hw _ (List.mem_of_getElem? (i := 32) rfl))) (mvT hZ (hw _ (List.mem_of_getElem? (i := 31) rfl))) (by decide) (backOf (W := 0) (rm_eqU l Z a0 hw [] b7 b2 (pick p1 p2 p3) p1 T16.heap n0 Z16 G17 G20 G18 ) hZ (hw _ (List.mem_of_getElem? (i := 33) rfl)) (hw _ (List.mem_of_getElem? (i := 6) rfl)) (by decide) (by decide)) q82a q82c (g := (mkF m 73 #[.val (.long p1), .second, .val (.long p2), .second, .val (.int p3), .val (.long (pick p1 p2 p3)), .second, .val (.ref b2), .val (.ref b7), .val (.ref b_16), .val (.int (0 : Int32)), .val (.int (0 : Int32)), .unset, .unset, .unset, .unset] [(.ref b2), (.ref b7)])) rfl (by rw [hml]; rfl) (Steps.refl _) (argsL := [(.ref b2)]) (rest := []) (lenOf pd_4 rfl) rfl (by show 2 * 0 + _ ≤ _; exact Nat.le_of_eq rfl) (hb hby at_73) (fun _ _ => ⟨rfl, e60, (Nat.le_trans (Nat.add_le_add_right (Nat.add_le_add_right (Nat.add_le_add_right (Nat.add_le_add_right (Nat.add_le_add_right (Nat.add_le_add_right (Nat.add_le_add_right (Nat.add_le_add_right (Nat.le_refl 0) 0) 1) 0) 1) 0) 1) 0) 0) (by decide)), (Nat.le_trans (Nat.add_le_add_right (Nat.add_le_add_right (Nat.add_le_add_right (Nat.add_le_add_right (Nat.add_le_add_right (Nat.add_le_add_right (Nat.add_le_add_right (Nat.add_le_add_right (Nat.le_refl 0) 0) 1) 0) 1) 0) 2) 0) 0) (by decide))⟩)
      dsimp only [Pt.U, Pt.locs, Pt.cells, Pt.slots] at X82 l82 y82 z82 st82 hQ82
      subst l82 y82 z82
      obtain ⟨rfl, N82q, e82⟩ := hQ82
      have N82 := Fr.app N60 N82q
      refine Go.step (T' := T82) (f' := (mkF m 78 #[.val (.long p1), .second, .val (.long p2), .second, .val (.int p3), .val (.long (pick p1 p2 p3)), .second, .val (.ref b2), .val (.ref b7), .val (.ref b_16), .val (.int (0 : Int32)), .val (.int (0 : Int32)), .unset, .unset, .unset, .unset] [(.int (0 : Int32)), (.int (eqU (pick p1 p2 p3) p1))])) (fun t kt => ?_) ?_
      · show Steps p.tables e below (T60.setTop (mkF m 66 #[.val (.long p1), .second, .val (.long p2), .second, .val (.int p3), .val (.long (pick p1 p2 p3)), .second, .val (.ref b2), .val (.ref b7), .val (.ref b_16), .val (.int (0 : Int32)), .unset, .unset, .unset, .unset, .unset] [])) _
        refine XS.iconst X60.here hx rfl (hb hby at_66) ?_
        show Steps p.tables e below (T60.setTop (mkF m 67 #[.val (.long p1), .second, .val (.long p2), .second, .val (.int p3), .val (.long (pick p1 p2 p3)), .second, .val (.ref b2), .val (.ref b7), .val (.ref b_16), .val (.int (0 : Int32)), .unset, .unset, .unset, .unset, .unset] [(.int (0 : Int32))])) _
        refine XS.istore X60.here hx rfl (hb hby at_67) rfl (l' := #[.val (.long p1), .second, .val (.long p2), .second, .val (.int p3), .val (.long (pick p1 p2 p3)), .second, .val (.ref b2), .val (.ref b7), .val (.ref b_16), .val (.int (0 : Int32)), .val (.int (0 : Int32)), .unset, .unset, .unset, .unset]) rfl ?_
        show Steps p.tables e below (T60.setTop (mkF m 69 #[.val (.long p1), .second, .val (.long p2), .second, .val (.int p3), .val (.long (pick p1 p2 p3)), .second, .val (.ref b2), .val (.ref b7), .val (.ref b_16), .val (.int (0 : Int32)), .val (.int (0 : Int32)), .unset, .unset, .unset, .unset] [])) _
        refine XS.aload X60.here hx rfl (hb hby at_69) rfl rfl ?_
        show Steps p.tables e below (T60.setTop (mkF m 71 #[.val (.long p1), .second, .val (.long p2), .second, .val (.int p3), .val (.long (pick p1 p2 p3)), .second, .val (.ref b2), .val (.ref b7), .val (.ref b_16), .val (.int (0 : Int32)), .val (.int (0 : Int32)), .unset, .unset, .unset, .unset] [(.ref b7)])) _
        refine XS.aload X60.here hx rfl (hb hby at_71) rfl rfl ?_
        show Steps p.tables e below (T60.setTop (mkF m 73 #[.val (.long p1), .second, .val (.long p2), .second, .val (.int p3), .val (.long (pick p1 p2 p3)), .second, .val (.ref b2), .val (.ref b7), .val (.ref b_16), .val (.int (0 : Int32)), .val (.int (0 : Int32)), .unset, .unset, .unset, .unset] [(.ref b2), (.ref b7)])) _
        refine st82.trans ?_
        show Steps p.tables e below (T82.setTop (mkF m 76 #[.val (.long p1), .second, .val (.long p2), .second, .val (.int p3), .val (.long (pick p1 p2 p3)), .second, .val (.ref b2), .val (.ref b7), .val (.ref b_16), .val (.int (0 : Int32)), .val (.int (0 : Int32)), .unset, .unset, .unset, .unset] [(.int (eqU (pick p1 p2 p3) p1))])) _
        refine XS.iload X82.here hx rfl (hb hby at_76) rfl ?_
        exact kt
      by_cases hc83 : (eqU (pick p1 p2 p3) p1) = (0 : Int32)
      · rw [if_pos hc83] at hf
        refine Go.step (T' := T82) (f' := (mkF m 81 #[.val (.long p1), .second, .val (.long p2), .second, .val (.int p3), .val (.long (pick p1 p2 p3)), .second, .val (.ref b2), .val (.ref b7), .val (.ref b_16), .val (.int (0 : Int32)), .val (.int (0 : Int32)), .unset, .unset, .unset, .unset] [])) (fun t kt => ?_) ?_
        · show Steps p.tables e below (T82.setTop (mkF m 78 #[.val (.long p1), .second, .val (.long p2), .second, .val (.int p3), .val (.long (pick p1 p2 p3)), .second, .val (.ref b2), .val (.ref b7), .val (.ref b_16), .val (.int (0 : Int32)), .val (.int (0 : Int32)), .unset, .unset, .unset, .unset] [(.int (0 : Int32)), (.int (eqU (pick p1 p2 p3) p1))])) _
          refine XS.icmpNo X82.here hx rfl (hb hby at_78) rfl (teq hc83).2 ?_
          exact kt
        obtain ⟨cq84, kq84, q84a, q84b, q84c⟩ := isOf hZ e82 (G17 : Exa Z T16.heap b2 "com/example/plumbline/plumbline/model/PlistUid")
        obtain ⟨_, _, ⟨T84, L84, k84, n84⟩, -, X84, ⟨Lc84, hQ84, l84, y84, z84⟩, st84⟩ := X82.virtualBack hx (y := (⟨"com/example/plumbline/plumbline/model/PlistUid", "equals", "(Ljava/lang/Object;)Z"⟩ : MethodName)) (z := (⟨"com/example/plumbline/plumbline/model/PlistUid", "equals", "(Ljava/lang/Object;)Z"⟩ : MethodName)) hown (mvT hZ (hw _ (List.mem_of_getElem? (i := 29) rfl))) (mvT hZ (hw _ (List.mem_of_getElem? (i := 30) rfl))) (notFace_of_selects (args := #[]) (mvT hZ (hw _ (List.mem_of_getElem? (i := 32) rfl)))) (mvT hZ (hw _ (List.mem_of_getElem? (i := 32) rfl))) (mvT hZ (hw _ (List.mem_of_getElem? (i := 31) rfl))) (by decide) (backOf (W := 0) (rm_eqU l Z a0 hw [] b2 b2 p1 p1 T16.heap n0 Z16 G17 G18 G18 ) hZ (hw _ (List.mem_of_getElem? (i := 33) rfl)) (hw _ (List.mem_of_getElem? (i := 6) rfl)) (by decide) (by decide)) q84a q84c (g := (mkF m 92 #[.val (.long p1), .second, .val (.long p2), .second, .val (.int p3), .val (.long (pick p1 p2 p3)), .second, .val (.ref b2), .val (.ref b7), .val (.ref b_16), .val (.int (0 : Int32)), .val (.int (0 : Int32)), .val (.int (1 : Int32)), .unset, .unset, .unset] [(.ref b2), (.ref b2)])) rfl (by rw [hml]; rfl) (Steps.refl _) (argsL := [(.ref b2)]) (rest := []) (lenOf pd_4 rfl) rfl (by show 2 * 0 + _ ≤ _; exact Nat.le_of_eq rfl) (hb hby at_92) (fun _ _ => ⟨rfl, e82, (Nat.le_trans (Nat.add_le_add_right (Nat.add_le_add_right (Nat.add_le_add_right (Nat.add_le_add_right (Nat.add_le_add_right (Nat.add_le_add_right (Nat.add_le_add_right (Nat.add_le_add_right (Nat.add_le_add_right (Nat.le_refl 0) 0) 1) 0) 1) 0) 1) 0) 0) 0) (by decide)), (Nat.le_trans (Nat.add_le_add_right (Nat.add_le_add_right (Nat.add_le_add_right (Nat.add_le_add_right (Nat.add_le_add_right (Nat.add_le_add_right (Nat.add_le_add_right (Nat.add_le_add_right (Nat.add_le_add_right (Nat.le_refl 0) 0) 1) 0) 1) 0) 2) 0) 0) 0) (by decide))⟩)
        dsimp only [Pt.U, Pt.locs, Pt.cells, Pt.slots] at X84 l84 y84 z84 st84 hQ84
        subst l84 y84 z84
        obtain ⟨rfl, N84q, e84⟩ := hQ84
        have N84 := Fr.app N82 N84q
        obtain ⟨cq85, kq85, q85a, q85b, q85c⟩ := isOf hZ e84 (G17 : Exa Z T16.heap b2 "com/example/plumbline/plumbline/model/PlistUid")
        obtain ⟨_, _, ⟨T85, L85, k85, n85⟩, -, X85, ⟨Lc85, hQ85, l85, y85, z85⟩, st85⟩ := X84.virtualBack hx (y := (⟨"com/example/plumbline/plumbline/model/PlistUid", "equals", "(Ljava/lang/Object;)Z"⟩ : MethodName)) (z := (⟨"com/example/plumbline/plumbline/model/PlistUid", "equals", "(Ljava/lang/Object;)Z"⟩ : MethodName)) hown (mvT hZ (hw _ (List.mem_of_getElem? (i := 29) rfl))) (mvT hZ (hw _ (List.mem_of_getElem? (i := 30) rfl))) (notFace_of_selects (args := #[]) (mvT hZ (hw _ (List.mem_of_getElem? (i := 32) rfl)))) (mvT hZ (hw _ (List.mem_of_getElem? (i := 32) rfl))) (mvT hZ (hw _ (List.mem_of_getElem? (i := 31) rfl))) (by decide) (backOf (W := 0) (rm_eqN l Z a0 hw [] b2  T16.heap n0 Z16  ) hZ (hw _ (List.mem_of_getElem? (i := 33) rfl)) (hw _ (List.mem_of_getElem? (i := 6) rfl)) (by decide) (by decide)) q85a q85c (g := (mkF m 100 #[.val (.long p1), .second, .val (.long p2), .second, .val (.int p3), .val (.long (pick p1 p2 p3)), .second, .val (.ref b2), .val (.ref b7), .val (.ref b_16), .val (.int (0 : Int32)), .val (.int (0 : Int32)), .val (.int (1 : Int32)), .val (.int (eqU p1 p1)), .unset, .unset] [.null, (.ref b2)])) rfl (by rw [hml]; rfl) (Steps.refl _) (argsL := [.null]) (rest := []) (lenOf pd_4 rfl) rfl (by show 2 * 0 + _ ≤ _; exact Nat.le_of_eq rfl) (hb hby at_100) (fun _ _ => ⟨rfl, e84, (Nat.le_trans (Nat.add_le_add_right (Nat.add_le_add_right (Nat.add_le_add_right (Nat.add_le_add_right (Nat.add_le_add_right (Nat.add_le_add_right (Nat.add_le_add_right (Nat.add_le_add_right (Nat.add_le_add_right (Nat.add_le_add_right (Nat.le_refl 0) 0) 1) 0) 1) 0) 1) 0) 0) 0) 0) (by decide)), (Nat.le_trans (Nat.add_le_add_right (Nat.add_le_add_right (Nat.add_le_add_right (Nat.add_le_add_right (Nat.add_le_add_right (Nat.add_le_add_right (Nat.add_le_add_right (Nat.add_le_add_right (Nat.add_le_add_right (Nat.add_le_add_right (Nat.le_refl 0) 0) 1) 0) 1) 0) 2) 0) 0) 0) 0) (by decide))⟩)
        dsimp only [Pt.U, Pt.locs, Pt.cells, Pt.slots] at X85 l85 y85 z85 st85 hQ85
        subst l85 y85 z85
        obtain ⟨rfl, N85q, e85⟩ := hQ85
        have N85 := Fr.app N84 N85q
        refine Go.step (T' := T85) (f' := (mkF m 103 #[.val (.long p1), .second, .val (.long p2), .second, .val (.int p3), .val (.long (pick p1 p2 p3)), .second, .val (.ref b2), .val (.ref b7), .val (.ref b_16), .val (.int (0 : Int32)), .val (.int (0 : Int32)), .val (.int (1 : Int32)), .val (.int (eqU p1 p1)), .unset, .unset] [(.int (eqN ))])) (fun t kt => ?_) ?_
        · show Steps p.tables e below (T82.setTop (mkF m 81 #[.val (.long p1), .second, .val (.long p2), .second, .val (.int p3), .val (.long (pick p1 p2 p3)), .second, .val (.ref b2), .val (.ref b7), .val (.ref b_16), .val (.int (0 : Int32)), .val (.int (0 : Int32)), .unset, .unset, .unset, .unset] [])) _
          refine XS.iconst X82.here hx rfl (hb hby at_81) ?_
          show Steps p.tables e below (T82.setTop (mkF m 82 #[.val (.long p1), .second, .val (.long p2), .second, .val (.int p3), .val (.long (pick p1 p2 p3)), .second, .val (.ref b2), .val (.ref b7), .val (.ref b_16), .val (.int (0 : Int32)), .val (.int (0 : Int32)), .unset, .unset, .unset, .unset] [(.int (1 : Int32))])) _
          refine XS.goto X82.here hx rfl (pc0 := 82) (pc' := 86) rfl (hb hby at_82) (by decide) (by decide) ?_
          show Steps p.tables e below (T82.setTop (mkF m 86 #[.val (.long p1), .second, .val (.long p2), .second, .val (.int p3), .val (.long (pick p1 p2 p3)), .second, .val (.ref b2), .val (.ref b7), .val (.ref b_16), .val (.int (0 : Int32)), .val (.int (0 : Int32)), .unset, .unset, .unset, .unset] [(.int (1 : Int32))])) _
          refine XS.istore X82.here hx rfl (hb hby at_86) rfl (l' := #[.val (.long p1), .second, .val (.long p2), .second, .val (.int p3), .val (.long (pick p1 p2 p3)), .second, .val (.ref b2), .val (.ref b7), .val (.ref b_16), .val (.int (0 : Int32)), .val (.int (0 : Int32)), .val (.int (1 : Int32)), .unset, .unset, .unset]) rfl ?_
          show Steps p.tables e below (T82.setTop (mkF m 88 #[.val (.long p1), .second, .val (.long p2), .second, .val (.int p3), .val (.long (pick p1 p2 p3)), .second, .val (.ref b2), .val (.ref b7), .val (.ref b_16), .val (.int (0 : Int32)), .val (.int (0 : Int32)), .val (.int (1 : Int32)), .unset, .unset, .unset] [])) _
          refine XS.aload X82.here hx rfl (hb hby at_88) rfl rfl ?_
          show Steps p.tables e below (T82.setTop (mkF m 90 #[.val (.long p1), .second, .val (.long p2), .second, .val (.int p3), .val (.long (pick p1 p2 p3)), .second, .val (.ref b2), .val (.ref b7), .val (.ref b_16), .val (.int (0 : Int32)), .val (.int (0 : Int32)), .val (.int (1 : Int32)), .unset, .unset, .unset] [(.ref b2)])) _
          refine XS.aload X82.here hx rfl (hb hby at_90) rfl rfl ?_
          show Steps p.tables e below (T82.setTop (mkF m 92 #[.val (.long p1), .second, .val (.long p2), .second, .val (.int p3), .val (.long (pick p1 p2 p3)), .second, .val (.ref b2), .val (.ref b7), .val (.ref b_16), .val (.int (0 : Int32)), .val (.int (0 : Int32)), .val (.int (1 : Int32)), .unset, .unset, .unset] [(.ref b2), (.ref b2)])) _
          refine st84.trans ?_
          show Steps p.tables e below (T84.setTop (mkF m 95 #[.val (.long p1), .second, .val (.long p2), .second, .val (.int p3), .val (.long (pick p1 p2 p3)), .second, .val (.ref b2), .val (.ref b7), .val (.ref b_16), .val (.int (0 : Int32)), .val (.int (0 : Int32)), .val (.int (1 : Int32)), .unset, .unset, .unset] [(.int (eqU p1 p1))])) _
          refine XS.istore X84.here hx rfl (hb hby at_95) rfl (l' := #[.val (.long p1), .second, .val (.long p2), .second, .val (.int p3), .val (.long (pick p1 p2 p3)), .second, .val (.ref b2), .val (.ref b7), .val (.ref b_16), .val (.int (0 : Int32)), .val (.int (0 : Int32)), .val (.int (1 : Int32)), .val (.int (eqU p1 p1)), .unset, .unset]) rfl ?_
          show Steps p.tables e below (T84.setTop (mkF m 97 #[.val (.long p1), .second, .val (.long p2), .second, .val (.int p3), .val (.long (pick p1 p2 p3)), .second, .val (.ref b2), .val (.ref b7), .val (.ref b_16), .val (.int (0 : Int32)), .val (.int (0 : Int32)), .val (.int (1 : Int32)), .val (.int (eqU p1 p1)), .unset, .unset] [])) _
          refine XS.aload X84.here hx rfl (hb hby at_97) rfl rfl ?_
          show Steps p.tables e below (T84.setTop (mkF m 99 #[.val (.long p1), .second, .val (.long p2), .second, .val (.int p3), .val (.long (pick p1 p2 p3)), .second, .val (.ref b2), .val (.ref b7), .val (.ref b_16), .val (.int (0 : Int32)), .val (.int (0 : Int32)), .val (.int (1 : Int32)), .val (.int (eqU p1 p1)), .unset, .unset] [(.ref b2)])) _
          refine XS.aconstNull X84.here hx rfl (hb hby at_99) ?_
          show Steps p.tables e below (T84.setTop (mkF m 100 #[.val (.long p1), .second, .val (.long p2), .second, .val (.int p3), .val (.long (pick p1 p2 p3)), .second, .val (.ref b2), .val (.ref b7), .val (.ref b_16), .val (.int (0 : Int32)), .val (.int (0 : Int32)), .val (.int (1 : Int32)), .val (.int (eqU p1 p1)), .unset, .unset] [.null, (.ref b2)])) _
          refine st85.trans ?_
          exact kt
        by_cases hc86 : (eqN ) = (0 : Int32)
        · rw [if_pos hc86] at hf
          refine Go.step (T' := T85) (f' := (mkF m 106 #[.val (.long p1), .second, .val (.long p2), .second, .val (.int p3), .val (.long (pick p1 p2 p3)), .second, .val (.ref b2), .val (.ref b7), .val (.ref b_16), .val (.int (0 : Int32)), .val (.int (0 : Int32)), .val (.int (1 : Int32)), .val (.int (eqU p1 p1)), .unset, .unset] [])) (fun t kt => ?_) ?_
          · show Steps p.tables e below (T85.setTop (mkF m 103 #[.val (.long p1), .second, .val (.long p2), .second, .val (.int p3), .val (.long (pick p1 p2 p3)), .second, .val (.ref b2), .val (.ref b7), .val (.ref b_16), .val (.int (0 : Int32)), .val (.int (0 : Int32)), .val (.int (1 : Int32)), .val (.int (eqU p1 p1)), .unset, .unset] [(.int (eqN ))])) _
            refine XS.ifNo X85.here hx rfl (hb hby at_103) rfl ((if0 _ _).trans (teq hc86).2) ?_
            exact kt
          obtain ⟨cq87, kq87, q87a, q87b, q87c⟩ := isOf hZ e85 (G17 : Exa Z T16.heap b2 "com/example/plumbline/plumbline/model/PlistUid")
          obtain ⟨_, _, ⟨T87, L87, k87, n87⟩, -, X87, ⟨Lc87, hQ87, l87, y87, z87⟩, st87⟩ := X85.virtualBack hx (y := (⟨"com/example/plumbline/plumbline/model/PlistUid", "equals", "(Ljava/lang/Object;)Z"⟩ : MethodName)) (z := (⟨"com/example/plumbline/plumbline/model/PlistUid", "equals", "(Ljava/lang/Object;)Z"⟩ : MethodName)) hown (mvT hZ (hw _ (List.mem_of_getElem? (i := 29) rfl))) (mvT hZ (hw _ (List.mem_of_getElem? (i := 30) rfl))) (notFace_of_selects (args := #[]) (mvT hZ (hw _ (List.mem_of_getElem? (i := 32) rfl)))) (mvT hZ (hw _ (List.mem_of_getElem? (i := 32) rfl))) (mvT hZ (hw _ (List.mem_of_getElem? (i := 31) rfl))) (by decide) (backOf (W := 0) (rm_eqI l Z a0 hw [] b2 b_16  T16.heap n0 Z16 pf16_0 ) hZ (hw _ (List.mem_of_getElem? (i := 33) rfl)) (hw _ (List.mem_of_getElem? (i := 6) rfl)) (by decide) (by decide)) q87a q87c (g := (mkF m 117 #[.val (.long p1), .second, .val (.long p2), .second, .val (.int p3), .val (.long (pick p1 p2 p3)), .second, .val (.ref b2), .val (.ref b7), .val (.ref b_16), .val (.int (0 : Int32)), .val (.int (0 : Int32)), .val (.int (1 : Int32)), .val (.int (eqU p1 p1)), .val (.int (1 : Int32)), .unset] [(.ref b_16), (.ref b2)])) rfl (by rw [hml]; rfl) (Steps.refl _) (argsL := [(.ref b_16)]) (rest := []) (lenOf pd_4 rfl) rfl (by show 2 * 0 + _ ≤ _; exact Nat.le_of_eq rfl) (hb hby at_117) (fun _ _ => ⟨rfl, e85, (Nat.le_trans (Nat.add_le_add_right (Nat.add_le_add_right (Nat.add_le_add_right (Nat.add_le_add_right (Nat.add_le_add_right (Nat.add_le_add_right (Nat.add_le_add_right (Nat.add_le_add_right (Nat.add_le_add_right (Nat.add_le_add_right (Nat.add_le_add_right (Nat.le_refl 0) 0) 1) 0) 1) 0) 1) 0) 0) 0) 0) 0) (by decide)), (Nat.le_trans (Nat.add_le_add_right (Nat.add_le_add_right (Nat.add_le_add_right (Nat.add_le_add_right (Nat.add_le_add_right (Nat.add_le_add_right (Nat.add_le_add_right (Nat.add_le_add_right (Nat.add_le_add_right (Nat.add_le_add_right (Nat.add_le_add_right (Nat.le_refl 0) 0) 1) 0) 1) 0) 2) 0) 0) 0) 0) 0) (by decide))⟩)
          dsimp only [Pt.U, Pt.locs, Pt.cells, Pt.slots] at X87 l87 y87 z87 st87 hQ87
          subst l87 y87 z87
          obtain ⟨rfl, N87q, e87⟩ := hQ87
          have N87 := Fr.app N85 N87q
          refine Go.step (T' := T87) (f' := (mkF m 120 #[.val (.long p1), .second, .val (.long p2), .second, .val (.int p3), .val (.long (pick p1 p2 p3)), .second, .val (.ref b2), .val (.ref b7), .val (.ref b_16), .val (.int (0 : Int32)), .val (.int (0 : Int32)), .val (.int (1 : Int32)), .val (.int (eqU p1 p1)), .val (.int (1 : Int32)), .unset] [(.int (eqI ))])) (fun t kt => ?_) ?_
          · show Steps p.tables e below (T85.setTop (mkF m 106 #[.val (.long p1), .second, .val (.long p2), .second, .val (.int p3), .val (.long (pick p1 p2 p3)), .second, .val (.ref b2), .val (.ref b7), .val (.ref b_16), .val (.int (0 : Int32)), .val (.int (0 : Int32)), .val (.int (1 : Int32)), .val (.int (eqU p1 p1)), .unset, .unset] [])) _
            refine XS.iconst X85.here hx rfl (hb hby at_106) ?_
            show Steps p.tables e below (T85.setTop (mkF m 107 #[.val (.long p1), .second, .val (.long p2), .second, .val (.int p3), .val (.long (pick p1 p2 p3)), .second, .val (.ref b2), .val (.ref b7), .val (.ref b_16), .val (.int (0 : Int32)), .val (.int (0 : Int32)), .val (.int (1 : Int32)), .val (.int (eqU p1 p1)), .unset, .unset] [(.int (1 : Int32))])) _
            refine XS.goto X85.here hx rfl (pc0 := 107) (pc' := 111) rfl (hb hby at_107) (by decide) (by decide) ?_
            show Steps p.tables e below (T85.setTop (mkF m 111 #[.val (.long p1), .second, .val (.long p2), .second, .val (.int p3), .val (.long (pick p1 p2 p3)), .second, .val (.ref b2), .val (.ref b7), .val (.ref b_16), .val (.int (0 : Int32)), .val (.int (0 : Int32)), .val (.int (1 : Int32)), .val (.int (eqU p1 p1)), .unset, .unset] [(.int (1 : Int32))])) _
            refine XS.istore X85.here hx rfl (hb hby at_111) rfl (l' := #[.val (.long p1), .second, .val (.long p2), .second, .val (.int p3), .val (.long (pick p1 p2 p3)), .second, .val (.ref b2), .val (.ref b7), .val (.ref b_16), .val (.int (0 : Int32)), .val (.int (0 : Int32)), .val (.int (1 : Int32)), .val (.int (eqU p1 p1)), .val (.int (1 : Int32)), .unset]) rfl ?_
            show Steps p.tables e below (T85.setTop (mkF m 113 #[.val (.long p1), .second, .val (.long p2), .second, .val (.int p3), .val (.long (pick p1 p2 p3)), .second, .val (.ref b2), .val (.ref b7), .val (.ref b_16), .val (.int (0 : Int32)), .val (.int (0 : Int32)), .val (.int (1 : Int32)), .val (.int (eqU p1 p1)), .val (.int (1 : Int32)), .unset] [])) _
            refine XS.aload X85.here hx rfl (hb hby at_113) rfl rfl ?_
            show Steps p.tables e below (T85.setTop (mkF m 115 #[.val (.long p1), .second, .val (.long p2), .second, .val (.int p3), .val (.long (pick p1 p2 p3)), .second, .val (.ref b2), .val (.ref b7), .val (.ref b_16), .val (.int (0 : Int32)), .val (.int (0 : Int32)), .val (.int (1 : Int32)), .val (.int (eqU p1 p1)), .val (.int (1 : Int32)), .unset] [(.ref b2)])) _
            refine XS.aload X85.here hx rfl (hb hby at_115) rfl rfl ?_
            show Steps p.tables e below (T85.setTop (mkF m 117 #[.val (.long p1), .second, .val (.long p2), .second, .val (.int p3), .val (.long (pick p1 p2 p3)), .second, .val (.ref b2), .val (.ref b7), .val (.ref b_16), .val (.int (0 : Int32)), .val (.int (0 : Int32)), .val (.int (1 : Int32)), .val (.int (eqU p1 p1)), .val (.int (1 : Int32)), .unset] [(.ref b_16), (.ref b2)])) _
            refine st87.trans ?_
            exact kt
          by_cases hc88 : (eqI ) = (0 : Int32)
          · rw [if_pos hc88] at hf
            refine Go.step (T' := T87) (f' := (mkF m 123 #[.val (.long p1), .second, .val (.long p2), .second, .val (.int p3), .val (.long (pick p1 p2 p3)), .second, .val (.ref b2), .val (.ref b7), .val (.ref b_16), .val (.int (0 : Int32)), .val (.int (0 : Int32)), .val (.int (1 : Int32)), .val (.int (eqU p1 p1)), .val (.int (1 : Int32)), .unset] [])) (fun t kt => ?_) ?_
            · show Steps p.tables e below (T87.setTop (mkF m 120 #[.val (.long p1), .second, .val (.long p2), .second, .val (.int p3), .val (.long (pick p1 p2 p3)), .second, .val (.ref b2), .val (.ref b7), .val (.ref b_16), .val (.int (0 : Int32)), .val (.int (0 : Int32)), .val (.int (1 : Int32)), .val (.int (eqU p1 p1)), .val (.int (1 : Int32)), .unset] [(.int (eqI ))])) _
              refine XS.ifNo X87.here hx rfl (hb hby at_120) rfl ((if0 _ _).trans (teq hc88).2) ?_
              exact kt
            refine Go.step (T' := T87) (f' := (mkF m 160 #[.val (.long p1), .second, .val (.long p2), .second, .val (.int p3), .val (.long (pick p1 p2 p3)), .second, .val (.ref b2), .val (.ref b7), .val (.ref b_16), .val (.int (0 : Int32)), .val (.int (0 : Int32)), .val (.int (1 : Int32)), .val (.int (eqU p1 p1)), .val (.int (1 : Int32)), .val (.int (1 : Int32))] [(.int (0 : Int32))])) (fun t kt => ?_) ?_
            · show Steps p.tables e below (T87.setTop (mkF m 123 #[.val (.long p1), .second, .val (.long p2), .second, .val (.int p3), .val (.long (pick p1 p2 p3)), .second, .val (.ref b2), .val (.ref b7), .val (.ref b_16), .val (.int (0 : Int32)), .val (.int (0 : Int32)), .val (.int (1 : Int32)), .val (.int (eqU p1 p1)), .val (.int (1 : Int32)), .unset] [])) _
              refine XS.iconst X87.here hx rfl (hb hby at_123) ?_
              show Steps p.tables e below (T87.setTop (mkF m 124 #[.val (.long p1), .second, .val (.long p2), .second, .val (.int p3), .val (.long (pick p1 p2 p3)), .second, .val (.ref b2), .val (.ref b7), .val (.ref b_16), .val (.int (0 : Int32)), .val (.int (0 : Int32)), .val (.int (1 : Int32)), .val (.int (eqU p1 p1)), .val (.int (1 : Int32)), .unset] [(.int (1 : Int32))])) _
              refine XS.goto X87.here hx rfl (pc0 := 124) (pc' := 128) rfl (hb hby at_124) (by decide) (by decide) ?_
              show Steps p.tables e below (T87.setTop (mkF m 128 #[.val (.long p1), .second, .val (.long p2), .second, .val (.int p3), .val (.long (pick p1 p2 p3)), .second, .val (.ref b2), .val (.ref b7), .val (.ref b_16), .val (.int (0 : Int32)), .val (.int (0 : Int32)), .val (.int (1 : Int32)), .val (.int (eqU p1 p1)), .val (.int (1 : Int32)), .unset] [(.int (1 : Int32))])) _
              refine XS.istore X87.here hx rfl (hb hby at_128) rfl (l' := #[.val (.long p1), .second, .val (.long p2), .second, .val (.int p3), .val (.long (pick p1 p2 p3)), .second, .val (.ref b2), .val (.ref b7), .val (.ref b_16), .val (.int (0 : Int32)), .val (.int (0 : Int32)), .val (.int (1 : Int32)), .val (.int (eqU p1 p1)), .val (.int (1 : Int32)), .val (.int (1 : Int32))]) rfl ?_
              show Steps p.tables e below (T87.setTop (mkF m 130 #[.val (.long p1), .second, .val (.long p2), .second, .val (.int p3), .val (.long (pick p1 p2 p3)), .second, .val (.ref b2), .val (.ref b7), .val (.ref b_16), .val (.int (0 : Int32)), .val (.int (0 : Int32)), .val (.int (1 : Int32)), .val (.int (eqU p1 p1)), .val (.int (1 : Int32)), .val (.int (1 : Int32))] [])) _
              refine XS.iload X87.here hx rfl (hb hby at_130) rfl ?_
              show Steps p.tables e below (T87.setTop (mkF m 132 #[.val (.long p1), .second, .val (.long p2), .second, .val (.int p3), .val (.long (pick p1 p2 p3)), .second, .val (.ref b2), .val (.ref b7), .val (.ref b_16), .val (.int (0 : Int32)), .val (.int (0 : Int32)), .val (.int (1 : Int32)), .val (.int (eqU p1 p1)), .val (.int (1 : Int32)), .val (.int (1 : Int32))] [(.int (0 : Int32))])) _
              refine XS.ifYes X87.here hx rfl (pc0 := 132) (pc' := 159) rfl (hb hby at_132) rfl ((if0 _ _).trans (teq (by decide : ((0 : Int32) = (0 : Int32)))).1) (by decide) (by decide) ?_
              show Steps p.tables e below (T87.setTop (mkF m 159 #[.val (.long p1), .second, .val (.long p2), .second, .val (.int p3), .val (.long (pick p1 p2 p3)), .second, .val (.ref b2), .val (.ref b7), .val (.ref b_16), .val (.int (0 : Int32)), .val (.int (0 : Int32)), .val (.int (1 : Int32)), .val (.int (eqU p1 p1)), .val (.int (1 : Int32)), .val (.int (1 : Int32))] [])) _
              refine XS.iconst X87.here hx rfl (hb hby at_159) ?_
              exact kt
            refine Go.fin X87 (v := some (.int (0 : Int32))) (fun h => by rw [Bd.returns] at h; cases h) Bd.notSynchronized ?_ (Nat.le_trans (Nat.add_le_add_right (Nat.add_le_add_right (Nat.add_le_add_right (Nat.add_le_add_right (Nat.add_le_add_right (Nat.add_le_add_right (Nat.add_le_add_right (Nat.add_le_add_right (Nat.add_le_add_right (Nat.add_le_add_right (Nat.add_le_add_right (Nat.le_refl 0) 0) 1) 0) 1) 0) 1) 0) 0) 0) 0) 0) (by decide)) (Nat.le_trans (Nat.add_le_add_right (Nat.add_le_add_right (Nat.add_le_add_right (Nat.add_le_add_right (Nat.add_le_add_right (Nat.add_le_add_right (Nat.add_le_add_right (Nat.add_le_add_right (Nat.add_le_add_right (Nat.add_le_add_right (Nat.add_le_add_right (Nat.le_refl 0) 0) 1) 0) 1) 0) 2) 0) 0) 0) 0) 0) (by decide)) (fun fs hr => retN X87 hx (t := .boolean) Bd.returns (by simp) (hb hby at_160) hr)
            · exact ⟨by rw [hf], N87⟩
          · rw [if_neg hc88] at hf
            refine Go.step (T' := T87) (f' := (mkF m 127 #[.val (.long p1), .second, .val (.long p2), .second, .val (.int p3), .val (.long (pick p1 p2 p3)), .second, .val (.ref b2), .val (.ref b7), .val (.ref b_16), .val (.int (0 : Int32)), .val (.int (0 : Int32)), .val (.int (1 : Int32)), .val (.int (eqU p1 p1)), .val (.int (1 : Int32)), .unset] [])) (fun t kt => ?_) ?_
            · show Steps p.tables e below (T87.setTop (mkF m 120 #[.val (.long p1), .second, .val (.long p2), .second, .val (.int p3), .val (.long (pick p1 p2 p3)), .second, .val (.ref b2), .val (.ref b7), .val (.ref b_16), .val (.int (0 : Int32)), .val (.int (0 : Int32)), .val (.int (1 : Int32)), .val (.int (eqU p1 p1)), .val (.int (1 : Int32)), .unset] [(.int (eqI ))])) _
              refine XS.ifYes X87.here hx rfl (pc0 := 120) (pc' := 127) rfl (hb hby at_120) rfl ((if0 _ _).trans (feq hc88).2) (by decide) (by decide) ?_
              exact kt
            refine Go.step (T' := T87) (f' := (mkF m 160 #[.val (.long p1), .second, .val (.long p2), .second, .val (.int p3), .val (.long (pick p1 p2 p3)), .second, .val (.ref b2), .val (.ref b7), .val (.ref b_16), .val (.int (0 : Int32)), .val (.int (0 : Int32)), .val (.int (1 : Int32)), .val (.int (eqU p1 p1)), .val (.int (1 : Int32)), .val (.int (0 : Int32))] [(.int (0 : Int32))])) (fun t kt => ?_) ?_
            · show Steps p.tables e below (T87.setTop (mkF m 127 #[.val (.long p1), .second, .val (.long p2), .second, .val (.int p3), .val (.long (pick p1 p2 p3)), .second, .val (.ref b2), .val (.ref b7), .val (.ref b_16), .val (.int (0 : Int32)), .val (.int (0 : Int32)), .val (.int (1 : Int32)), .val (.int (eqU p1 p1)), .val (.int (1 : Int32)), .unset] [])) _
              refine XS.iconst X87.here hx rfl (hb hby at_127) ?_
              show Steps p.tables e below (T87.setTop (mkF m 128 #[.val (.long p1), .second, .val (.long p2), .second, .val (.int p3), .val (.long (pick p1 p2 p3)), .second, .val (.ref b2), .val (.ref b7), .val (.ref b_16), .val (.int (0 : Int32)), .val (.int (0 : Int32)), .val (.int (1 : Int32)), .val (.int (eqU p1 p1)), .val (.int (1 : Int32)), .unset] [(.int (0 : Int32))])) _
              refine XS.istore X87.here hx rfl (hb hby at_128) rfl (l' := #[.val (.long p1), .second, .val (.long p2), .second, .val (.int p3), .val (.long (pick p1 p2 p3)), .second, .val (.ref b2), .val (.ref b7), .val (.ref b_16), .val (.int (0 : Int32)), .val (.int (0 : Int32)), .val (.int (1 : Int32)), .val (.int (eqU p1 p1)), .val (.int (1 : Int32)), .val (.int (0 : Int32))]) rfl ?_
              show Steps p.tables e below (T87.setTop (mkF m 130 #[.val (.long p1), .second, .val (.long p2), .second, .val (.int p3), .val (.long (pick p1 p2 p3)), .second, .val (.ref b2), .val (.ref b7), .val (.ref b_16), .val (.int (0 : Int32)), .val (.int (0 : Int32)), .val (.int (1 : Int32)), .val (.int (eqU p1 p1)), .val (.int (1 : Int32)), .val (.int (0 : Int32))] [])) _
              refine XS.iload X87.here hx rfl (hb hby at_130) rfl ?_
              show Steps p.tables e below (T87.setTop (mkF m 132 #[.val (.long p1), .second, .val (.long p2), .second, .val (.int p3), .val (.long (pick p1 p2 p3)), .second, .val (.ref b2), .val (.ref b7), .val (.ref b_16), .val (.int (0 : Int32)), .val (.int (0 : Int32)), .val (.int (1 : Int32)), .val (.int (eqU p1 p1)), .val (.int (1 : Int32)), .val (.int (0 : Int32))] [(.int (0 : Int32))])) _
              refine XS.ifYes X87.here hx rfl (pc0 := 132) (pc' := 159) rfl (hb hby at_132) rfl ((if0 _ _).trans (teq (by decide : ((0 : Int32) = (0 : Int32)))).1) (by decide) (by decide) ?_
              show Steps p.tables e below (T87.setTop (mkF m 159 #[.val (.long p1), .second, .val (.long p2), .second, .val (.int p3), .val (.long (pick p1 p2 p3)), .second, .val (.ref b2), .val (.ref b7), .val (.ref b_16), .val (.int (0 : Int32)), .val (.int (0 : Int32)), .val (.int (1 : Int32)), .val (.int (eqU p1 p1)), .val (.int (1 : Int32)), .val (.int (0 : Int32))] [])) _
              refine XS.iconst X87.here hx rfl (hb hby at_159) ?_
              exact kt
            refine Go.fin X87 (v := some (.int (0 : Int32))) (fun h => by rw [Bd.returns] at h; cases h) Bd.notSynchronized ?_ (Nat.le_trans (Nat.add_le_add_right (Nat.add_le_add_right (Nat.add_le_add_right (Nat.add_le_add_right (Nat.add_le_add_right (Nat.add_le_add_right (Nat.add_le_add_right (Nat.add_le_add_right (Nat.add_le_add_right (Nat.add_le_add_right (Nat.add_le_add_right (Nat.le_refl 0) 0) 1) 0) 1) 0) 1) 0) 0) 0) 0) 0) (by decide)) (Nat.le_trans (Nat.add_le_add_right (Nat.add_le_add_right (Nat.add_le_add_right (Nat.add_le_add_right (Nat.add_le_add_right (Nat.add_le_add_right (Nat.add_le_add_right (Nat.add_le_add_right (Nat.add_le_add_right (Nat.add_le_add_right (Nat.add_le_add_right (Nat.le_refl 0) 0) 1) 0) 1) 0) 2) 0) 0) 0) 0) 0) (by decide)) (fun fs hr => retN X87 hx (t := .boolean) Bd.returns (by simp) (hb hby at_160) hr)
            · exact ⟨by rw [hf], N87⟩
        · rw [if_neg hc86] at hf
          refine Go.step (T' := T85) (f' := (mkF m 110 #[.val (.long p1), .second, .val (.long p2), .second, .val (.int p3), .val (.long (pick p1 p2 p3)), .second, .val (.ref b2), .val (.ref b7), .val (.ref b_16), .val (.int (0 : Int32)), .val (.int (0 : Int32)), .val (.int (1 : Int32)), .val (.int (eqU p1 p1)), .unset, .unset] [])) (fun t kt => ?_) ?_
          · show Steps p.tables e below (T85.setTop (mkF m 103 #[.val (.long p1), .second, .val (.long p2), .second, .val (.int p3), .val (.long (pick p1 p2 p3)), .second, .val (.ref b2), .val (.ref b7), .val (.ref b_16), .val (.int (0 : Int32)), .val (.int (0 : Int32)), .val (.int (1 : Int32)), .val (.int (eqU p1 p1)), .unset, .unset] [(.int (eqN ))])) _
            refine XS.ifYes X85.here hx rfl (pc0 := 103) (pc' := 110) rfl (hb hby at_103) rfl ((if0 _ _).trans (feq hc86).2) (by decide) (by decide) ?_
            exact kt
          obtain ⟨cq89, kq89, q89a, q89b, q89c⟩ := isOf hZ e85 (G17 : Exa Z T16.heap b2 "com/example/plumbline/plumbline/model/PlistUid")
          obtain ⟨_, _, ⟨T89, L89, k89, n89⟩, -, X89, ⟨Lc89, hQ89, l89, y89, z89⟩, st89⟩ := X85.virtualBack hx (y := (⟨"com/example/plumbline/plumbline/model/PlistUid", "equals", "(Ljava/lang/Object;)Z"⟩ : MethodName)) (z := (⟨"com/example/plumbline/plumbline/model/PlistUid", "equals", "(Ljava/lang/Object;)Z"⟩ : MethodName)) hown (mvT hZ (hw _ (List.mem_of_getElem? (i := 29) rfl))) (mvT hZ (hw _ (List.mem_of_getElem? (i := 30) rfl))) (notFace_of_selects (args := #[]) (mvT hZ (hw _ (List.mem_of_getElem? (i := 32) rfl)))) (mvT hZ (hw _ (List.mem_of_getElem? (i := 32) rfl))) (mvT hZ (hw _ (List.mem_of_getElem? (i := 31) rfl))) (by decide) (backOf (W := 0) (rm_eqI l Z a0 hw [] b2 b_16  T16.heap n0 Z16 pf16_0 ) hZ (hw _ (List.mem_of_getElem? (i := 33) rfl)) (hw _ (List.mem_of_getElem? (i := 6) rfl)) (by decide) (by decide)) q89a q89c (g := (mkF m 117 #[.val (.long p1), .second, .val (.long p2), .second, .val (.int p3), .val (.long (pick p1 p2 p3)), .second, .val (.ref b2), .val (.ref b7), .val (.ref b_16), .val (.int (0 : Int32)), .val (.int (0 : Int32)), .val (.int (1 : Int32)), .val (.int (eqU p1 p1)), .val (.int (0 : Int32)), .unset] [(.ref b_16), (.ref b2)])) rfl (by rw [hml]; rfl) (Steps.refl _) (argsL := [(.ref b_16)]) (rest := []) (lenOf pd_4 rfl) rfl (by show 2 * 0 + _ ≤ _; exact Nat.le_of_eq rfl) (hb hby at_117) (fun _ _ => ⟨rfl, e85, (Nat.le_trans (Nat.add_le_add_right (Nat.add_le_add_right (Nat.add_le_add_right (Nat.add_le_add_right (Nat.add_le_add_right (Nat.add_le_add_right (Nat.add_le_add_right (Nat.add_le_add_right (Nat.add_le_add_right (Nat.add_le_add_right (Nat.add_le_add_right (Nat.le_refl 0) 0) 1) 0) 1) 0) 1) 0) 0) 0) 0) 0) (by decide)), (Nat.le_trans (Nat.add_le_add_right (Nat.add_le_add_right (Nat.add_le_add_right (Nat.add_le_add_right (Nat.add_le_add_right (Nat.add_le_add_right (Nat.add_le_add_right (Nat.add_le_add_right (Nat.add_le_add_right (Nat.add_le_add_right (Nat.add_le_add_right (Nat.le_refl 0) 0) 1) 0) 1) 0) 2) 0) 0) 0) 0) 0) (by decide))⟩)
          dsimp only [Pt.U, Pt.locs, Pt.cells, Pt.slots] at X89 l89 y89 z89 st89 hQ89
          subst l89 y89 z89
          obtain ⟨rfl, N89q, e89⟩ := hQ89
          have N89 := Fr.app N85 N89q
          refine Go.step (T' := T89) (f' := (mkF m 120 #[.val (.long p1), .second, .val (.long p2), .second, .val (.int p3), .val (.long (pick p1 p2 p3)), .second, .val (.ref b2), .val (.ref b7), .val (.ref b_16), .val (.int (0 : Int32)), .val (.int (0 : Int32)), .val (.int (1 : Int32)), .val (.int (eqU p1 p1)), .val (.int (0 : Int32)), .unset] [(.int (eqI ))])) (fun t kt => ?_) ?_
          · show Steps p.tables e below (T85.setTop (mkF m 110 #[.val (.long p1), .second, .val (.long p2), .second, .val (.int p3), .val (.long (pick p1 p2 p3)), .second, .val (.ref b2), .val (.ref b7), .val (.ref b_16), .val (.int (0 : Int32)), .val (.int (0 : Int32)), .val (.int (1 : Int32)), .val (.int (eqU p1 p1)), .unset, .unset] [])) _
            refine XS.iconst X85.here hx rfl (hb hby at_110) ?_
            show Steps p.tables e below (T85.setTop (mkF m 111 #[.val (.long p1), .second, .val (.long p2), .second, .val (.int p3), .val (.long (pick p1 p2 p3)), .second, .val (.ref b2), .val (.ref b7), .val (.ref b_16), .val (.int (0 : Int32)), .val (.int (0 : Int32)), .val (.int (1 : Int32)), .val (.int (eqU p1 p1)), .unset, .unset] [(.int (0 : Int32))])) _
            refine XS.istore X85.here hx rfl (hb hby at_111) rfl (l' := #[.val (.long p1), .second, .val (.long p2), .second, .val (.int p3), .val (.long (pick p1 p2 p3)), .second, .val (.ref b2), .val (.ref b7), .val (.ref b_16), .val (.int (0 : Int32)), .val (.int (0 : Int32)), .val (.int (1 : Int32)), .val (.int (eqU p1 p1)), .val (.int (0 : Int32)), .unset]) rfl ?_
            show Steps p.tables e below (T85.setTop (mkF m 113 #[.val (.long p1), .second, .val (.long p2), .second, .val (.int p3), .val (.long (pick p1 p2 p3)), .second, .val (.ref b2), .val (.ref b7), .val (.ref b_16), .val (.int (0 : Int32)), .val (.int (0 : Int32)), .val (.int (1 : Int32)), .val (.int (eqU p1 p1)), .val (.int (0 : Int32)), .unset] [])) _
            refine XS.aload X85.here hx rfl (hb hby at_113) rfl rfl ?_
            show Steps p.tables e below (T85.setTop (mkF m 115 #[.val (.long p1), .second, .val (.long p2), .second, .val (.int p3), .val (.long (pick p1 p2 p3)), .second, .val (.ref b2), .val (.ref b7), .val (.ref b_16), .val (.int (0 : Int32)), .val (.int (0 : Int32)), .val (.int (1 : Int32)), .val (.int (eqU p1 p1)), .val (.int (0 : Int32)), .unset] [(.ref b2)])) _
            refine XS.aload X85.here hx rfl (hb hby at_115) rfl rfl ?_
            show Steps p.tables e below (T85.setTop (mkF m 117 #[.val (.long p1), .second, .val (.long p2), .second, .val (.int p3), .val (.long (pick p1 p2 p3)), .second, .val (.ref b2), .val (.ref b7), .val (.ref b_16), .val (.int (0 : Int32)), .val (.int (0 : Int32)), .val (.int (1 : Int32)), .val (.int (eqU p1 p1)), .val (.int (0 : Int32)), .unset] [(.ref b_16), (.ref b2)])) _
            refine st89.trans ?_
            exact kt
          by_cases hc90 : (eqI ) = (0 : Int32)
          · rw [if_pos hc90] at hf
            refine Go.step (T' := T89) (f' := (mkF m 123 #[.val (.long p1), .second, .val (.long p2), .second, .val (.int p3), .val (.long (pick p1 p2 p3)), .second, .val (.ref b2), .val (.ref b7), .val (.ref b_16), .val (.int (0 : Int32)), .val (.int (0 : Int32)), .val (.int (1 : Int32)), .val (.int (eqU p1 p1)), .val (.int (0 : Int32)), .unset] [])) (fun t kt => ?_) ?_
            · show Steps p.tables e below (T89.setTop (mkF m 120 #[.val (.long p1), .second, .val (.long p2), .second, .val (.int p3), .val (.long (pick p1 p2 p3)), .second, .val (.ref b2), .val (.ref b7), .val (.ref b_16), .val (.int (0 : Int32)), .val (.int (0 : Int32)), .val (.int (1 : Int32)), .val (.int (eqU p1 p1)), .val (.int (0 : Int32)), .unset] [(.int (eqI ))])) _
              refine XS.ifNo X89.here hx rfl (hb hby at_120) rfl ((if0 _ _).trans (teq hc90).2) ?_
              exact kt
            refine Go.step (T' := T89) (f' := (mkF m 160 #[.val (.long p1), .second, .val (.long p2), .second, .val (.int p3), .val (.long (pick p1 p2 p3)), .second, .val (.ref b2), .val (.ref b7), .val (.ref b_16), .val (.int (0 : Int32)), .val (.int (0 : Int32)), .val (.int (1 : Int32)), .val (.int (eqU p1 p1)), .val (.int (0 : Int32)), .val (.int (1 : Int32))] [(.int (0 : Int32))])) (fun t kt => ?_) ?_
            · show Steps p.tables e below (T89.setTop (mkF m 123 #[.val (.long p1), .second, .val (.long p2), .second, .val (.int p3), .val (.long (pick p1 p2 p3)), .second, .val (.ref b2), .val (.ref b7), .val (.ref b_16), .val (.int (0 : Int32)), .val (.int (0 : Int32)), .val (.int (1 : Int32)), .val (.int (eqU p1 p1)), .val (.int (0 : Int32)), .unset] [])) _
              refine XS.iconst X89.here hx rfl (hb hby at_123) ?_
              show Steps p.tables e below (T89.setTop (mkF m 124 #[.val (.long p1), .second, .val (.long p2), .second, .val (.int p3), .val (.long (pick p1 p2 p3)), .second, .val (.ref b2), .val (.ref b7), .val (.ref b_16), .val (.int (0 : Int32)), .val (.int (0 : Int32)), .val (.int (1 : Int32)), .val (.int (eqU p1 p1)), .val (.int (0 : Int32)), .unset] [(.int (1 : Int32))])) _
              refine XS.goto X89.here hx rfl (pc0 := 124) (pc' := 128) rfl (hb hby at_124) (by decide) (by decide) ?_
              show Steps p.tables e below (T89.setTop (mkF m 128 #[.val (.long p1), .second, .val (.long p2), .second, .val (.int p3), .val (.long (pick p1 p2 p3)), .second, .val (.ref b2), .val (.ref b7), .val (.ref b_16), .val (.int (0 : Int32)), .val (.int (0 : Int32)), .val (.int (1 : Int32)), .val (.int (eqU p1 p1)), .val (.int (0 : Int32)), .unset] [(.int (1 : Int32))])) _
              refine XS.istore X89.here hx rfl (hb hby at_128) rfl (l' := #[.val (.long p1), .second, .val (.long p2), .second, .val (.int p3), .val (.long (pick p1 p2 p3)), .second, .val (.ref b2), .val (.ref b7), .val (.ref b_16), .val (.int (0 : Int32)), .val (.int (0 : Int32)), .val (.int (1 : Int32)), .val (.int (eqU p1 p1)), .val (.int (0 : Int32)), .val (.int (1 : Int32))]) rfl ?_
              show Steps p.tables e below (T89.setTop (mkF m 130 #[.val (.long p1), .second, .val (.long p2), .second, .val (.int p3), .val (.long (pick p1 p2 p3)), .second, .val (.ref b2), .val (.ref b7), .val (.ref b_16), .val (.int (0 : Int32)), .val (.int (0 : Int32)), .val (.int (1 : Int32)), .val (.int (eqU p1 p1)), .val (.int (0 : Int32)), .val (.int (1 : Int32))] [])) _
              refine XS.iload X89.here hx rfl (hb hby at_130) rfl ?_
              show Steps p.tables e below (T89.setTop (mkF m 132 #[.val (.long p1), .second, .val (.long p2), .second, .val (.int p3), .val (.long (pick p1 p2 p3)), .second, .val (.ref b2), .val (.ref b7), .val (.ref b_16), .val (.int (0 : Int32)), .val (.int (0 : Int32)), .val (.int (1 : Int32)), .val (.int (eqU p1 p1)), .val (.int (0 : Int32)), .val (.int (1 : Int32))] [(.int (0 : Int32))])) _
              refine XS.ifYes X89.here hx rfl (pc0 := 132) (pc' := 159) rfl (hb hby at_132) rfl ((if0 _ _).trans (teq (by decide : ((0 : Int32) = (0 : Int32)))).1) (by decide) (by decide) ?_
              show Steps p.tables e below (T89.setTop (mkF m 159 #[.val (.long p1), .second, .val (.long p2), .second, .val (.int p3), .val (.long (pick p1 p2 p3)), .second, .val (.ref b2), .val (.ref b7), .val (.ref b_16), .val (.int (0 : Int32)), .val (.int (0 : Int32)), .val (.int (1 : Int32)), .val (.int (eqU p1 p1)), .val (.int (0 : Int32)), .val (.int (1 : Int32))] [])) _
              refine XS.iconst X89.here hx rfl (hb hby at_159) ?_
              exact kt
            refine Go.fin X89 (v := some (.int (0 : Int32))) (fun h => by rw [Bd.returns] at h; cases h) Bd.notSynchronized ?_ (Nat.le_trans (Nat.add_le_add_right (Nat.add_le_add_right (Nat.add_le_add_right (Nat.add_le_add_right (Nat.add_le_add_right (Nat.add_le_add_right (Nat.add_le_add_right (Nat.add_le_add_right (Nat.add_le_add_right (Nat.add_le_add_right (Nat.add_le_add_right (Nat.le_refl 0) 0) 1) 0) 1) 0) 1) 0) 0) 0) 0) 0) (by decide)) (Nat.le_trans (Nat.add_le_add_right (Nat.add_le_add_right (Nat.add_le_add_right (Nat.add_le_add_right (Nat.add_le_add_right (Nat.add_le_add_right (Nat.add_le_add_right (Nat.add_le_add_right (Nat.add_le_add_right (Nat.add_le_add_right (Nat.add_le_add_right (Nat.le_refl 0) 0) 1) 0) 1) 0) 2) 0) 0) 0) 0) 0) (by decide)) (fun fs hr => retN X89 hx (t := .boolean) Bd.returns (by simp) (hb hby at_160) hr)
            · exact ⟨by rw [hf], N89⟩
          · rw [if_neg hc90] at hf
            refine Go.step (T' := T89) (f' := (mkF m 127 #[.val (.long p1), .second, .val (.long p2), .second, .val (.int p3), .val (.long (pick p1 p2 p3)), .second, .val (.ref b2), .val (.ref b7), .val (.ref b_16), .val (.int (0 : Int32)), .val (.int (0 : Int32)), .val (.int (1 : Int32)), .val (.int (eqU p1 p1)), .val (.int (0 : Int32)), .unset] [])) (fun t kt => ?_) ?_
            · show Steps p.tables e below (T89.setTop (mkF m 120 #[.val (.long p1), .second, .val (.long p2), .second, .val (.int p3), .val (.long (pick p1 p2 p3)), .second, .val (.ref b2), .val (.ref b7), .val (.ref b_16), .val (.int (0 : Int32)), .val (.int (0 : Int32)), .val (.int (1 : Int32)), .val (.int (eqU p1 p1)), .val (.int (0 : Int32)), .unset] [(.int (eqI ))])) _
              refine XS.ifYes X89.here hx rfl (pc0 := 120) (pc' := 127) rfl (hb hby at_120) rfl ((if0 _ _).trans (feq hc90).2) (by decide) (by decide) ?_
              exact kt
            refine Go.step (T' := T89) (f' := (mkF m 160 #[.val (.long p1), .second, .val (.long p2), .second, .val (.int p3), .val (.long (pick p1 p2 p3)), .second, .val (.ref b2), .val (.ref b7), .val (.ref b_16), .val (.int (0 : Int32)), .val (.int (0 : Int32)), .val (.int (1 : Int32)), .val (.int (eqU p1 p1)), .val (.int (0 : Int32)), .val (.int (0 : Int32))] [(.int (0 : Int32))])) (fun t kt => ?_) ?_
            · show Steps p.tables e below (T89.setTop (mkF m 127 #[.val (.long p1), .second, .val (.long p2), .second, .val (.int p3), .val (.long (pick p1 p2 p3)), .second, .val (.ref b2), .val (.ref b7), .val (.ref b_16), .val (.int (0 : Int32)), .val (.int (0 : Int32)), .val (.int (1 : Int32)), .val (.int (eqU p1 p1)), .val (.int (0 : Int32)), .unset] [])) _
              refine XS.iconst X89.here hx rfl (hb hby at_127) ?_
              show Steps p.tables e below (T89.setTop (mkF m 128 #[.val (.long p1), .second, .val (.long p2), .second, .val (.int p3), .val (.long (pick p1 p2 p3)), .second, .val (.ref b2), .val (.ref b7), .val (.ref b_16), .val (.int (0 : Int32)), .val (.int (0 : Int32)), .val (.int (1 : Int32)), .val (.int (eqU p1 p1)), .val (.int (0 : Int32)), .unset] [(.int (0 : Int32))])) _
              refine XS.istore X89.here hx rfl (hb hby at_128) rfl (l' := #[.val (.long p1), .second, .val (.long p2), .second, .val (.int p3), .val (.long (pick p1 p2 p3)), .second, .val (.ref b2), .val (.ref b7), .val (.ref b_16), .val (.int (0 : Int32)), .val (.int (0 : Int32)), .val (.int (1 : Int32)), .val (.int (eqU p1 p1)), .val (.int (0 : Int32)), .val (.int (0 : Int32))]) rfl ?_
              show Steps p.tables e below (T89.setTop (mkF m 130 #[.val (.long p1), .second, .val (.long p2), .second, .val (.int p3), .val (.long (pick p1 p2 p3)), .second, .val (.ref b2), .val (.ref b7), .val (.ref b_16), .val (.int (0 : Int32)), .val (.int (0 : Int32)), .val (.int (1 : Int32)), .val (.int (eqU p1 p1)), .val (.int (0 : Int32)), .val (.int (0 : Int32))] [])) _
              refine XS.iload X89.here hx rfl (hb hby at_130) rfl ?_
              show Steps p.tables e below (T89.setTop (mkF m 132 #[.val (.long p1), .second, .val (.long p2), .second, .val (.int p3), .val (.long (pick p1 p2 p3)), .second, .val (.ref b2), .val (.ref b7), .val (.ref b_16), .val (.int (0 : Int32)), .val (.int (0 : Int32)), .val (.int (1 : Int32)), .val (.int (eqU p1 p1)), .val (.int (0 : Int32)), .val (.int (0 : Int32))] [(.int (0 : Int32))])) _
              refine XS.ifYes X89.here hx rfl (pc0 := 132) (pc' := 159) rfl (hb hby at_132) rfl ((if0 _ _).trans (teq (by decide : ((0 : Int32) = (0 : Int32)))).1) (by decide) (by decide) ?_
              show Steps p.tables e below (T89.setTop (mkF m 159 #[.val (.long p1), .second, .val (.long p2), .second, .val (.int p3), .val (.long (pick p1 p2 p3)), .second, .val (.ref b2), .val (.ref b7), .val (.ref b_16), .val (.int (0 : Int32)), .val (.int (0 : Int32)), .val (.int (1 : Int32)), .val (.int (eqU p1 p1)), .val (.int (0 : Int32)), .val (.int (0 : Int32))] [])) _
              refine XS.iconst X89.here hx rfl (hb hby at_159) ?_
              exact kt
            refine Go.fin X89 (v := some (.int (0 : Int32))) (fun h => by rw [Bd.returns] at h; cases h) Bd.notSynchronized ?_ (Nat.le_trans (Nat.add_le_add_right (Nat.add_le_add_right (Nat.add_le_add_right (Nat.add_le_add_right (Nat.add_le_add_right (Nat.add_le_add_right (Nat.add_le_add_right (Nat.add_le_add_right (Nat.add_le_add_right (Nat.add_le_add_right (Nat.add_le_add_right (Nat.le_refl 0) 0) 1) 0) 1) 0) 1) 0) 0) 0) 0) 0) (by decide)) (Nat.le_trans (Nat.add_le_add_right (Nat.add_le_add_right (Nat.add_le_add_right (Nat.add_le_add_right (Nat.add_le_add_right (Nat.add_le_add_right (Nat.add_le_add_right (Nat.add_le_add_right (Nat.add_le_add_right (Nat.add_le_add_right (Nat.add_le_add_right (Nat.le_refl 0) 0) 1) 0) 1) 0) 2) 0) 0) 0) 0) 0) (by decide)) (fun fs hr => retN X89 hx (t := .boolean) Bd.returns (by simp) (hb hby at_160) hr)
            · exact ⟨by rw [hf], N89⟩
      · rw [if_neg hc83] at hf
        refine Go.step (T' := T82) (f' := (mkF m 85 #[.val (.long p1), .second, .val (.long p2), .second, .val (.int p3), .val (.long (pick p1 p2 p3)), .second, .val (.ref b2), .val (.ref b7), .val (.ref b_16), .val (.int (0 : Int32)), .val (.int (0 : Int32)), .unset, .unset, .unset, .unset] [])) (fun t kt => ?_) ?_
        · show Steps p.tables e below (T82.setTop (mkF m 78 #[.val (.long p1), .second, .val (.long p2), .second, .val (.int p3), .val (.long (pick p1 p2 p3)), .second, .val (.ref b2), .val (.ref b7), .val (.ref b_16), .val (.int (0 : Int32)), .val (.int (0 : Int32)), .unset, .unset, .unset, .unset] [(.int (0 : Int32)), (.int (eqU (pick p1 p2 p3) p1))])) _
          refine XS.icmpYes X82.here hx rfl (pc0 := 78) (pc' := 85) rfl (hb hby at_78) rfl (feq hc83).2 (by decide) (by decide) ?_
          exact kt
        obtain ⟨cq91, kq91, q91a, q91b, q91c⟩ := isOf hZ e82 (G17 : Exa Z T16.heap b2 "com/example/plumbline/plumbline/model/PlistUid")
        obtain ⟨_, _, ⟨T91, L91, k91, n91⟩, -, X91, ⟨Lc91, hQ91, l91, y91, z91⟩, st91⟩ := X82.virtualBack hx (y := (⟨"com/example/plumbline/plumbline/model/PlistUid", "equals", "(Ljava/lang/Object;)Z"⟩ : MethodName)) (z := (⟨"com/example/plumbline/plumbline/model/PlistUid", "equals", "(Ljava/lang/Object;)Z"⟩ : MethodName)) hown (mvT hZ (hw _ (List.mem_of_getElem? (i := 29) rfl))) (mvT hZ (hw _ (List.mem_of_getElem? (i := 30) rfl))) (notFace_of_selects (args := #[]) (mvT hZ (hw _ (List.mem_of_getElem? (i := 32) rfl)))) (mvT hZ (hw _ (List.mem_of_getElem? (i := 32) rfl))) (mvT hZ (hw _ (List.mem_of_getElem? (i := 31) rfl))) (by decide) (backOf (W := 0) (rm_eqU l Z a0 hw [] b2 b2 p1 p1 T16.heap n0 Z16 G17 G18 G18 ) hZ (hw _ (List.mem_of_getElem? (i := 33) rfl)) (hw _ (List.mem_of_getElem? (i := 6) rfl)) (by decide) (by decide)) q91a q91c (g := (mkF m 92 #[.val (.long p1), .second, .val (.long p2), .second, .val (.int p3), .val (.long (pick p1 p2 p3)), .second, .val (.ref b2), .val (.ref b7), .val (.ref b_16), .val (.int (0 : Int32)), .val (.int (0 : Int32)), .val (.int (0 : Int32)), .unset, .unset, .unset] [(.ref b2), (.ref b2)])) rfl (by rw [hml]; rfl) (Steps.refl _) (argsL := [(.ref b2)]) (rest := []) (lenOf pd_4 rfl) rfl (by show 2 * 0 + _ ≤ _; exact Nat.le_of_eq rfl) (hb hby at_92) (fun _ _ => ⟨rfl, e82, (Nat.le_trans (Nat.add_le_add_right (Nat.add_le_add_right (Nat.add_le_add_right (Nat.add_le_add_right (Nat.add_le_add_right (Nat.add_le_add_right (Nat.add_le_add_right (Nat.add_le_add_right (Nat.add_le_add_right (Nat.le_refl 0) 0) 1) 0) 1) 0) 1) 0) 0) 0) (by decide)), (Nat.le_trans (Nat.add_le_add_right (Nat.add_le_add_right (Nat.add_le_add_right (Nat.add_le_add_right (Nat.add_le_add_right (Nat.add_le_add_right (Nat.add_le_add_right (Nat.add_le_add_right (Nat.add_le_add_right (Nat.le_refl 0) 0) 1) 0) 1) 0) 2) 0) 0) 0) (by decide))⟩)
        dsimp only [Pt.U, Pt.locs, Pt.cells, Pt.slots] at X91 l91 y91 z91 st91 hQ91
        subst l91 y91 z91
        obtain ⟨rfl, N91q, e91⟩ := hQ91
        have N91 := Fr.app N82 N91q
        obtain ⟨cq92, kq92, q92a, q92b, q92c⟩ := isOf hZ e91 (G17 : Exa Z T16.heap b2 "com/example/plumbline/plumbline/model/PlistUid")
        obtain ⟨_, _, ⟨T92, L92, k92, n92⟩, -, X92, ⟨Lc92, hQ92, l92, y92, z92⟩, st92⟩ := X91.virtualBack hx (y := (⟨"com/example/plumbline/plumbline/model/PlistUid", "equals", "(Ljava/lang/Object;)Z"⟩ : MethodName)) (z := (⟨"com/example/plumbline/plumbline/model/PlistUid", "equals", "(Ljava/lang/Object;)Z"⟩ : MethodName)) hown (mvT hZ (hw _ (List.mem_of_getElem? (i := 29) rfl))) (mvT hZ (hw _ (List.mem_of_getElem? (i := 30) rfl))) (notFace_of_selects (args := #[]) (mvT hZ (hw _ (List.mem_of_getElem? (i := 32) rfl)))) (mvT hZ (hw _ (List.mem_of_getElem? (i := 32) rfl))) (mvT hZ (hw _ (List.mem_of_getElem? (i := 31) rfl))) (by decide) (backOf (W := 0) (rm_eqN l Z a0 hw [] b2  T16.heap n0 Z16  ) hZ (hw _ (List.mem_of_getElem? (i := 33) rfl)) (hw _ (List.mem_of_getElem? (i := 6) rfl)) (by decide) (by decide)) q92a q92c (g := (mkF m 100 #[.val (.long p1), .second, .val (.long p2), .second, .val (.int p3), .val (.long (pick p1 p2 p3)), .second, .val (.ref b2), .val (.ref b7), .val (.ref b_16), .val (.int (0 : Int32)), .val (.int (0 : Int32)), .val (.int (0 : Int32)), .val (.int (eqU p1 p1)), .unset, .unset] [.null, (.ref b2)])) rfl (by rw [hml]; rfl) (Steps.refl _) (argsL := [.null]) (rest := []) (lenOf pd_4 rfl) rfl (by show 2 * 0 + _ ≤ _; exact Nat.le_of_eq rfl) (hb hby at_100) (fun _ _ => ⟨rfl, e91, (Nat.le_trans (Nat.add_le_add_right (Nat.add_le_add_right (Nat.add_le_add_right (Nat.add_le_add_right (Nat.add_le_add_right (Nat.add_le_add_right (Nat.add_le_add_right (Nat.add_le_add_right (Nat.add_le_add_right (Nat.add_le_add_right (Nat.le_refl 0) 0) 1) 0) 1) 0) 1) 0) 0) 0) 0) (by decide)), (Nat.le_trans (Nat.add_le_add_right (Nat.add_le_add_right (Nat.add_le_add_right (Nat.add_le_add_right (Nat.add_le_add_right (Nat.add_le_add_right (Nat.add_le_add_right (Nat.add_le_add_right (Nat.add_le_add_right (Nat.add_le_add_right (Nat.le_refl 0) 0) 1) 0) 1) 0) 2) 0) 0) 0) 0) (by decide))⟩)
        dsimp only [Pt.U, Pt.locs, Pt.cells, Pt.slots] at X92 l92 y92 z92 st92 hQ92
        subst l92 y92 z92
        obtain ⟨rfl, N92q, e92⟩ := hQ92
        have N92 := Fr.app N91 N92q
        refine Go.step (T' := T92) (f' := (mkF m 103 #[.val (.long p1), .second, .val (.long p2), .second, .val (.int p3), .val (.long (pick p1 p2 p3)), .second, .val (.ref b2), .val (.ref b7), .val (.ref b_16), .val (.int (0 : Int32)), .val (.int (0 : Int32)), .val (.int (0 : Int32)), .val (.int (eqU p1 p1)), .unset, .unset] [(.int (eqN ))])) (fun t kt => ?_) ?_
        · show Steps p.tables e below (T82.setTop (mkF m 85 #[.val (.long p1), .second, .val (.long p2), .second, .val (.int p3), .val (.long (pick p1 p2 p3)), .second, .val (.ref b2), .val (.ref b7), .val (.ref b_16), .val (.int (0 : Int32)), .val (.int (0 : Int32)), .unset, .unset, .unset, .unset] [])) _
          refine XS.iconst X82.here hx rfl (hb hby at_85) ?_
          show Steps p.tables e below (T82.setTop (mkF m 86 #[.val (.long p1), .second, .val (.long p2), .second, .val (.int p3), .val (.long (pick p1 p2 p3)), .second, .val (.ref b2), .val (.ref b7), .val (.ref b_16), .val (.int (0 : Int32)), .val (.int (0 : Int32)), .unset, .unset, .unset, .unset] [(.int (0 : Int32))])) _
          refine XS.istore X82.here hx rfl (hb hby at_86) rfl (l' := #[.val (.long p1), .second, .val (.long p2), .second, .val (.int p3), .val (.long (pick p1 p2 p3)), .second, .val (.ref b2), .val (.ref b7), .val (.ref b_16), .val (.int (0 : Int32)), .val (.int (0 : Int32)), .val (.int (0 : Int32)), .unset, .unset, .unset]) rfl ?_
          show Steps p.tables e below (T82.setTop (mkF m 88 #[.val (.long p1), .second, .val (.long p2), .second, .val (.int p3), .val (.long (pick p1 p2 p3)), .second, .val (.ref b2), .val (.ref b7), .val (.ref b_16), .val (.int (0 : Int32)), .val (.int (0 : Int32)), .val (.int (0 : Int32)), .unset, .unset, .unset] [])) _
          refine XS.aload X82.here hx rfl (hb hby at_88) rfl rfl ?_
          show Steps p.tables e below (T82.setTop (mkF m 90 #[.val (.long p1), .second, .val (.long p2), .second, .val (.int p3), .val (.long (pick p1 p2 p3)), .second, .val (.ref b2), .val (.ref b7), .val (.ref b_16), .val (.int (0 : Int32)), .val (.int (0 : Int32)), .val (.int (0 : Int32)), .unset, .unset, .unset] [(.ref b2)])) _
          refine XS.aload X82.here hx rfl (hb hby at_90) rfl rfl ?_
          show Steps p.tables e below (T82.setTop (mkF m 92 #[.val (.long p1), .second, .val (.long p2), .second, .val (.int p3), .val (.long (pick p1 p2 p3)), .second, .val (.ref b2), .val (.ref b7), .val (.ref b_16), .val (.int (0 : Int32)), .val (.int (0 : Int32)), .val (.int (0 : Int32)), .unset, .unset, .unset] [(.ref b2), (.ref b2)])) _
          refine st91.trans ?_
          show Steps p.tables e below (T91.setTop (mkF m 95 #[.val (.long p1), .second, .val (.long p2), .second, .val (.int p3), .val (.long (pick p1 p2 p3)), .second, .val (.ref b2), .val (.ref b7), .val (.ref b_16), .val (.int (0 : Int32)), .val (.int (0 : Int32)), .val (.int (0 : Int32)), .unset, .unset, .unset] [(.int (eqU p1 p1))])) _
          refine XS.istore X91.here hx rfl (hb hby at_95) rfl (l' := #[.val (.long p1), .second, .val (.long p2), .second, .val (.int p3), .val (.long (pick p1 p2 p3)), .second, .val (.ref b2), .val (.ref b7), .val (.ref b_16), .val (.int (0 : Int32)), .val (.int (0 : Int32)), .val (.int (0 : Int32)), .val (.int (eqU p1 p1)), .unset, .unset]) rfl ?_
          show Steps p.tables e below (T91.setTop (mkF m 97 #[.val (.long p1), .second, .val (.long p2), .second, .val (.int p3), .val (.long (pick p1 p2 p3)), .second, .val (.ref b2), .val (.ref b7), .val (.ref b_16), .val (.int (0 : Int32)), .val (.int (0 : Int32)), .val (.int (0 : Int32)), .val (.int (eqU p1 p1)), .unset, .unset] [])) _
          refine XS.aload X91.here hx rfl (hb hby at_97) rfl rfl ?_
          show Steps p.tables e below (T91.setTop (mkF m 99 #[.val (.long p1), .second, .val (.long p2), .second, .val (.int p3), .val (.long (pick p1 p2 p3)), .second, .val (.ref b2), .val (.ref b7), .val (.ref b_16), .val (.int (0 : Int32)), .val (.int (0 : Int32)), .val (.int (0 : Int32)), .val (.int (eqU p1 p1)), .unset, .unset] [(.ref b2)])) _
          refine XS.aconstNull X91.here hx rfl (hb hby at_99) ?_
          show Steps p.tables e below (T91.setTop (mkF m 100 #[.val (.long p1), .second, .val (.long p2), .second, .val (.int p3), .val (.long (pick p1 p2 p3)), .second, .val (.ref b2), .val (.ref b7), .val (.ref b_16), .val (.int (0 : Int32)), .val (.int (0 : Int32)), .val (.int (0 : Int32)), .val (.int (eqU p1 p1)), .unset, .unset] [.null, (.ref b2)])) _
          refine st92.trans ?_
          exact kt
        by_cases hc93 : (eqN ) = (0 : Int32)
        · rw [if_pos hc93] at hf
          refine Go.step (T' := T92) (f' := (mkF m 106 #[.val (.long p1), .second, .val (.long p2), .second, .val (.int p3), .val (.long (pick p1 p2 p3)), .second, .val (.ref b2), .val (.ref b7), .val (.ref b_16), .val (.int (0 : Int32)), .val (.int (0 : Int32)), .val (.int (0 : Int32)), .val (.int (eqU p1 p1)), .unset, .unset] [])) (fun t kt => ?_) ?_
          · show Steps p.tables e below (T92.setTop (mkF m 103 #[.val (.long p1), .second, .val (.long p2), .second, .val (.int p3), .val (.long (pick p1 p2 p3)), .second, .val (.ref b2), .val (.ref b7), .val (.ref b_16), .val (.int (0 : Int32)), .val (.int (0 : Int32)), .val (.int (0 : Int32)), .val (.int (eqU p1 p1)), .unset, .unset] [(.int (eqN ))])) _
            refine XS.ifNo X92.here hx rfl (hb hby at_103) rfl ((if0 _ _).trans (teq hc93).2) ?_
            exact kt
          obtain ⟨cq94, kq94, q94a, q94b, q94c⟩ := isOf hZ e92 (G17 : Exa Z T16.heap b2 "com/example/plumbline/plumbline/model/PlistUid")
          obtain ⟨_, _, ⟨T94, L94, k94, n94⟩, -, X94, ⟨Lc94, hQ94, l94, y94, z94⟩, st94⟩ := X92.virtualBack hx (y := (⟨"com/example/plumbline/plumbline/model/PlistUid", "equals", "(Ljava/lang/Object;)Z"⟩ : MethodName)) (z := (⟨"com/example/plumbline/plumbline/model/PlistUid", "equals", "(Ljava/lang/Object;)Z"⟩ : MethodName)) hown (mvT hZ (hw _ (List.mem_of_getElem? (i := 29) rfl))) (mvT hZ (hw _ (List.mem_of_getElem? (i := 30) rfl))) (notFace_of_selects (args := #[]) (mvT hZ (hw _ (List.mem_of_getElem? (i := 32) rfl)))) (mvT hZ (hw _ (List.mem_of_getElem? (i := 32) rfl))) (mvT hZ (hw _ (List.mem_of_getElem? (i := 31) rfl))) (by decide) (backOf (W := 0) (rm_eqI l Z a0 hw [] b2 b_16  T16.heap n0 Z16 pf16_0 ) hZ (hw _ (List.mem_of_getElem? (i := 33) rfl)) (hw _ (List.mem_of_getElem? (i := 6) rfl)) (by decide) (by decide)) q94a q94c (g := (mkF m 117 #[.val (.long p1), .second, .val (.long p2), .second, .val (.int p3), .val (.long (pick p1 p2 p3)), .second, .val (.ref b2), .val (.ref b7), .val (.ref b_16), .val (.int (0 : Int32)), .val (.int (0 : Int32)), .val (.int (0 : Int32)), .val (.int (eqU p1 p1)), .val (.int (1 : Int32)), .unset] [(.ref b_16), (.ref b2)])) rfl (by rw [hml]; rfl) (Steps.refl _) (argsL := [(.ref b_16)]) (rest := []) (lenOf pd_4 rfl) rfl (by show 2 * 0 + _ ≤ _; exact Nat.le_of_eq rfl) (hb hby at_117) (fun _ _ => ⟨rfl, e92, (Nat.le_trans (Nat.add_le_add_right (Nat.add_le_add_right (Nat.add_le_add_right (Nat.add_le_add_right (Nat.add_le_add_right (Nat.add_le_add_right (Nat.add_le_add_right (Nat.add_le_add_right (Nat.add_le_add_right (Nat.add_le_add_right (Nat.add_le_add_right (Nat.le_refl 0) 0) 1) 0) 1) 0) 1) 0) 0) 0) 0) 0) (by decide)), (Nat.le_trans (Nat.add_le_add_right (Nat.add_le_add_right (Nat.add_le_add_right (Nat.add_le_add_right (Nat.add_le_add_right (Nat.add_le_add_right (Nat.add_le_add_right (Nat.add_le_add_right (Nat.add_le_add_right (Nat.add_le_add_right (Nat.add_le_add_right (Nat.le_refl 0) 0) 1) 0) 1) 0) 2) 0) 0) 0) 0) 0) (by decide))⟩)
          dsimp only [Pt.U, Pt.locs, Pt.cells, Pt.slots] at X94 l94 y94 z94 st94 hQ94
          subst l94 y94 z94
          obtain ⟨rfl, N94q, e94⟩ := hQ94
          have N94 := Fr.app N92 N94q
          refine Go.step (T' := T94) (f' := (mkF m 120 #[.val (.long p1), .second, .val (.long p2), .second, .val (.int p3), .val (.long (pick p1 p2 p3)), .second, .val (.ref b2), .val (.ref b7), .val (.ref b_16), .val (.int (0 : Int32)), .val (.int (0 : Int32)), .val (.int (0 : Int32)), .val (.int (eqU p1 p1)), .val (.int (1 : Int32)), .unset] [(.int (eqI ))])) (fun t kt => ?_) ?_
          · show Steps p.tables e below (T92.setTop (mkF m 106 #[.val (.long p1), .second, .val (.long p2), .second, .val (.int p3), .val (.long (pick p1 p2 p3)), .second, .val (.ref b2), .val (.ref b7), .val (.ref b_16), .val (.int (0 : Int32)), .val (.int (0 : Int32)), .val (.int (0 : Int32)), .val (.int (eqU p1 p1)), .unset, .unset] [])) _
            refine XS.iconst X92.here hx rfl (hb hby at_106) ?_
            show Steps p.tables e below (T92.setTop (mkF m 107 #[.val (.long p1), .second, .val (.long p2), .second, .val (.int p3), .val (.long (pick p1 p2 p3)), .second, .val (.ref b2), .val (.ref b7), .val (.ref b_16), .val (.int (0 : Int32)), .val (.int (0 : Int32)), .val (.int (0 : Int32)), .val (.int (eqU p1 p1)), .unset, .unset] [(.int (1 : Int32))])) _
            refine XS.goto X92.here hx rfl (pc0 := 107) (pc' := 111) rfl (hb hby at_107) (by decide) (by decide) ?_
            show Steps p.tables e below (T92.setTop (mkF m 111 #[.val (.long p1), .second, .val (.long p2), .second, .val (.int p3), .val (.long (pick p1 p2 p3)), .second, .val (.ref b2), .val (.ref b7), .val (.ref b_16), .val (.int (0 : Int32)), .val (.int (0 : Int32)), .val (.int (0 : Int32)), .val (.int (eqU p1 p1)), .unset, .unset] [(.int (1 : Int32))])) _
            refine XS.istore X92.here hx rfl (hb hby at_111) rfl (l' := #[.val (.long p1), .second, .val (.long p2), .second, .val (.int p3), .val (.long (pick p1 p2 p3)), .second, .val (.ref b2), .val (.ref b7), .val (.ref b_16), .val (.int (0 : Int32)), .val (.int (0 : Int32)), .val (.int (0 : Int32)), .val (.int (eqU p1 p1)), .val (.int (1 : Int32)), .unset]) rfl ?_
            show Steps p.tables e below (T92.setTop (mkF m 113 #[.val (.long p1), .second, .val (.long p2), .second, .val (.int p3), .val (.long (pick p1 p2 p3)), .second, .val (.ref b2), .val (.ref b7), .val (.ref b_16), .val (.int (0 : Int32)), .val (.int (0 : Int32)), .val (.int (0 : Int32)), .val (.int (eqU p1 p1)), .val (.int (1 : Int32)), .unset] [])) _
            refine XS.aload X92.here hx rfl (hb hby at_113) rfl rfl ?_
            show Steps p.tables e below (T92.setTop (mkF m 115 #[.val (.long p1), .second, .val (.long p2), .second, .val (.int p3), .val (.long (pick p1 p2 p3)), .second, .val (.ref b2), .val (.ref b7), .val (.ref b_16), .val (.int (0 : Int32)), .val (.int (0 : Int32)), .val (.int (0 : Int32)), .val (.int (eqU p1 p1)), .val (.int (1 : Int32)), .unset] [(.ref b2)])) _
            refine XS.aload X92.here hx rfl (hb hby at_115) rfl rfl ?_
            show Steps p.tables e below (T92.setTop (mkF m 117 #[.val (.long p1), .second, .val (.long p2), .second, .val (.int p3), .val (.long (pick p1 p2 p3)), .second, .val (.ref b2), .val (.ref b7), .val (.ref b_16), .val (.int (0 : Int32)), .val (.int (0 : Int32)), .val (.int (0 : Int32)), .val (.int (eqU p1 p1)), .val (.int (1 : Int32)), .unset] [(.ref b_16), (.ref b2)])) _
            refine st94.trans ?_
            exact kt
          by_cases hc95 : (eqI ) = (0 : Int32)
          · rw [if_pos hc95] at hf
            refine Go.step (T' := T94) (f' := (mkF m 123 #[.val (.long p1), .second, .val (.long p2), .second, .val (.int p3), .val (.long (pick p1 p2 p3)), .second, .val (.ref b2), .val (.ref b7), .val (.ref b_16), .val (.int (0 : Int32)), .val (.int (0 : Int32)), .val (.int (0 : Int32)), .val (.int (eqU p1 p1)), .val (.int (1 : Int32)), .unset] [])) (fun t kt => ?_) ?_
            · show Steps p.tables e below (T94.setTop (mkF m 120 #[.val (.long p1), .second, .val (.long p2), .second, .val (.int p3), .val (.long (pick p1 p2 p3)), .second, .val (.ref b2), .val (.ref b7), .val (.ref b_16), .val (.int (0 : Int32)), .val (.int (0 : Int32)), .val (.int (0 : Int32)), .val (.int (eqU p1 p1)), .val (.int (1 : Int32)), .unset] [(.int (eqI ))])) _
              refine XS.ifNo X94.here hx rfl (hb hby at_120) rfl ((if0 _ _).trans (teq hc95).2) ?_
              exact kt
            refine Go.step (T' := T94) (f' := (mkF m 160 #[.val (.long p1), .second, .val (.long p2), .second, .val (.int p3), .val (.long (pick p1 p2 p3)), .second, .val (.ref b2), .val (.ref b7), .val (.ref b_16), .val (.int (0 : Int32)), .val (.int (0 : Int32)), .val (.int (0 : Int32)), .val (.int (eqU p1 p1)), .val (.int (1 : Int32)), .val (.int (1 : Int32))] [(.int (0 : Int32))])) (fun t kt => ?_) ?_
            · show Steps p.tables e below (T94.setTop (mkF m 123 #[.val (.long p1), .second, .val (.long p2), .second, .val (.int p3), .val (.long (pick p1 p2 p3)), .second, .val (.ref b2), .val (.ref b7), .val (.ref b_16), .val (.int (0 : Int32)), .val (.int (0 : Int32)), .val (.int (0 : Int32)), .val (.int (eqU p1 p1)), .val (.int (1 : Int32)), .unset] [])) _
              refine XS.iconst X94.here hx rfl (hb hby at_123) ?_
              show Steps p.tables e below (T94.setTop (mkF m 124 #[.val (.long p1), .second, .val (.long p2), .second, .val (.int p3), .val (.long (pick p1 p2 p3)), .second, .val (.ref b2), .val (.ref b7), .val (.ref b_16), .val (.int (0 : Int32)), .val (.int (0 : Int32)), .val (.int (0 : Int32)), .val (.int (eqU p1 p1)), .val (.int (1 : Int32)), .unset] [(.int (1 : Int32))])) _
              refine XS.goto X94.here hx rfl (pc0 := 124) (pc' := 128) rfl (hb hby at_124) (by decide) (by decide) ?_
              show Steps p.tables e below (T94.setTop (mkF m 128 #[.val (.long p1), .second, .val (.long p2), .second, .val (.int p3), .val (.long (pick p1 p2 p3)), .second, .val (.ref b2), .val (.ref b7), .val (.ref b_16), .val (.int (0 : Int32)), .val (.int (0 : Int32)), .val (.int (0 : Int32)), .val (.int (eqU p1 p1)), .val (.int (1 : Int32)), .unset] [(.int (1 : Int32))])) _
              refine XS.istore X94.here hx rfl (hb hby at_128) rfl (l' := #[.val (.long p1), .second, .val (.long p2), .second, .val (.int p3), .val (.long (pick p1 p2 p3)), .second, .val (.ref b2), .val (.ref b7), .val (.ref b_16), .val (.int (0 : Int32)), .val (.int (0 : Int32)), .val (.int (0 : Int32)), .val (.int (eqU p1 p1)), .val (.int (1 : Int32)), .val (.int (1 : Int32))]) rfl ?_
              show Steps p.tables e below (T94.setTop (mkF m 130 #[.val (.long p1), .second, .val (.long p2), .second, .val (.int p3), .val (.long (pick p1 p2 p3)), .second, .val (.ref b2), .val (.ref b7), .val (.ref b_16), .val (.int (0 : Int32)), .val (.int (0 : Int32)), .val (.int (0 : Int32)), .val (.int (eqU p1 p1)), .val (.int (1 : Int32)), .val (.int (1 : Int32))] [])) _
              refine XS.iload X94.here hx rfl (hb hby at_130) rfl ?_
              show Steps p.tables e below (T94.setTop (mkF m 132 #[.val (.long p1), .second, .val (.long p2), .second, .val (.int p3), .val (.long (pick p1 p2 p3)), .second, .val (.ref b2), .val (.ref b7), .val (.ref b_16), .val (.int (0 : Int32)), .val (.int (0 : Int32)), .val (.int (0 : Int32)), .val (.int (eqU p1 p1)), .val (.int (1 : Int32)), .val (.int (1 : Int32))] [(.int (0 : Int32))])) _
              refine XS.ifYes X94.here hx rfl (pc0 := 132) (pc' := 159) rfl (hb hby at_132) rfl ((if0 _ _).trans (teq (by decide : ((0 : Int32) = (0 : Int32)))).1) (by decide) (by decide) ?_
              show Steps p.tables e below (T94.setTop (mkF m 159 #[.val (.long p1), .second, .val (.long p2), .second, .val (.int p3), .val (.long (pick p1 p2 p3)), .second, .val (.ref b2), .val (.ref b7), .val (.ref b_16), .val (.int (0 : Int32)), .val (.int (0 : Int32)), .val (.int (0 : Int32)), .val (.int (eqU p1 p1)), .val (.int (1 : Int32)), .val (.int (1 : Int32))] [])) _
              refine XS.iconst X94.here hx rfl (hb hby at_159) ?_
              exact kt
            refine Go.fin X94 (v := some (.int (0 : Int32))) (fun h => by rw [Bd.returns] at h; cases h) Bd.notSynchronized ?_ (Nat.le_trans (Nat.add_le_add_right (Nat.add_le_add_right (Nat.add_le_add_right (Nat.add_le_add_right (Nat.add_le_add_right (Nat.add_le_add_right (Nat.add_le_add_right (Nat.add_le_add_right (Nat.add_le_add_right (Nat.add_le_add_right (Nat.add_le_add_right (Nat.le_refl 0) 0) 1) 0) 1) 0) 1) 0) 0) 0) 0) 0) (by decide)) (Nat.le_trans (Nat.add_le_add_right (Nat.add_le_add_right (Nat.add_le_add_right (Nat.add_le_add_right (Nat.add_le_add_right (Nat.add_le_add_right (Nat.add_le_add_right (Nat.add_le_add_right (Nat.add_le_add_right (Nat.add_le_add_right (Nat.add_le_add_right (Nat.le_refl 0) 0) 1) 0) 1) 0) 2) 0) 0) 0) 0) 0) (by decide)) (fun fs hr => retN X94 hx (t := .boolean) Bd.returns (by simp) (hb hby at_160) hr)
            · exact ⟨by rw [hf], N94⟩
          · rw [if_neg hc95] at hf
            refine Go.step (T' := T94) (f' := (mkF m 127 #[.val (.long p1), .second, .val (.long p2), .second, .val (.int p3), .val (.long (pick p1 p2 p3)), .second, .val (.ref b2), .val (.ref b7), .val (.ref b_16), .val (.int (0 : Int32)), .val (.int (0 : Int32)), .val (.int (0 : Int32)), .val (.int (eqU p1 p1)), .val (.int (1 : Int32)), .unset] [])) (fun t kt => ?_) ?_
            · show Steps p.tables e below (T94.setTop (mkF m 120 #[.val (.long p1), .second, .val (.long p2), .second, .val (.int p3), .val (.long (pick p1 p2 p3)), .second, .val (.ref b2), .val (.ref b7), .val (.ref b_16), .val (.int (0 : Int32)), .val (.int (0 : Int32)), .val (.int (0 : Int32)), .val (.int (eqU p1 p1)), .val (.int (1 : Int32)), .unset] [(.int (eqI ))])) _
              refine XS.ifYes X94.here hx rfl (pc0 := 120) (pc' := 127) rfl (hb hby at_120) rfl ((if0 _ _).trans (feq hc95).2) (by decide) (by decide) ?_
              exact kt
            refine Go.step (T' := T94) (f' := (mkF m 160 #[.val (.long p1), .second, .val (.long p2), .second, .val (.int p3), .val (.long (pick p1 p2 p3)), .second, .val (.ref b2), .val (.ref b7), .val (.ref b_16), .val (.int (0 : Int32)), .val (.int (0 : Int32)), .val (.int (0 : Int32)), .val (.int (eqU p1 p1)), .val (.int (1 : Int32)), .val (.int (0 : Int32))] [(.int (0 : Int32))])) (fun t kt => ?_) ?_
            · show Steps p.tables e below (T94.setTop (mkF m 127 #[.val (.long p1), .second, .val (.long p2), .second, .val (.int p3), .val (.long (pick p1 p2 p3)), .second, .val (.ref b2), .val (.ref b7), .val (.ref b_16), .val (.int (0 : Int32)), .val (.int (0 : Int32)), .val (.int (0 : Int32)), .val (.int (eqU p1 p1)), .val (.int (1 : Int32)), .unset] [])) _
              refine XS.iconst X94.here hx rfl (hb hby at_127) ?_
              show Steps p.tables e below (T94.setTop (mkF m 128 #[.val (.long p1), .second, .val (.long p2), .second, .val (.int p3), .val (.long (pick p1 p2 p3)), .second, .val (.ref b2), .val (.ref b7), .val (.ref b_16), .val (.int (0 : Int32)), .val (.int (0 : Int32)), .val (.int (0 : Int32)), .val (.int (eqU p1 p1)), .val (.int (1 : Int32)), .unset] [(.int (0 : Int32))])) _
              refine XS.istore X94.here hx rfl (hb hby at_128) rfl (l' := #[.val (.long p1), .second, .val (.long p2), .second, .val (.int p3), .val (.long (pick p1 p2 p3)), .second, .val (.ref b2), .val (.ref b7), .val (.ref b_16), .val (.int (0 : Int32)), .val (.int (0 : Int32)), .val (.int (0 : Int32)), .val (.int (eqU p1 p1)), .val (.int (1 : Int32)), .val (.int (0 : Int32))]) rfl ?_
              show Steps p.tables e below (T94.setTop (mkF m 130 #[.val (.long p1), .second, .val (.long p2), .second, .val (.int p3), .val (.long (pick p1 p2 p3)), .second, .val (.ref b2), .val (.ref b7), .val (.ref b_16), .val (.int (0 : Int32)), .val (.int (0 : Int32)), .val (.int (0 : Int32)), .val (.int (eqU p1 p1)), .val (.int (1 : Int32)), .val (.int (0 : Int32))] [])) _
              refine XS.iload X94.here hx rfl (hb hby at_130) rfl ?_
              show Steps p.tables e below (T94.setTop (mkF m 132 #[.val (.long p1), .second, .val (.long p2), .second, .val (.int p3), .val (.long (pick p1 p2 p3)), .second, .val (.ref b2), .val (.ref b7), .val (.ref b_16), .val (.int (0 : Int32)), .val (.int (0 : Int32)), .val (.int (0 : Int32)), .val (.int (eqU p1 p1)), .val (.int (1 : Int32)), .val (.int (0 : Int32))] [(.int (0 : Int32))])) _
              refine XS.ifYes X94.here hx rfl (pc0 := 132) (pc' := 159) rfl (hb hby at_132) rfl ((if0 _ _).trans (teq (by decide : ((0 : Int32) = (0 : Int32)))).1) (by decide) (by decide) ?_
              show Steps p.tables e below (T94.setTop (mkF m 159 #[.val (.long p1), .second, .val (.long p2), .second, .val (.int p3), .val (.long (pick p1 p2 p3)), .second, .val (.ref b2), .val (.ref b7), .val (.ref b_16), .val (.int (0 : Int32)), .val (.int (0 : Int32)), .val (.int (0 : Int32)), .val (.int (eqU p1 p1)), .val (.int (1 : Int32)), .val (.int (0 : Int32))] [])) _
              refine XS.iconst X94.here hx rfl (hb hby at_159) ?_
              exact kt
            refine Go.fin X94 (v := some (.int (0 : Int32))) (fun h => by rw [Bd.returns] at h; cases h) Bd.notSynchronized ?_ (Nat.le_trans (Nat.add_le_add_right (Nat.add_le_add_right (Nat.add_le_add_right (Nat.add_le_add_right (Nat.add_le_add_right (Nat.add_le_add_right (Nat.add_le_add_right (Nat.add_le_add_right (Nat.add_le_add_right (Nat.add_le_add_right (Nat.add_le_add_right (Nat.le_refl 0) 0) 1) 0) 1) 0) 1) 0) 0) 0) 0) 0) (by decide)) (Nat.le_trans (Nat.add_le_add_right (Nat.add_le_add_right (Nat.add_le_add_right (Nat.add_le_add_right (Nat.add_le_add_right (Nat.add_le_add_right (Nat.add_le_add_right (Nat.add_le_add_right (Nat.add_le_add_right (Nat.add_le_add_right (Nat.add_le_add_right (Nat.le_refl 0) 0) 1) 0) 1) 0) 2) 0) 0) 0) 0) 0) (by decide)) (fun fs hr => retN X94 hx (t := .boolean) Bd.returns (by simp) (hb hby at_160) hr)
            · exact ⟨by rw [hf], N94⟩
        · rw [if_neg hc93] at hf
          refine Go.step (T' := T92) (f' := (mkF m 110 #[.val (.long p1), .second, .val (.long p2), .second, .val (.int p3), .val (.long (pick p1 p2 p3)), .second, .val (.ref b2), .val (.ref b7), .val (.ref b_16), .val (.int (0 : Int32)), .val (.int (0 : Int32)), .val (.int (0 : Int32)), .val (.int (eqU p1 p1)), .unset, .unset] [])) (fun t kt => ?_) ?_
          · show Steps p.tables e below (T92.setTop (mkF m 103 #[.val (.long p1), .second, .val (.long p2), .second, .val (.int p3), .val (.long (pick p1 p2 p3)), .second, .val (.ref b2), .val (.ref b7), .val (.ref b_16), .val (.int (0 : Int32)), .val (.int (0 : Int32)), .val (.int (0 : Int32)), .val (.int (eqU p1 p1)), .unset, .unset] [(.int (eqN ))])) _
            refine XS.ifYes X92.here hx rfl (pc0 := 103) (pc' := 110) rfl (hb hby at_103) rfl ((if0 _ _).trans (feq hc93).2) (by decide) (by decide) ?_
            exact kt
          obtain ⟨cq96, kq96, q96a, q96b, q96c⟩ := isOf hZ e92 (G17 : Exa Z T16.heap b2 "com/example/plumbline/plumbline/model/PlistUid")
          obtain ⟨_, _, ⟨T96, L96, k96, n96⟩, -, X96, ⟨Lc96, hQ96, l96, y96, z96⟩, st96⟩ := X92.virtualBack hx (y := (⟨"com/example/plumbline/plumbline/model/PlistUid", "equals", "(Ljava/lang/Object;)Z"⟩ : MethodName)) (z := (⟨"com/example/plumbline/plumbline/model/PlistUid", "equals", "(Ljava/lang/Object;)Z"⟩ : MethodName)) hown (mvT hZ (hw _ (List.mem_of_getElem? (i := 29) rfl))) (mvT hZ (hw _ (List.mem_of_getElem? (i := 30) rfl))) (notFace_of_selects (args := #[]) (mvT hZ (hw _ (List.mem_of_getElem? (i := 32) rfl)))) (mvT hZ (hw _ (List.mem_of_getElem? (i := 32) rfl))) (mvT hZ (hw _ (List.mem_of_getElem? (i := 31) rfl))) (by decide) (backOf (W := 0) (rm_eqI l Z a0 hw [] b2 b_16  T16.heap n0 Z16 pf16_0 ) hZ (hw _ (List.mem_of_getElem? (i := 33) rfl)) (hw _ (List.mem_of_getElem? (i := 6) rfl)) (by decide) (by decide)) q96a q96c (g := (mkF m 117 #[.val (.long p1), .second, .val (.long p2), .second, .val (.int p3), .val (.long (pick p1 p2 p3)), .second, .val (.ref b2), .val (.ref b7), .val (.ref b_16), .val (.int (0 : Int32)), .val (.int (0 : Int32)), .val (.int (0 : Int32)), .val (.int (eqU p1 p1)), .val (.int (0 : Int32)), .unset] [(.ref b_16), (.ref b2)])) rfl (by rw [hml]; rfl) (Steps.refl _) (argsL := [(.ref b_16)]) (rest := []) (lenOf pd_4 rfl) rfl (by show 2 * 0 + _ ≤ _; exact Nat.le_of_eq rfl) (hb hby at_117) (fun _ _ => ⟨rfl, e92, (Nat.le_trans (Nat.add_le_add_right (Nat.add_le_add_right (Nat.add_le_add_right (Nat.add_le_add_right (Nat.add_le_add_right (Nat.add_le_add_right (Nat.add_le_add_right (Nat.add_le_add_right (Nat.add_le_add_right (Nat.add_le_add_right (Nat.add_le_add_right (Nat.le_refl 0) 0) 1) 0) 1) 0) 1) 0) 0) 0) 0) 0) (by decide)), (Nat.le_trans (Nat.add_le_add_right (Nat.add_le_add_right (Nat.add_le_add_right (Nat.add_le_add_right (Nat.add_le_add_right (Nat.add_le_add_right (Nat.add_le_add_right (Nat.add_le_add_right (Nat.add_le_add_right (Nat.add_le_add_right (Nat.add_le_add_right (Nat.le_refl 0) 0) 1) 0) 1) 0) 2) 0) 0) 0) 0) 0) (by decide))⟩)
          dsimp only [Pt.U, Pt.locs, Pt.cells, Pt.slots] at X96 l96 y96 z96 st96 hQ96
          subst l96 y96 z96
          obtain ⟨rfl, N96q, e96⟩ := hQ96
          have N96 := Fr.app N92 N96q
          refine Go.step (T' := T96) (f' := (mkF m 120 #[.val (.long p1), .second, .val (.long p2), .second, .val (.int p3), .val (.long (pick p1 p2 p3)), .second, .val (.ref b2), .val (.ref b7), .val (.ref b_16), .val (.int (0 : Int32)), .val (.int (0 : Int32)), .val (.int (0 : Int32)), .val (.int (eqU p1 p1)), .val (.int (0 : Int32)), .unset] [(.int (eqI ))])) (fun t kt => ?_) ?_
          · show Steps p.tables e below (T92.setTop (mkF m 110 #[.val (.long p1), .second, .val (.long p2), .second, .val (.int p3), .val (.long (pick p1 p2 p3)), .second, .val (.ref b2), .val (.ref b7), .val (.ref b_16), .val (.int (0 : Int32)), .val (.int (0 : Int32)), .val (.int (0 : Int32)), .val (.int (eqU p1 p1)), .unset, .unset] [])) _
            refine XS.iconst X92.here hx rfl (hb hby at_110) ?_
            show Steps p.tables e below (T92.setTop (mkF m 111 #[.val (.long p1), .second, .val (.long p2), .second, .val (.int p3), .val (.long (pick p1 p2 p3)), .second, .val (.ref b2), .val (.ref b7), .val (.ref b_16), .val (.int (0 : Int32)), .val (.int (0 : Int32)), .val (.int (0 : Int32)), .val (.int (eqU p1 p1)), .unset, .unset] [(.int (0 : Int32))])) _
            refine XS.istore X92.here hx rfl (hb hby at_111) rfl (l' := #[.val (.long p1), .second, .val (.long p2), .second, .val (.int p3), .val (.long (pick p1 p2 p3)), .second, .val (.ref b2), .val (.ref b7), .val (.ref b_16), .val (.int (0 : Int32)), .val (.int (0 : Int32)), .val (.int (0 : Int32)), .val (.int (eqU p1 p1)), .val (.int (0 : Int32)), .unset]) rfl ?_
            show Steps p.tables e below (T92.setTop (mkF m 113 #[.val (.long p1), .second, .val (.long p2), .second, .val (.int p3), .val (.long (pick p1 p2 p3)), .second, .val (.ref b2), .val (.ref b7), .val (.ref b_16), .val (.int (0 : Int32)), .val (.int (0 : Int32)), .val (.int (0 : Int32)), .val (.int (eqU p1 p1)), .val (.int (0 : Int32)), .unset] [])) _
            refine XS.aload X92.here hx rfl (hb hby at_113) rfl rfl ?_
            show Steps p.tables e below (T92.setTop (mkF m 115 #[.val (.long p1), .second, .val (.long p2), .second, .val (.int p3), .val (.long (pick p1 p2 p3)), .second, .val (.ref b2), .val (.ref b7), .val (.ref b_16), .val (.int (0 : Int32)), .val (.int (0 : Int32)), .val (.int (0 : Int32)), .val (.int (eqU p1 p1)), .val (.int (0 : Int32)), .unset] [(.ref b2)])) _
            refine XS.aload X92.here hx rfl (hb hby at_115) rfl rfl ?_
            show Steps p.tables e below (T92.setTop (mkF m 117 #[.val (.long p1), .second, .val (.long p2), .second, .val (.int p3), .val (.long (pick p1 p2 p3)), .second, .val (.ref b2), .val (.ref b7), .val (.ref b_16), .val (.int (0 : Int32)), .val (.int (0 : Int32)), .val (.int (0 : Int32)), .val (.int (eqU p1 p1)), .val (.int (0 : Int32)), .unset] [(.ref b_16), (.ref b2)])) _
            refine st96.trans ?_
            exact kt
          by_cases hc97 : (eqI ) = (0 : Int32)
          · rw [if_pos hc97] at hf
            refine Go.step (T' := T96) (f' := (mkF m 123 #[.val (.long p1), .second, .val (.long p2), .second, .val (.int p3), .val (.long (pick p1 p2 p3)), .second, .val (.ref b2), .val (.ref b7), .val (.ref b_16), .val (.int (0 : Int32)), .val (.int (0 : Int32)), .val (.int (0 : Int32)), .val (.int (eqU p1 p1)), .val (.int (0 : Int32)), .unset] [])) (fun t kt => ?_) ?_
            · show Steps p.tables e below (T96.setTop (mkF m 120 #[.val (.long p1), .second, .val (.long p2), .second, .val (.int p3), .val (.long (pick p1 p2 p3)), .second, .val (.ref b2), .val (.ref b7), .val (.ref b_16), .val (.int (0 : Int32)), .val (.int (0 : Int32)), .val (.int (0 : Int32)), .val (.int (eqU p1 p1)), .val (.int (0 : Int32)), .unset] [(.int (eqI ))])) _
              refine XS.ifNo X96.here hx rfl (hb hby at_120) rfl ((if0 _ _).trans (teq hc97).2) ?_
              exact kt
            refine Go.step (T' := T96) (f' := (mkF m 160 #[.val (.long p1), .second, .val (.long p2), .second, .val (.int p3), .val (.long (pick p1 p2 p3)), .second, .val (.ref b2), .val (.ref b7), .val (.ref b_16), .val (.int (0 : Int32)), .val (.int (0 : Int32)), .val (.int (0 : Int32)), .val (.int (eqU p1 p1)), .val (.int (0 : Int32)), .val (.int (1 : Int32))] [(.int (0 : Int32))])) (fun t kt => ?_) ?_
            · show Steps p.tables e below (T96.setTop (mkF m 123 #[.val (.long p1), .second, .val (.long p2), .second, .val (.int p3), .val (.long (pick p1 p2 p3)), .second, .val (.ref b2), .val (.ref b7), .val (.ref b_16), .val (.int (0 : Int32)), .val (.int (0 : Int32)), .val (.int (0 : Int32)), .val (.int (eqU p1 p1)), .val (.int (0 : Int32)), .unset] [])) _
              refine XS.iconst X96.here hx rfl (hb hby at_123) ?_
              show Steps p.tables e below (T96.setTop (mkF m 124 #[.val (.long p1), .second, .val (.long p2), .second, .val (.int p3), .val (.long (pick p1 p2 p3)), .second, .val (.ref b2), .val (.ref b7), .val (.ref b_16), .val (.int (0 : Int32)), .val (.int (0 : Int32)), .val (.int (0 : Int32)), .val (.int (eqU p1 p1)), .val (.int (0 : Int32)), .unset] [(.int (1 : Int32))])) _
              refine XS.goto X96.here hx rfl (pc0 := 124) (pc' := 128) rfl (hb hby at_124) (by decide) (by decide) ?_
              show Steps p.tables e below (T96.setTop (mkF m 128 #[.val (.long p1), .second, .val (.long p2), .second, .val (.int p3), .val (.long (pick p1 p2 p3)), .second, .val (.ref b2), .val (.ref b7), .val (.ref b_16), .val (.int (0 : Int32)), .val (.int (0 : Int32)), .val (.int (0 : Int32)), .val (.int (eqU p1 p1)), .val (.int (0 : Int32)), .unset] [(.int (1 : Int32))])) _
              refine XS.istore X96.here hx rfl (hb hby at_128) rfl (l' := #[.val (.long p1), .second, .val (.long p2), .second, .val (.int p3), .val (.long (pick p1 p2 p3)), .second, .val (.ref b2), .val (.ref b7), .val (.ref b_16), .val (.int (0 : Int32)), .val (.int (0 : Int32)), .val (.int (0 : Int32)), .val (.int (eqU p1 p1)), .val (.int (0 : Int32)), .val (.int (1 : Int32))]) rfl ?_
              show Steps p.tables e below (T96.setTop (mkF m 130 #[.val (.long p1), .second, .val (.long p2), .second, .val (.int p3), .val (.long (pick p1 p2 p3)), .second, .val (.ref b2), .val (.ref b7), .val (.ref b_16), .val (.int (0 : Int32)), .val (.int (0 : Int32)), .val (.int (0 : Int32)), .val (.int (eqU p1 p1)), .val (.int (0 : Int32)), .val (.int (1 : Int32))] [])) _
              refine XS.iload X96.here hx rfl (hb hby at_130) rfl ?_
              show Steps p.tables e below (T96.setTop (mkF m 132 #[.val (.long p1), .second, .val (.long p2), .second, .val (.int p3), .val (.long (pick p1 p2 p3)), .second, .val (.ref b2), .val (.ref b7), .val (.ref b_16), .val (.int (0 : Int32)), .val (.int (0 : Int32)), .val (.int (0 : Int32)), .val (.int (eqU p1 p1)), .val (.int (0 : Int32)), .val (.int (1 : Int32))] [(.int (0 : Int32))])) _
              refine XS.ifYes X96.here hx rfl (pc0 := 132) (pc' := 159) rfl (hb hby at_132) rfl ((if0 _ _).trans (teq (by decide : ((0 : Int32) = (0 : Int32)))).1) (by decide) (by decide) ?_
              show Steps p.tables e below (T96.setTop (mkF m 159 #[.val (.long p1), .second, .val (.long p2), .second, .val (.int p3), .val (.long (pick p1 p2 p3)), .second, .val (.ref b2), .val (.ref b7), .val (.ref b_16), .val (.int (0 : Int32)), .val (.int (0 : Int32)), .val (.int (0 : Int32)), .val (.int (eqU p1 p1)), .val (.int (0 : Int32)), .val (.int (1 : Int32))] [])) _
              refine XS.iconst X96.here hx rfl (hb hby at_159) ?_
              exact kt
            refine Go.fin X96 (v := some (.int (0 : Int32))) (fun h => by rw [Bd.returns] at h; cases h) Bd.notSynchronized ?_ (Nat.le_trans (Nat.add_le_add_right (Nat.add_le_add_right (Nat.add_le_add_right (Nat.add_le_add_right (Nat.add_le_add_right (Nat.add_le_add_right (Nat.add_le_add_right (Nat.add_le_add_right (Nat.add_le_add_right (Nat.add_le_add_right (Nat.add_le_add_right (Nat.le_refl 0) 0) 1) 0) 1) 0) 1) 0) 0) 0) 0) 0) (by decide)) (Nat.le_trans (Nat.add_le_add_right (Nat.add_le_add_right (Nat.add_le_add_right (Nat.add_le_add_right (Nat.add_le_add_right (Nat.add_le_add_right (Nat.add_le_add_right (Nat.add_le_add_right (Nat.add_le_add_right (Nat.add_le_add_right (Nat.add_le_add_right (Nat.le_refl 0) 0) 1) 0) 1) 0) 2) 0) 0) 0) 0) 0) (by decide)) (fun fs hr => retN X96 hx (t := .boolean) Bd.returns (by simp) (hb hby at_160) hr)
            · exact ⟨by rw [hf], N96⟩
          · rw [if_neg hc97] at hf
            refine Go.step (T' := T96) (f' := (mkF m 127 #[.val (.long p1), .second, .val (.long p2), .second, .val (.int p3), .val (.long (pick p1 p2 p3)), .second, .val (.ref b2), .val (.ref b7), .val (.ref b_16), .val (.int (0 : Int32)), .val (.int (0 : Int32)), .val (.int (0 : Int32)), .val (.int (eqU p1 p1)), .val (.int (0 : Int32)), .unset] [])) (fun t kt => ?_) ?_
            · show Steps p.tables e below (T96.setTop (mkF m 120 #[.val (.long p1), .second, .val (.long p2), .second, .val (.int p3), .val (.long (pick p1 p2 p3)), .second, .val (.ref b2), .val (.ref b7), .val (.ref b_16), .val (.int (0 : Int32)), .val (.int (0 : Int32)), .val (.int (0 : Int32)), .val (.int (eqU p1 p1)), .val (.int (0 : Int32)), .unset] [(.int (eqI ))])) _
              refine XS.ifYes X96.here hx rfl (pc0 := 120) (pc' := 127) rfl (hb hby at_120) rfl ((if0 _ _).trans (feq hc97).2) (by decide) (by decide) ?_
              exact kt
            refine Go.step (T' := T96) (f' := (mkF m 160 #[.val (.long p1), .second, .val (.long p2), .second, .val (.int p3), .val (.long (pick p1 p2 p3)), .second, .val (.ref b2), .val (.ref b7), .val (.ref b_16), .val (.int (0 : Int32)), .val (.int (0 : Int32)), .val (.int (0 : Int32)), .val (.int (eqU p1 p1)), .val (.int (0 : Int32)), .val (.int (0 : Int32))] [(.int (0 : Int32))])) (fun t kt => ?_) ?_
            · show Steps p.tables e below (T96.setTop (mkF m 127 #[.val (.long p1), .second, .val (.long p2), .second, .val (.int p3), .val (.long (pick p1 p2 p3)), .second, .val (.ref b2), .val (.ref b7), .val (.ref b_16), .val (.int (0 : Int32)), .val (.int (0 : Int32)), .val (.int (0 : Int32)), .val (.int (eqU p1 p1)), .val (.int (0 : Int32)), .unset] [])) _
              refine XS.iconst X96.here hx rfl (hb hby at_127) ?_
              show Steps p.tables e below (T96.setTop (mkF m 128 #[.val (.long p1), .second, .val (.long p2), .second, .val (.int p3), .val (.long (pick p1 p2 p3)), .second, .val (.ref b2), .val (.ref b7), .val (.ref b_16), .val (.int (0 : Int32)), .val (.int (0 : Int32)), .val (.int (0 : Int32)), .val (.int (eqU p1 p1)), .val (.int (0 : Int32)), .unset] [(.int (0 : Int32))])) _
              refine XS.istore X96.here hx rfl (hb hby at_128) rfl (l' := #[.val (.long p1), .second, .val (.long p2), .second, .val (.int p3), .val (.long (pick p1 p2 p3)), .second, .val (.ref b2), .val (.ref b7), .val (.ref b_16), .val (.int (0 : Int32)), .val (.int (0 : Int32)), .val (.int (0 : Int32)), .val (.int (eqU p1 p1)), .val (.int (0 : Int32)), .val (.int (0 : Int32))]) rfl ?_
              show Steps p.tables e below (T96.setTop (mkF m 130 #[.val (.long p1), .second, .val (.long p2), .second, .val (.int p3), .val (.long (pick p1 p2 p3)), .second, .val (.ref b2), .val (.ref b7), .val (.ref b_16), .val (.int (0 : Int32)), .val (.int (0 : Int32)), .val (.int (0 : Int32)), .val (.int (eqU p1 p1)), .val (.int (0 : Int32)), .val (.int (0 : Int32))] [])) _
              refine XS.iload X96.here hx rfl (hb hby at_130) rfl ?_
              show Steps p.tables e below (T96.setTop (mkF m 132 #[.val (.long p1), .second, .val (.long p2), .second, .val (.int p3), .val (.long (pick p1 p2 p3)), .second, .val (.ref b2), .val (.ref b7), .val (.ref b_16), .val (.int (0 : Int32)), .val (.int (0 : Int32)), .val (.int (0 : Int32)), .val (.int (eqU p1 p1)), .val (.int (0 : Int32)), .val (.int (0 : Int32))] [(.int (0 : Int32))])) _
              refine XS.ifYes X96.here hx rfl (pc0 := 132) (pc' := 159) rfl (hb hby at_132) rfl ((if0 _ _).trans (teq (by decide : ((0 : Int32) = (0 : Int32)))).1) (by decide) (by decide) ?_
              show Steps p.tables e below (T96.setTop (mkF m 159 #[.val (.long p1), .second, .val (.long p2), .second, .val (.int p3), .val (.long (pick p1 p2 p3)), .second, .val (.ref b2), .val (.ref b7), .val (.ref b_16), .val (.int (0 : Int32)), .val (.int (0 : Int32)), .val (.int (0 : Int32)), .val (.int (eqU p1 p1)), .val (.int (0 : Int32)), .val (.int (0 : Int32))] [])) _
              refine XS.iconst X96.here hx rfl (hb hby at_159) ?_
              exact kt
            refine Go.fin X96 (v := some (.int (0 : Int32))) (fun h => by rw [Bd.returns] at h; cases h) Bd.notSynchronized ?_ (Nat.le_trans (Nat.add_le_add_right (Nat.add_le_add_right (Nat.add_le_add_right (Nat.add_le_add_right (Nat.add_le_add_right (Nat.add_le_add_right (Nat.add_le_add_right (Nat.add_le_add_right (Nat.add_le_add_right (Nat.add_le_add_right (Nat.add_le_add_right (Nat.le_refl 0) 0) 1) 0) 1) 0) 1) 0) 0) 0) 0) 0) (by decide)) (Nat.le_trans (Nat.add_le_add_right (Nat.add_le_add_right (Nat.add_le_add_right (Nat.add_le_add_right (Nat.add_le_add_right (Nat.add_le_add_right (Nat.add_le_add_right (Nat.add_le_add_right (Nat.add_le_add_right (Nat.add_le_add_right (Nat.add_le_add_right (Nat.le_refl 0) 0) 1) 0) 1) 0) 2) 0) 0) 0) 0) 0) (by decide)) (fun fs hr => retN X96 hx (t := .boolean) Bd.returns (by simp) (hb hby at_160) hr)
            · exact ⟨by rw [hf], N96⟩
theorem own_law (a b : Int64) (k : Int32) : lawF a b k = 1 := by
  unfold lawF
  simp only [iniU, eqU, eqN, eqI]
  generalize pick a b k = c
  by_cases h : a = c
  · subst h; simp
  · have h2 : ¬ c = a := fun q => h q.symm
    simp [h, h2]
set_option maxRecDepth 65536 in
set_option maxHeartbeats 40000000 in
theorem comes_1 {Post : Tables → Env → Array Value → State → Outcome → State → Prop} (hpost : ∀ tb e args s v u, (limb_1_1.after args s (.returned v) u = true ∧ limb_1_2.after args s (.returned v) u = true ∧ True) → FrameEnd s (.returned v) u (Jvm.fieldLocs frame_1_writes args s ++ Jvm.arrayLocs frame_1_arrays args s ++ Jvm.staticLocs frame_1_statics s) 16 128 → Post tb e args s (.returned v) u) :
    ArmFor flags0 classFile x code maxLocals ret World_1 tables_1 room_1 Calls_1 rest_1 Pre_1 Post := by
  intro l hfl _ _ p e ha hc hk s m args below hf hA hF happ hP
  obtain ⟨hcalls, hrest, hpre⟩ := hP
  obtain ⟨-, -, -, hnamed, -, -, -, hat⟩ := (Spec.applies_iff hf).mp happ
  obtain ⟨hg, hn⟩ := and_e (Cond.before_iff.mp (show (Jvm.Cond.and given_1 narrow_1).before args s = true from hpre))
  obtain ⟨g1, g2⟩ := and_e hg
  obtain ⟨g3, g4⟩ := and_e g2
  obtain ⟨g5, g6⟩ := and_e g4
  obtain ⟨w0, w1, w2, rfl⟩ : ∃ w0 w1 w2 : Value, args = #[w0, w1, w2] := by
    have hs : args.size = 3 := by simpa [Cond.value, given_1] using g1
    obtain ⟨L⟩ := args
    match L, hs with
    | [w0, w1, w2], _ => exact ⟨w0, w1, w2, rfl⟩
  have hw := fun d (hd : d ∈ tables_1) => atoms_spec (ws := Jvm.Cond.code x code maxLocals ret :: tables_1) hat d (List.mem_cons_of_mem _ hd)
  obtain ⟨i0, ei0⟩ := isL_v g3
  obtain rfl : w0 = (.long i0) := Option.some.inj ei0
  obtain ⟨i1, ei1⟩ := isL_v g5
  obtain rfl : w1 = (.long i1) := Option.some.inj ei1
  obtain ⟨i2, ei2⟩ := is_v g6
  obtain rfl : w2 = (.int i2) := Option.some.inj ei2
  obtain ⟨n, o, h1, h2, h3, _, L, rfl, ⟨hv, N⟩, hq⟩ := rm_0 l s _ hw tables_1 i0 i1 i2  s.heap s.heap.size (Nat.le_refl _)  p e ha hc hk s m _ below hf ((Spec.applies_iff_loose hf).mp happ).1 ⟨rfl, State.Warmed39.refl s, rfl⟩ trivial
  rw [own_law] at hv
  subst hv
  refine ⟨n, _, h1, h2, h3, hpost _ _ _ _ _ _ ⟨Cond.after_iff.mpr rfl, Cond.after_iff.mpr (eq_i res_at (Term.int_eval (1)) rfl), trivial⟩ ⟨hq.1, hq.2.1, (hq.2.2.sift fun y hy => Or.inr (N y hy)).mono (by decide) (by decide)⟩⟩
theorem main_1_1 : Claimed_1_1 := comes_1 fun _ _ _ _ _ _ h hF => ⟨h.1, hF⟩
theorem main_1_2 : Claimed_1_2 := comes_1 fun _ _ _ _ _ _ h hF => ⟨h.2.1, hF⟩
end Jvm.Pilot.@@N@@
namespace Jvm.Pilot.@@N@@
open Jvm Jvm.ClassFile Sem Op Lib Jvm.Free Jvm.Stand Jvm.Pilot.@@N@@.Jvm.D
/-! MADE BY PROGRAM (witnessworld.py) out of the Statement's table words and the real class files: 11 classes; the members and pool entries that the words name. The judged class is class 1, her method 2. -/
namespace start1
open Jvm.ClassFile
def u (s : String) : CpInfo := .utf8 (stringToUtf16 s)
/-- a pool by its gaps: so many unusable entries, then the entry; so many at the end -/
def gap : Nat → List CpInfo → List CpInfo
  | 0, r => r
  | n + 1, r => .unusable :: gap n r
def poolList (es : List (Nat × CpInfo)) (last : Nat) : List CpInfo := es.foldr (fun e r => gap e.1 (e.2 :: r)) (gap last [])
def pool (es : List (Nat × CpInfo)) (last : Nat) : Array CpInfo := ⟨poolList es last⟩
def fileOf (pool : Array CpInfo) (this : Nat) (attrs : Array Attribute := #[]) (ms : Array MethodInfo := #[]) (fl : Nat := 33) (sup : Nat := 0) (ifs : Array Nat := #[]) (fds : Array FieldInfo := #[]) : ClassFile where
  minorVersion := 0
  majorVersion := 65
  constantPool := pool
  accessFlags := fl
  thisClass := this
  superClass := sup
  interfaces := ifs
  fields := fds
  methods := ms
  attributes := attrs
def plain (name : String) (sup : Option ClassId) : Class where
  name := name
  kind := .ordinary
  loader := none
  accessFlags := 33
  super := sup
  interfaces := #[]
  cf := none
  fields := #[]
  methods := #[]
  instanceTypes := #[]
  staticTypes := #[]
  resolved := #[]
  callSites := []
  init := .initialized
  statics := none
  mirror := none

def pool0 : Array CpInfo := pool [(5, u "<init>"), (0, u "()V"), (1, .class_ 10), (1, u "java/lang/Object")] 113

def k0c0 : Code := { maxStack := 0, maxLocals := 1, code := object_method_1_code, exceptionTable := #[], attributes := #[] }
def k0m0 : Method := { name := "<init>", desc := "()V", sig := { parameters := [], returnType := none }, accessFlags := 1, code := some k0c0 }
/-- java/lang/Object -/
def k0 : Class := { plain "java/lang/Object" none with
  accessFlags := 33
  interfaces := #[]
  cf := some (fileOf pool0 8 #[] #[{ accessFlags := 1, nameIndex := 5, descriptorIndex := 6, attributes := #[] }] 33 0 #[] #[])
  fields := #[]
  methods := #[k0m0]
  instanceTypes := #[]
  staticTypes := #[]
  resolved := Array.replicate 124 none
  statics := none }

def pool1 : Array CpInfo := pool [(2, .class_ 4), (1, u "java/lang/Object"), (0, u "<init>"), (0, u "()V"), (0, .methodref 8 9), (0, .class_ 10), (0, .nameAndType 11 12), (0, u "com/example/plumbline/plumbline/model/PlistUidEqualsPinLaw"), (0, u "pick"), (0, u "(JJI)J"), (0, .class_ 14), (0, u "com/example/plumbline/plumbline/model/PlistUid"), (0, .methodref 13 16), (0, .nameAndType 5 17), (0, u "(J)V"), (0, .methodref 19 20), (0, .class_ 21), (0, .nameAndType 22 23), (0, u "com/example/plumbline/plumbline/model/PlistInteger"), (0, u "of"), (0, u "(J)Lcom/example/plumbline/plumbline/model/PlistInteger;"), (0, .methodref 13 25), (0, .nameAndType 26 27), (0, u "equals"), (0, u "(Ljava/lang/Object;)Z"), (3, u "law"), (0, u "(JJI)Z")] 2

def k1m0 : Method := { name := "<init>", desc := "()V", sig := { parameters := [], returnType := none }, accessFlags := 2, code := none }
def k1c1 : Code := { maxStack := 6, maxLocals := 6, code := method_2_code, exceptionTable := #[], attributes := #[] }
def k1m1 : Method := { name := "pick", desc := "(JJI)J", sig := { parameters := [.long, .long, .int], returnType := some .long }, accessFlags := 10, code := some k1c1 }
def k1c2 : Code := { maxStack := 5, maxLocals := 16, code := code, exceptionTable := #[], attributes := #[] }
def k1m2 : Method := { name := "law", desc := "(JJI)Z", sig := { parameters := [.long, .long, .int], returnType := some .boolean }, accessFlags := 9, code := some k1c2 }
/-- com/example/plumbline/plumbline/model/PlistUidEqualsPinLaw -/
def k1 : Class := { plain "com/example/plumbline/plumbline/model/PlistUidEqualsPinLaw" (some 0) with
  accessFlags := 49
  interfaces := #[]
  cf := some (fileOf pool1 8 #[] #[{ accessFlags := 2, nameIndex := 5, descriptorIndex := 6, attributes := #[] }, { accessFlags := 10, nameIndex := 11, descriptorIndex := 12, attributes := #[] }, { accessFlags := 9, nameIndex := 31, descriptorIndex := 32, attributes := #[] }] 49 2 #[] #[])
  fields := #[]
  methods := #[k1m0, k1m1, k1m2]
  instanceTypes := #[]
  staticTypes := #[]
  resolved := Array.replicate 35 none
  statics := none }

def pool2 : Array CpInfo := pool [(1, .class_ 2), (0, u "com/example/plumbline/plumbline/model/PlistValue"), (0, .class_ 4), (0, u "java/lang/Object")] 23

/-- com/example/plumbline/plumbline/model/PlistValue -/
def k2 : Class := { plain "com/example/plumbline/plumbline/model/PlistValue" (some 0) with
  accessFlags := 1537
  interfaces := #[]
  cf := some (fileOf pool2 1 #[] #[] 1537 3 #[] #[])
  fields := #[]
  methods := #[]
  instanceTypes := #[]
  staticTypes := #[]
  resolved := Array.replicate 28 none
  statics := none }

def pool3 : Array CpInfo := pool [(1, .methodref 2 3), (0, .class_ 4), (0, .nameAndType 5 6), (0, u "java/lang/Object"), (0, u "<init>"), (0, u "()V"), (0, .fieldref 8 9), (0, .class_ 10), (0, .nameAndType 11 12), (0, u "com/example/plumbline/plumbline/model/PlistUid"), (0, u "value"), (0, u "J"), (10, .class_ 24), (0, u "com/example/plumbline/plumbline/model/PlistValue"), (0, u "(J)V"), (3, u "equals"), (0, u "(Ljava/lang/Object;)Z")] 6

def k3c0 : Code := { maxStack := 3, maxLocals := 3, code := prog_49_method_1_code, exceptionTable := #[], attributes := #[] }
def k3m0 : Method := { name := "<init>", desc := "(J)V", sig := { parameters := [.long], returnType := none }, accessFlags := 1, code := some k3c0 }
def k3c1 : Code := { maxStack := 4, maxLocals := 3, code := prog_49_method_3_code, exceptionTable := #[], attributes := #[] }
def k3m1 : Method := { name := "equals", desc := "(Ljava/lang/Object;)Z", sig := { parameters := [(.object "java/lang/Object")], returnType := some .boolean }, accessFlags := 1, code := some k3c1 }
/-- com/example/plumbline/plumbline/model/PlistUid -/
def k3 : Class := { plain "com/example/plumbline/plumbline/model/PlistUid" (some 0) with
  accessFlags := 49
  interfaces := #[2]
  cf := some (fileOf pool3 8 #[] #[{ accessFlags := 1, nameIndex := 5, descriptorIndex := 25, attributes := #[] }, { accessFlags := 1, nameIndex := 29, descriptorIndex := 30, attributes := #[] }] 49 2 #[23] #[{ accessFlags := 18, nameIndex := 11, descriptorIndex := 12, attributes := #[] }])
  fields := #[{ name := "value", type := .long, accessFlags := 18, slot := 0, constantValue := 0 }]
  methods := #[k3m0, k3m1]
  instanceTypes := #[.long]
  staticTypes := #[]
  resolved := Array.replicate 37 none
  statics := none }

def pool4 : Array CpInfo := pool [(1, .methodref 2 3), (0, .class_ 4), (0, .nameAndType 5 6), (0, u "java/lang/Object"), (0, u "<init>"), (0, u "()V"), (0, .fieldref 8 9), (0, .class_ 10), (0, .nameAndType 11 12), (0, u "com/example/plumbline/plumbline/model/PlistInteger"), (0, u "bits"), (0, u "J"), (0, .fieldref 8 14), (0, .nameAndType 15 16), (0, u "aboveLong"), (0, u "Z"), (0, .methodref 8 18), (0, .nameAndType 5 19), (0, u "(JZ)V"), (32, u "of"), (0, u "(J)Lcom/example/plumbline/plumbline/model/PlistInteger;"), (33, .class_ 88), (0, u "com/example/plumbline/plumbline/model/PlistValue")] 31

def k4c0 : Code := { maxStack := 3, maxLocals := 4, code := prog_45_method_1_code, exceptionTable := #[], attributes := #[] }
def k4m0 : Method := { name := "<init>", desc := "(JZ)V", sig := { parameters := [.long, .boolean], returnType := none }, accessFlags := 2, code := some k4c0 }
def k4c1 : Code := { maxStack := 5, maxLocals := 2, code := prog_45_method_2_code, exceptionTable := #[], attributes := #[] }
def k4m1 : Method := { name := "of", desc := "(J)Lcom/example/plumbline/plumbline/model/PlistInteger;", sig := { parameters := [.long], returnType := some (.object "com/example/plumbline/plumbline/model/PlistInteger") }, accessFlags := 9, code := some k4c1 }
/-- com/example/plumbline/plumbline/model/PlistInteger -/
def k4 : Class := { plain "com/example/plumbline/plumbline/model/PlistInteger" (some 0) with
  accessFlags := 49
  interfaces := #[2]
  cf := some (fileOf pool4 8 #[] #[{ accessFlags := 2, nameIndex := 5, descriptorIndex := 19, attributes := #[] }, { accessFlags := 9, nameIndex := 52, descriptorIndex := 53, attributes := #[] }] 49 2 #[87] #[{ accessFlags := 18, nameIndex := 11, descriptorIndex := 12, attributes := #[] }, { accessFlags := 18, nameIndex := 15, descriptorIndex := 16, attributes := #[] }])
  fields := #[{ name := "bits", type := .long, accessFlags := 18, slot := 0, constantValue := 0 }, { name := "aboveLong", type := .boolean, accessFlags := 18, slot := 1, constantValue := 0 }]
  methods := #[k4m0, k4m1]
  instanceTypes := #[.long, .boolean]
  staticTypes := #[]
  resolved := Array.replicate 120 none
  statics := none }

def pool5 : Array CpInfo := pool [(1, u "java/lang/Cloneable"), (0, .class_ 1), (0, u "java/lang/Object"), (0, .class_ 3)] 3

/-- java/lang/Cloneable -/
def k5 : Class := { plain "java/lang/Cloneable" (some 0) with
  accessFlags := 1537
  interfaces := #[]
  cf := some (fileOf pool5 2 #[] #[] 1537 4 #[] #[])
  fields := #[]
  methods := #[]
  instanceTypes := #[]
  staticTypes := #[]
  resolved := Array.replicate 8 none
  statics := none }

def pool6 : Array CpInfo := pool [(1, u "java/io/Serializable"), (0, .class_ 1), (0, u "java/lang/Object"), (0, .class_ 3)] 3

/-- java/io/Serializable -/
def k6 : Class := { plain "java/io/Serializable" (some 0) with
  accessFlags := 1537
  interfaces := #[]
  cf := some (fileOf pool6 2 #[] #[] 1537 4 #[] #[])
  fields := #[]
  methods := #[]
  instanceTypes := #[]
  staticTypes := #[]
  resolved := Array.replicate 8 none
  statics := none }

/-- the primitive byte -/
def k7 : Class := { plain "byte" none with kind := .primitive 'B', accessFlags := 0x411 }
/-- [B -/
def k8 : Class := { plain "[B" (some 0) with kind := .array 7 .byte, interfaces := #[5, 6], accessFlags := 1041 }

/-- the primitive int -/
def k9 : Class := { plain "int" none with kind := .primitive 'I', accessFlags := 0x411 }
/-- [I -/
def k10 : Class := { plain "[I" (some 0) with kind := .array 9 .int, interfaces := #[5, 6], accessFlags := 1041 }

def heap : Heap := #[]
def classes : Array Class := #[k0, k1, k2, k3, k4, k5, k6, k7, k8, k9, k10]
def interned : List (Array UInt16 × Addr) := []
def slotsUsed : Nat := 0
def theMethod : MethodId := ⟨1, 2⟩
def args0 : Array Value := #[.long 5, .long 3, .int 7]
def aboutOver (below : List Frame) : State where
  vm := { classes := classes, interned := interned.toArray }
  heap := heap
  slotsUsed := slotsUsed
  threads := #[{ frames := .invoking theMethod args0 :: below }]
def below0 : List Frame := [.native { method := ⟨0, 0⟩, args := #[] }]
def about1 : State := aboutOver below0
def p0 : Program := .bare "" "" ""
def e0 : Env := launch0.env 0 0 0
theorem w_frames : about1.frames = Frame.invoking theMethod args0 :: below0 := rfl
set_option maxRecDepth 65536 in
theorem w_args : argsFit about1.vm theMethod args0 = true := by decide +kernel
set_option maxRecDepth 65536 in
theorem w_heap : heapFits about1 = true := by decide +kernel
set_option maxRecDepth 65536 in
theorem w_runnable : about1.curStatus? = some .runnable := by decide +kernel
set_option maxRecDepth 65536 in
theorem w_alone : about1.alone = true := by decide +kernel
set_option maxRecDepth 65536 in
theorem w_named : about1.methodNamed? x = some theMethod := by decide +kernel
set_option maxRecDepth 65536 in
theorem w_hears : about1.hears theMethod below0 = true := by decide +kernel
set_option maxRecDepth 65536 in
theorem w_ripe : about1.ripe theMethod args0 below0 = true := by decide +kernel
theorem w_running : about1.status = .running := rfl
set_option maxRecDepth 65536 in
theorem w_room : about1.hasRoom e0.platform room_1 = true :=
  launch0.hasRoom_least _ room_1 (by decide +kernel) (by decide +kernel) (by decide +kernel) (by decide +kernel) (by decide +kernel) (by decide +kernel)
theorem allAtoms_all (ts : List Jvm.Cond) (a : Array Jvm.Value) (st : Jvm.State) : (allAtoms ts).before a st = ts.all (fun c => c.before a st) := by
  induction ts with
  | nil => rfl
  | cons c t ih =>
    show (Jvm.Cond.and c (allAtoms t)).before a st = _
    rw [Jvm.Cond.before_and, ih, List.all_cons]
def words1 : List Jvm.Cond := Jvm.Cond.code x code maxLocals ret :: tables_1
/-- a 'code' word, met by the world's own term for the bytes: nothing is compared byte by byte -/
theorem code_word {y : MethodName} {bytes : ByteArray} {mx : Nat} {rt : Option FieldType} {a : Array Value} {s : State} {m : MethodId} {meth : Method} {c : Code} (h1 : s.methodNamed? y = some m) (h2 : s.vm.method? m = some meth) (h3 : meth.code = some c) (h4 : c.code = bytes)
    (h5 : (c.maxLocals == mx && c.exceptionTable.isEmpty && decide (c.maxStack ≤ mostOperands) && decide (meth.sig.returnType = rt) && !meth.locks && decide (parseMethodDescriptor y.desc = some meth.sig)) = true) : (Jvm.Cond.code y bytes mx rt).before a s = true := by
  simp only [Bool.and_eq_true, beq_iff_eq, Bool.not_eq_true', decide_eq_true_eq] at h5
  obtain ⟨⟨⟨⟨⟨g1, g2⟩, g3⟩, g4⟩, g5⟩, g6⟩ := h5
  simp [Cond.before, Cond.holds, Cond.value, h1, h2, h3, h4, g1, g2, g3, g4, g5, g6]
def isCode : Jvm.Cond → Bool
  | .code _ _ _ _ => true
  | _ => false
theorem all_split {L : List Jvm.Cond} {P : Jvm.Cond → Bool} (h1 : L.all (fun c => isCode c || P c) = true) (h2 : ∀ c ∈ L.filter isCode, P c = true) : L.all P = true := by
  refine List.all_eq_true.mpr fun c hc => ?_
  have h := List.all_eq_true.mp h1 c hc
  rcases Bool.eq_false_or_eq_true (isCode c) with hi | hi
  · exact h2 c (List.mem_filter.mpr ⟨hc, hi⟩)
  · simpa [hi] using h
set_option maxRecDepth 65536 in
theorem w_c0 : (Jvm.Cond.code x code maxLocals ret).before args0 about1 = true := code_word (m := ⟨1, 2⟩) (meth := k1m2) (c := k1c2) (by decide +kernel) rfl rfl rfl (by decide +kernel)
set_option maxRecDepth 65536 in
theorem w_c1 : (Jvm.Cond.code ({ cls := "com/example/plumbline/plumbline/model/PlistUidEqualsPinLaw", name := "pick", desc := "(JJI)J" } : Jvm.MethodName) method_2_code (6 : Nat) (Option.some Jvm.ClassFile.FieldType.long)).before args0 about1 = true := code_word (m := ⟨1, 1⟩) (meth := k1m1) (c := k1c1) (by decide +kernel) rfl rfl rfl (by decide +kernel)
set_option maxRecDepth 65536 in
theorem w_c2 : (Jvm.Cond.code ({ cls := "com/example/plumbline/plumbline/model/PlistUid", name := "<init>", desc := "(J)V" } : Jvm.MethodName) prog_49_method_1_code (3 : Nat) (Option.none : Option Jvm.ClassFile.FieldType)).before args0 about1 = true := code_word (m := ⟨3, 0⟩) (meth := k3m0) (c := k3c0) (by decide +kernel) rfl rfl rfl (by decide +kernel)
set_option maxRecDepth 65536 in
theorem w_c3 : (Jvm.Cond.code ({ cls := "java/lang/Object", name := "<init>", desc := "()V" } : Jvm.MethodName) object_method_1_code (1 : Nat) (Option.none : Option Jvm.ClassFile.FieldType)).before args0 about1 = true := code_word (m := ⟨0, 0⟩) (meth := k0m0) (c := k0c0) (by decide +kernel) rfl rfl rfl (by decide +kernel)
set_option maxRecDepth 65536 in
theorem w_c4 : (Jvm.Cond.code ({ cls := "com/example/plumbline/plumbline/model/PlistInteger", name := "of", desc := "(J)Lcom/example/plumbline/plumbline/model/PlistInteger;" } : Jvm.MethodName) prog_45_method_2_code (2 : Nat) (Option.some (Jvm.ClassFile.FieldType.object "com/example/plumbline/plumbline/model/PlistInteger"))).before args0 about1 = true := code_word (m := ⟨4, 1⟩) (meth := k4m1) (c := k4c1) (by decide +kernel) rfl rfl rfl (by decide +kernel)
set_option maxRecDepth 65536 in
theorem w_c5 : (Jvm.Cond.code ({ cls := "com/example/plumbline/plumbline/model/PlistInteger", name := "<init>", desc := "(JZ)V" } : Jvm.MethodName) prog_45_method_1_code (4 : Nat) (Option.none : Option Jvm.ClassFile.FieldType)).before args0 about1 = true := code_word (m := ⟨4, 0⟩) (meth := k4m0) (c := k4c0) (by decide +kernel) rfl rfl rfl (by decide +kernel)
set_option maxRecDepth 65536 in
theorem w_c6 : (Jvm.Cond.code ({ cls := "com/example/plumbline/plumbline/model/PlistUid", name := "equals", desc := "(Ljava/lang/Object;)Z" } : Jvm.MethodName) prog_49_method_3_code (3 : Nat) (Option.some Jvm.ClassFile.FieldType.boolean)).before args0 about1 = true := code_word (m := ⟨3, 1⟩) (meth := k3m1) (c := k3c1) (by decide +kernel) rfl rfl rfl (by decide +kernel)
def codes1 : List Jvm.Cond := [Jvm.Cond.code x code maxLocals ret, Jvm.Cond.code ({ cls := "com/example/plumbline/plumbline/model/PlistUidEqualsPinLaw", name := "pick", desc := "(JJI)J" } : Jvm.MethodName) method_2_code (6 : Nat) (Option.some Jvm.ClassFile.FieldType.long), Jvm.Cond.code ({ cls := "com/example/plumbline/plumbline/model/PlistUid", name := "<init>", desc := "(J)V" } : Jvm.MethodName) prog_49_method_1_code (3 : Nat) (Option.none : Option Jvm.ClassFile.FieldType), Jvm.Cond.code ({ cls := "java/lang/Object", name := "<init>", desc := "()V" } : Jvm.MethodName) object_method_1_code (1 : Nat) (Option.none : Option Jvm.ClassFile.FieldType), Jvm.Cond.code ({ cls := "com/example/plumbline/plumbline/model/PlistInteger", name := "of", desc := "(J)Lcom/example/plumbline/plumbline/model/PlistInteger;" } : Jvm.MethodName) prog_45_method_2_code (2 : Nat) (Option.some (Jvm.ClassFile.FieldType.object "com/example/plumbline/plumbline/model/PlistInteger")), Jvm.Cond.code ({ cls := "com/example/plumbline/plumbline/model/PlistInteger", name := "<init>", desc := "(JZ)V" } : Jvm.MethodName) prog_45_method_1_code (4 : Nat) (Option.none : Option Jvm.ClassFile.FieldType), Jvm.Cond.code ({ cls := "com/example/plumbline/plumbline/model/PlistUid", name := "equals", desc := "(Ljava/lang/Object;)Z" } : Jvm.MethodName) prog_49_method_3_code (3 : Nat) (Option.some Jvm.ClassFile.FieldType.boolean)]
set_option maxRecDepth 65536 in
theorem codes_eq : words1.filter isCode = codes1 := rfl
theorem w_codes : ∀ c ∈ words1.filter isCode, c.before args0 about1 = true := by
  rw [codes_eq]
  intro c hc
  simp only [codes1, List.mem_cons, List.not_mem_nil, or_false] at hc
  rcases hc with rfl | rfl | rfl | rfl | rfl | rfl | rfl
  · exact w_c0
  · exact w_c1
  · exact w_c2
  · exact w_c3
  · exact w_c4
  · exact w_c5
  · exact w_c6
set_option maxRecDepth 65536 in
theorem w_t1 : (words1.take 24).all (fun c => isCode c || c.before args0 about1) = true := by decide +kernel
set_option maxRecDepth 65536 in
theorem w_t2 : (words1.drop 24).all (fun c => isCode c || c.before args0 about1) = true := by decide +kernel
theorem w_tables : (allAtoms (Jvm.Cond.code x code maxLocals ret :: tables_1)).before args0 about1 = true := by
  rw [allAtoms_all]
  show words1.all (fun c => c.before args0 about1) = true
  refine all_split ?_ w_codes
  rw [← List.take_append_drop 24 words1, List.all_append, w_t1, w_t2]
  rfl
set_option maxRecDepth 65536 in
theorem w_case : (Jvm.Cond.and given_1 narrow_1).before args0 about1 = true := by decide +kernel
theorem w_applies : (headSpec (Jvm.Cond.code x code maxLocals ret :: tables_1) room_1).applies x e0.platform about1 = true :=
  (Spec.applies_iff w_frames).mpr ⟨w_running, w_runnable, w_alone, w_named, w_hears, w_ripe, w_room, w_tables⟩
theorem atStart : AtStart classFile x code maxLocals ret World_1 tables_1 room_1 Calls_1 rest_1 Pre_1 launch0 p0 e0 about1 theMethod args0 below0 :=
  ⟨lists_1, trivial, launch0.admits_env _ _ _, launch0.least_env, fairChoices_fair.cas, fairChoices_fair.clock, w_frames, w_args, w_heap, w_applies, trivial, trivial, w_case⟩
end start1
theorem witness_1 : WitnessClaimed_1 := ⟨start1.p0, start1.e0, start1.about1, start1.theMethod, start1.args0, start1.below0, start1.atStart⟩
end Jvm.Pilot.@@N@@
